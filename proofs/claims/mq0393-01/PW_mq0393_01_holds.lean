import PyProof.Rows.All
import Wide.All
import OpenK.AllK
import Wide.FinOn
import Lean
import PySem.Challenge.RW_mq0393_01

open PySem PySem.W PyProof.Rows
set_option linter.all false
set_option Elab.async false
set_option maxRecDepth 100000
set_option maxHeartbeats 8000000 in
theorem Mine.said : PySem.Challenge.rw_mq0393_01.wellSaid = true := by
  unfold PySem.W.OpenLaw.wellSaid
  repeat' (with_reducible refine look_both ?_ ?_)
  all_goals first | (unfold PySem.W.OpenRow.wellSaid; repeat' (with_reducible refine look_both ?_ ?_)) | skip
  all_goals decide +kernel

open PySem PySem.W PyProof.Rows
set_option linter.all false
set_option Elab.async false
set_option maxRecDepth 100000
noncomputable section
namespace Mine.H
noncomputable abbrev pg : Program := PySem.Challenge.pw_mq0393_01
noncomputable def e (P : Params) (n : String) (t : Tok) (v : Value) : DictEntry := ⟨PyData.keyHash P (.ofString n), .str (.ofString n) t, v⟩
noncomputable def ec (P : Params) (n : PySem.Str) (t : Tok) (v : Value) : DictEntry := ⟨PyData.keyHash P n, .str n t, v⟩
noncomputable def fnOf : Stmt → Arguments × List Stmt × Scope
  | .FunctionDef _ a b _ _ _ s _ _ _ => (a, b, s)
  | _ => (⟨[], [], none, [], [], none, []⟩, [], { kind := .function, names := [], isGenerator := false, isCoroutine := false })
noncomputable def inOf : Stmt → List Stmt
  | .ClassDef _ _ _ b _ _ _ _ _ _ _ => b
  | _ => []
noncomputable def fnAt (i : Nat) : Arguments × List Stmt × Scope := fnOf ((pg.main.body.drop i).headD (.Pass ⟨0, 0, 0, 0⟩))
noncomputable def fnIn (i k : Nat) : Arguments × List Stmt × Scope := fnOf (((inOf ((pg.main.body.drop i).headD (.Pass ⟨0, 0, 0, 0⟩))).drop k).headD (.Pass ⟨0, 0, 0, 0⟩))
noncomputable def life : Life := ⟨[], [], [], 0, [], [], false, #[], [], 0, false, false, false, 0, [2000, 10, 10], false, 0, true, [], [], 0, false⟩
noncomputable def tS (P : Params) : BT := .nil
noncomputable def o0 (P : Params) : Obj := ⟨(.type "dict"), none, (.dict #[e P "__name__" 1 (.str (.ofString "builtins") 160), e P "__doc__" 2 (.builtin "builtins.__doc__:str#opaque"), e P "__package__" 3 (.builtin "builtins.__package__:str#opaque"), e P "__loader__" 4 (.builtin "builtins.__loader__:shared#opaque"), e P "__spec__" 5 (.builtin "builtins.__spec__#opaque"), e P "__build_class__" 6 (.builtin "__build_class__"), e P "__import__" 7 (.builtin "__import__"), e P "abs" 8 (.builtin "abs"), e P "all" 9 (.builtin "all"), e P "any" 10 (.builtin "any"), e P "ascii" 11 (.builtin "ascii"), e P "bin" 12 (.builtin "bin"), e P "breakpoint" 13 (.builtin "breakpoint"), e P "callable" 14 (.builtin "callable"), e P "chr" 15 (.builtin "chr"), e P "compile" 16 (.builtin "compile"), e P "delattr" 17 (.builtin "delattr"), e P "dir" 18 (.builtin "dir"), e P "divmod" 19 (.builtin "divmod"), e P "eval" 20 (.builtin "eval"), e P "exec" 21 (.builtin "exec"), e P "format" 22 (.builtin "format"), e P "getattr" 23 (.builtin "getattr"), e P "globals" 24 (.builtin "globals"), e P "hasattr" 25 (.builtin "hasattr"), e P "hash" 26 (.builtin "hash"), e P "hex" 27 (.builtin "hex"), e P "id" 28 (.builtin "id"), e P "input" 29 (.builtin "input"), e P "isinstance" 30 (.builtin "isinstance"), e P "issubclass" 31 (.builtin "issubclass"), e P "iter" 32 (.builtin "iter"), e P "aiter" 33 (.builtin "aiter"), e P "len" 34 (.builtin "len"), e P "locals" 35 (.builtin "locals"), e P "max" 36 (.builtin "max"), e P "min" 37 (.builtin "min"), e P "next" 38 (.builtin "next"), e P "anext" 39 (.builtin "anext"), e P "oct" 40 (.builtin "oct"), e P "ord" 41 (.builtin "ord"), e P "pow" 42 (.builtin "pow"), e P "print" 43 (.builtin "print"), e P "repr" 44 (.builtin "repr"), e P "round" 45 (.builtin "round"), e P "setattr" 46 (.builtin "setattr"), e P "sorted" 47 (.builtin "sorted"), e P "sum" 48 (.builtin "sum"), e P "vars" 49 (.builtin "vars"), e P "None" 50 .none, e P "Ellipsis" 51 .ellipsis, e P "NotImplemented" 52 .notImplemented, e P "False" 53 (.bool false), e P "True" 54 (.bool true), e P "bool" 55 (.type "bool"), e P "memoryview" 56 (.type "memoryview"), e P "bytearray" 57 (.type "bytearray"), e P "bytes" 58 (.type "bytes"), e P "classmethod" 59 (.type "classmethod"), e P "complex" 60 (.type "complex"), e P "dict" 61 (.type "dict"), e P "enumerate" 62 (.type "enumerate"), e P "filter" 63 (.type "filter"), e P "float" 64 (.type "float"), e P "frozenset" 65 (.type "frozenset"), e P "property" 66 (.type "property"), e P "int" 67 (.type "int"), e P "list" 68 (.type "list"), e P "map" 69 (.type "map"), e P "object" 70 (.type "object"), e P "range" 71 (.type "range"), e P "reversed" 72 (.type "reversed"), e P "set" 73 (.type "set"), e P "slice" 74 (.type "slice"), e P "staticmethod" 75 (.type "staticmethod"), e P "str" 76 (.type "str"), e P "super" 77 (.type "super"), e P "tuple" 78 (.type "tuple"), e P "type" 79 (.type "type"), e P "zip" 80 (.type "zip"), e P "__debug__" 81 (.bool true), e P "BaseException" 82 (.type "BaseException"), e P "BaseExceptionGroup" 83 (.type "BaseExceptionGroup"), e P "Exception" 84 (.type "Exception"), e P "GeneratorExit" 85 (.type "GeneratorExit"), e P "KeyboardInterrupt" 86 (.type "KeyboardInterrupt"), e P "SystemExit" 87 (.type "SystemExit"), e P "ArithmeticError" 88 (.type "ArithmeticError"), e P "AssertionError" 89 (.type "AssertionError"), e P "AttributeError" 90 (.type "AttributeError"), e P "BufferError" 91 (.type "BufferError"), e P "EOFError" 92 (.type "EOFError"), e P "ImportError" 93 (.type "ImportError"), e P "LookupError" 94 (.type "LookupError"), e P "MemoryError" 95 (.type "MemoryError"), e P "NameError" 96 (.type "NameError"), e P "OSError" 97 (.type "OSError"), e P "ReferenceError" 98 (.type "ReferenceError"), e P "RuntimeError" 99 (.type "RuntimeError"), e P "StopAsyncIteration" 100 (.type "StopAsyncIteration"), e P "StopIteration" 101 (.type "StopIteration"), e P "SyntaxError" 102 (.type "SyntaxError"), e P "SystemError" 103 (.type "SystemError"), e P "TypeError" 104 (.type "TypeError"), e P "ValueError" 105 (.type "ValueError"), e P "Warning" 106 (.type "Warning"), e P "FloatingPointError" 107 (.type "FloatingPointError"), e P "OverflowError" 108 (.type "OverflowError"), e P "ZeroDivisionError" 109 (.type "ZeroDivisionError"), e P "BytesWarning" 110 (.type "BytesWarning"), e P "DeprecationWarning" 111 (.type "DeprecationWarning"), e P "EncodingWarning" 112 (.type "EncodingWarning"), e P "FutureWarning" 113 (.type "FutureWarning"), e P "ImportWarning" 114 (.type "ImportWarning"), e P "PendingDeprecationWarning" 115 (.type "PendingDeprecationWarning"), e P "ResourceWarning" 116 (.type "ResourceWarning"), e P "RuntimeWarning" 117 (.type "RuntimeWarning"), e P "SyntaxWarning" 118 (.type "SyntaxWarning"), e P "UnicodeWarning" 119 (.type "UnicodeWarning"), e P "UserWarning" 120 (.type "UserWarning"), e P "BlockingIOError" 121 (.type "BlockingIOError"), e P "ChildProcessError" 122 (.type "ChildProcessError"), e P "ConnectionError" 123 (.type "ConnectionError"), e P "FileExistsError" 124 (.type "FileExistsError"), e P "FileNotFoundError" 125 (.type "FileNotFoundError"), e P "InterruptedError" 126 (.type "InterruptedError"), e P "IsADirectoryError" 127 (.type "IsADirectoryError"), e P "NotADirectoryError" 128 (.type "NotADirectoryError"), e P "PermissionError" 129 (.type "PermissionError"), e P "ProcessLookupError" 130 (.type "ProcessLookupError"), e P "TimeoutError" 131 (.type "TimeoutError"), e P "IndentationError" 132 (.type "IndentationError"), e P "_IncompleteInputError" 133 (.type "_IncompleteInputError"), e P "IndexError" 134 (.type "IndexError"), e P "KeyError" 135 (.type "KeyError"), e P "ModuleNotFoundError" 136 (.type "ModuleNotFoundError"), e P "NotImplementedError" 137 (.type "NotImplementedError"), e P "PythonFinalizationError" 138 (.type "PythonFinalizationError"), e P "RecursionError" 139 (.type "RecursionError"), e P "UnboundLocalError" 140 (.type "UnboundLocalError"), e P "UnicodeError" 141 (.type "UnicodeError"), e P "BrokenPipeError" 142 (.type "BrokenPipeError"), e P "ConnectionAbortedError" 143 (.type "ConnectionAbortedError"), e P "ConnectionRefusedError" 144 (.type "ConnectionRefusedError"), e P "ConnectionResetError" 145 (.type "ConnectionResetError"), e P "TabError" 146 (.type "TabError"), e P "UnicodeDecodeError" 147 (.type "UnicodeDecodeError"), e P "UnicodeEncodeError" 148 (.type "UnicodeEncodeError"), e P "UnicodeTranslateError" 149 (.type "UnicodeTranslateError"), e P "ExceptionGroup" 150 (.type "ExceptionGroup"), e P "EnvironmentError" 151 (.type "OSError"), e P "IOError" 152 (.type "OSError"), e P "open" 153 (.builtin "open"), e P "quit" 154 (.builtin "builtins.quit#opaque"), e P "exit" 155 (.builtin "builtins.exit#opaque"), e P "copyright" 156 (.builtin "builtins.copyright#opaque"), e P "credits" 157 (.builtin "builtins.credits#opaque"), e P "license" 158 (.builtin "builtins.license#opaque"), e P "help" 159 (.builtin "builtins.help#opaque")] 159), #[]⟩
noncomputable def o1 (P : Params) : Obj := ⟨(.type "dict"), none, (.dict #[e P "builtins" 162 (.ref 4), e P "__main__" 163 (.ref 5), e P "_sre" 244 (.ref 12), e P "_collections" 292 (.ref 30)] 4), #[]⟩
noncomputable def o2 (P : Params) : Obj := ⟨.none, none, (.dict #[ec P ⟨#[105, 109, 112, 111, 114, 116, 46, 108, 111, 97, 100, 101, 100, 46, 95, 115, 114, 101]⟩ 183 (.bool true), e P "class._frozen_importlib.BuiltinImporter" 185 (.ref 14), ec P ⟨#[119, 97, 116, 99, 104, 101, 100, 46, 105, 109, 112, 111, 114, 116]⟩ 206 (.ref 18), e P "class._frozen_importlib.ModuleSpec" 216 (.ref 22), e P "sys.modules.booked-epoch" 245 (.int 4 0), ec P ⟨#[105, 109, 112, 111, 114, 116, 46, 108, 97, 116, 101, 114, 45, 108, 97, 105, 100, 46, 95, 115, 114, 101]⟩ 270 (.bool true), e P "watched.library" 272 (.ref 27), e P "watched.library-objects" 0 (.str (.ofString "\x0c\x1e") 0), e P "watched.library-deep._sre" 273 (.str (.ofString "\x04\x00\x00\x0b\x04\x00\x00\x0b\x04\x00\x00\x03\x04\x00\x00\x0b\x08\x04dict\x02") 0), ec P ⟨#[105, 109, 112, 111, 114, 116, 46, 108, 111, 97, 100, 101, 100, 46, 95, 99, 111, 108, 108, 101, 99, 116, 105, 111, 110, 115]⟩ 280 (.bool true), e P "sys.modules.landed._collections" 294 (.bool true), ec P ⟨#[105, 109, 112, 111, 114, 116, 46, 108, 97, 116, 101, 114, 45, 108, 97, 105, 100, 46, 95, 99, 111, 108, 108, 101, 99, 116, 105, 111, 110, 115]⟩ 309 (.bool true), e P "watched.library-deep._collections" 311 (.str (.ofString "\x04\x00\x00\x1d\x04\x00\x00\x1d\x04\x00\x00\x03\x04\x00\x00\x1d\x08\x04dict\x02") 0)] 13), #[]⟩
noncomputable def o3 (P : Params) : Obj := ⟨(.type "dict"), none, (.dict #[e P "__name__" 165 (.str (.ofString "__main__") 164), e P "__doc__" 166 .none, e P "__package__" 167 .none, e P "__loader__" 168 (.builtin "__main__.__loader__#opaque"), e P "__spec__" 169 .none, e P "__annotations__" 170 (.ref 6), e P "__builtins__" 171 (.ref 4), e P "__file__" 173 (.str (.ofString "/claim/cut.py") 172), e P "__cached__" 174 .none, e P "_sre" 275 (.ref 12), e P "deque" 317 (.type "collections.deque")] 11), #[]⟩
noncomputable def o4 (P : Params) : Obj := ⟨(.type "module"), (some 0), .plain, #[]⟩
noncomputable def o5 (P : Params) : Obj := ⟨(.type "module"), (some 3), .plain, #[]⟩
noncomputable def o6 (P : Params) : Obj := ⟨(.type "dict"), none, (.dict #[] 0), #[]⟩
noncomputable def o7 (P : Params) : Obj := ⟨(.type "tuple"), none, (.seq #[] 0), #[]⟩
noncomputable def o8 (P : Params) : Obj := ⟨.none, none, (.fields #[]), #[]⟩
noncomputable def o9 (P : Params) : Obj := ⟨(.type "code"), none, (.fields #[(.str (.ofString "<module>") 176), (.str (.ofString "<module>") 177), (.str (.ofString "/claim/cut.py") 178), (.int 1 0), (.int 0 0), (.int 0 0), (.int 0 0), (.int 0 0), (.ref 7), (.bool false), (.int 175 0), (.ref 8), .none, .none, .none, .none, (.int 179 0), (.int 1 0), (.str (.ofString "/claim/cut.py") 180)]), #[]⟩
noncomputable def o10 (P : Params) : Obj := ⟨(.type "frame"), none, .plain, #[(some (.ref 9)), (some (.ref 3)), (some (.ref 3)), none, (some (.str (.ofString "__main__") 164)), none, (some (.ref 0))]⟩
noncomputable def o11 (P : Params) : Obj := ⟨(.type "dict"), none, (.dict #[e P "__name__" 247 (.str (.ofString "_sre") 246), e P "__doc__" 248 .none, e P "__package__" 250 (.str (.ofString "") 249), e P "__loader__" 251 (.ref 14), e P "__spec__" 252 (.ref 26), e P "compile" 253 (.builtin "_sre.compile"), e P "template" 254 (.builtin "_sre.template"), e P "getcodesize" 255 (.builtin "_sre.getcodesize"), e P "ascii_iscased" 256 (.builtin "_sre.ascii_iscased"), e P "unicode_iscased" 257 (.builtin "_sre.unicode_iscased"), e P "ascii_tolower" 258 (.builtin "_sre.ascii_tolower"), e P "unicode_tolower" 259 (.builtin "_sre.unicode_tolower"), e P "MAGIC" 261 (.int 20230612 260), e P "CODESIZE" 263 (.int 4 262), e P "MAXREPEAT" 265 (.int 4294967295 264), e P "MAXGROUPS" 267 (.int 1073741823 266), e P "copyright" 269 (.str (.ofString " SRE 2.2.2 Copyright (c) 1997-2002 by Secret Labs AB ") 268)] 17), #[]⟩
noncomputable def o12 (P : Params) : Obj := ⟨(.type "module"), (some 11), .plain, #[]⟩
noncomputable def o13 (P : Params) : Obj := ⟨(.type "dict"), none, (.dict #[e P "__module__" 189 (.str (.ofString "_frozen_importlib") 186), e P "__firstlineno__" 190 (.int 971 187), e P "__doc__" 191 (.builtin "_frozen_importlib.BuiltinImporter.__doc__:str#opaque"), e P "_ORIGIN" 192 (.str (.ofString "built-in") 188), e P "find_spec" 193 (.builtin "_frozen_importlib.BuiltinImporter.find_spec#opaque"), e P "create_module" 194 (.builtin "_frozen_importlib.BuiltinImporter.create_module#opaque"), e P "exec_module" 195 (.builtin "_frozen_importlib.BuiltinImporter.exec_module#opaque"), e P "get_code" 196 (.builtin "_frozen_importlib.BuiltinImporter.get_code#opaque"), e P "get_source" 197 (.builtin "_frozen_importlib.BuiltinImporter.get_source#opaque"), e P "is_package" 198 (.builtin "_frozen_importlib.BuiltinImporter.is_package#opaque"), e P "load_module" 199 (.builtin "_frozen_importlib.BuiltinImporter.load_module#opaque"), e P "__static_attributes__" 200 (.ref 15), e P "__dict__" 202 (.ref 16), e P "__weakref__" 204 (.ref 17)] 14), #[]⟩
noncomputable def o14 (P : Params) : Obj := ⟨(.type "type"), none, (.cls ⟨(.ofString "BuiltinImporter"), [(.type "object")], [(.ref 14), (.type "object")], 13, (.ofString "BuiltinImporter"), true, [], [], false, none, false⟩), #[]⟩
noncomputable def o15 (P : Params) : Obj := ⟨(.type "tuple"), none, (.seq #[] 0), #[]⟩
noncomputable def o16 (P : Params) : Obj := ⟨(.type "getset_descriptor"), none, (.fields #[(.str (.ofString "__dict__") 201), (.ref 14), (.builtin "function.__dict__"), (.builtin "function.__dict__#set")]), #[]⟩
noncomputable def o17 (P : Params) : Obj := ⟨(.type "getset_descriptor"), none, (.fields #[(.str (.ofString "__weakref__") 203), (.ref 14), (.builtin "ExceptionGroup.__weakref__"), .none]), #[]⟩
noncomputable def o18 (P : Params) : Obj := ⟨.none, none, (.seq #[(.int 13 0), (.str (.ofString "\x06½\n__module__\x06º\x11_frozen_importlib\x06¾\x0f__firstlineno__\x04»\x00ϋ\x06¿\x07__doc__\t4_frozen_importlib.BuiltinImporter.__doc__:str#opaque\x06À\x07_ORIGIN\x06¼\x08built-in\x06Á\tfind_spec\t2_frozen_importlib.BuiltinImporter.find_spec#opaque\x06Â\x0dcreate_module\t6_frozen_importlib.BuiltinImporter.create_module#opaque\x06Ã\x0bexec_module\t4_frozen_importlib.BuiltinImporter.exec_module#opaque\x06Ä\x08get_code\t1_frozen_importlib.BuiltinImporter.get_code#opaque\x06Å\nget_source\t3_frozen_importlib.BuiltinImporter.get_source#opaque\x06Æ\nis_package\t3_frozen_importlib.BuiltinImporter.is_package#opaque\x06Ç\x0bload_module\t4_frozen_importlib.BuiltinImporter.load_module#opaque\x06È\x15__static_attributes__\x04\x00\x00\x0f\x06Ê\x08__dict__\x04\x00\x00\x10\x06Ì\x0b__weakref__\x04\x00\x00\x11") 0), (.bool true), (.bool true), (.str (.ofString "") 205), (.int 21 0), (.str (.ofString "\x06ã\n__module__\x06Ù\x11_frozen_importlib\x06ä\x0f__firstlineno__\x04Ú\x00Ȳ\x06å\x07__doc__\t/_frozen_importlib.ModuleSpec.__doc__:str#opaque\x06æ\x08__init__\t,_frozen_importlib.ModuleSpec.__init__#opaque\x06ç\x08__repr__\t,_frozen_importlib.ModuleSpec.__repr__#opaque\x06è\x06__eq__\t*_frozen_importlib.ModuleSpec.__eq__#opaque\x06é\x06cached\t*_frozen_importlib.ModuleSpec.cached#opaque\x06ê\x06parent\t*_frozen_importlib.ModuleSpec.parent#opaque\x06ë\x0chas_location\t0_frozen_importlib.ModuleSpec.has_location#opaque\x06ì\x15__static_attributes__\x04\x00\x00\x17\x06î\x08__dict__\x04\x00\x00\x18\x06ð\x0b__weakref__\x04\x00\x00\x19\x06ñ\x08__hash__\x00") 0), (.bool true), (.bool true), (.str (.ofString "") 242)] 1), #[]⟩
noncomputable def o19 (P : Params) : Obj := ⟨(.type "list"), none, (.seq #[] 0), #[]⟩
noncomputable def o20 (P : Params) : Obj := ⟨(.type "dict"), none, (.dict #[e P "name" 208 (.str (.ofString "_sre") 207), e P "loader" 209 (.ref 14), e P "origin" 210 (.str (.ofString "built-in") 184), e P "loader_state" 211 .none, e P "submodule_search_locations" 212 .none, e P "_uninitialized_submodules" 213 (.ref 19), e P "_set_fileattr" 214 (.bool false), e P "_cached" 215 .none, e P "_initializing" 243 (.bool false)] 9), #[]⟩
noncomputable def o21 (P : Params) : Obj := ⟨(.type "dict"), none, (.dict #[e P "__module__" 227 (.str (.ofString "_frozen_importlib") 217), e P "__firstlineno__" 228 (.int 562 218), e P "__doc__" 229 (.builtin "_frozen_importlib.ModuleSpec.__doc__:str#opaque"), e P "__init__" 230 (.builtin "_frozen_importlib.ModuleSpec.__init__#opaque"), e P "__repr__" 231 (.builtin "_frozen_importlib.ModuleSpec.__repr__#opaque"), e P "__eq__" 232 (.builtin "_frozen_importlib.ModuleSpec.__eq__#opaque"), e P "cached" 233 (.builtin "_frozen_importlib.ModuleSpec.cached#opaque"), e P "parent" 234 (.builtin "_frozen_importlib.ModuleSpec.parent#opaque"), e P "has_location" 235 (.builtin "_frozen_importlib.ModuleSpec.has_location#opaque"), e P "__static_attributes__" 236 (.ref 23), e P "__dict__" 238 (.ref 24), e P "__weakref__" 240 (.ref 25), e P "__hash__" 241 .none] 13), #[]⟩
noncomputable def o22 (P : Params) : Obj := ⟨(.type "type"), none, (.cls ⟨(.ofString "ModuleSpec"), [(.type "object")], [(.ref 22), (.type "object")], 21, (.ofString "ModuleSpec"), true, [], [], false, none, false⟩), #[]⟩
noncomputable def o23 (P : Params) : Obj := ⟨(.type "tuple"), none, (.seq #[(.str (.ofString "_cached") 219), (.str (.ofString "_set_fileattr") 220), (.str (.ofString "_uninitialized_submodules") 221), (.str (.ofString "loader") 222), (.str (.ofString "loader_state") 223), (.str (.ofString "name") 224), (.str (.ofString "origin") 225), (.str (.ofString "submodule_search_locations") 226)] 0), #[]⟩
noncomputable def o24 (P : Params) : Obj := ⟨(.type "getset_descriptor"), none, (.fields #[(.str (.ofString "__dict__") 237), (.ref 22), (.builtin "function.__dict__"), (.builtin "function.__dict__#set")]), #[]⟩
noncomputable def o25 (P : Params) : Obj := ⟨(.type "getset_descriptor"), none, (.fields #[(.str (.ofString "__weakref__") 239), (.ref 22), (.builtin "ExceptionGroup.__weakref__"), .none]), #[]⟩
noncomputable def o26 (P : Params) : Obj := ⟨(.ref 22), (some 20), .plain, #[]⟩
noncomputable def o27 (P : Params) : Obj := ⟨.none, none, (.seq #[(.int 11 0), (.str ⟨#[6, 247, 8, 95, 95, 110, 97, 109, 101, 95, 95, 6, 246, 4, 95, 115, 114, 101, 6, 248, 7, 95, 95, 100, 111, 99, 95, 95, 0, 6, 250, 11, 95, 95, 112, 97, 99, 107, 97, 103, 101, 95, 95, 6, 249, 0, 6, 251, 10, 95, 95, 108, 111, 97, 100, 101, 114, 95, 95, 4, 0, 0, 14, 6, 252, 8, 95, 95, 115, 112, 101, 99, 95, 95, 4, 0, 0, 26, 6, 253, 7, 99, 111, 109, 112, 105, 108, 101, 9, 12, 95, 115, 114, 101, 46, 99, 111, 109, 112, 105, 108, 101, 6, 254, 8, 116, 101, 109, 112, 108, 97, 116, 101, 9, 13, 95, 115, 114, 101, 46, 116, 101, 109, 112, 108, 97, 116, 101, 6, 255, 11, 103, 101, 116, 99, 111, 100, 101, 115, 105, 122, 101, 9, 16, 95, 115, 114, 101, 46, 103, 101, 116, 99, 111, 100, 101, 115, 105, 122, 101, 6, 256, 13, 97, 115, 99, 105, 105, 95, 105, 115, 99, 97, 115, 101, 100, 9, 18, 95, 115, 114, 101, 46, 97, 115, 99, 105, 105, 95, 105, 115, 99, 97, 115, 101, 100, 6, 257, 15, 117, 110, 105, 99, 111, 100, 101, 95, 105, 115, 99, 97, 115, 101, 100, 9, 20, 95, 115, 114, 101, 46, 117, 110, 105, 99, 111, 100, 101, 95, 105, 115, 99, 97, 115, 101, 100, 6, 258, 13, 97, 115, 99, 105, 105, 95, 116, 111, 108, 111, 119, 101, 114, 9, 18, 95, 115, 114, 101, 46, 97, 115, 99, 105, 105, 95, 116, 111, 108, 111, 119, 101, 114, 6, 259, 15, 117, 110, 105, 99, 111, 100, 101, 95, 116, 111, 108, 111, 119, 101, 114, 9, 20, 95, 115, 114, 101, 46, 117, 110, 105, 99, 111, 100, 101, 95, 116, 111, 108, 111, 119, 101, 114, 6, 261, 5, 77, 65, 71, 73, 67, 4, 260, 0, 20230612, 6, 263, 8, 67, 79, 68, 69, 83, 73, 90, 69, 4, 262, 0, 4, 6, 265, 9, 77, 65, 88, 82, 69, 80, 69, 65, 84, 4, 264, 0, 4294967295, 6, 267, 9, 77, 65, 88, 71, 82, 79, 85, 80, 83, 4, 266, 0, 1073741823, 6, 269, 9, 99, 111, 112, 121, 114, 105, 103, 104, 116, 6, 268, 53, 32, 83, 82, 69, 32, 50, 46, 50, 46, 50, 32, 67, 111, 112, 121, 114, 105, 103, 104, 116, 32, 40, 99, 41, 32, 49, 57, 57, 55, 45, 50, 48, 48, 50, 32, 98, 121, 32, 83, 101, 99, 114, 101, 116, 32, 76, 97, 98, 115, 32, 65, 66, 32]⟩ 0), (.bool true), (.bool false), (.str (.ofString "_sre") 271), (.int 29 0), (.str (.ofString "\x06Ĩ\x08__name__\x06ħ\x0c_collections\x06ĩ\x07__doc__\t\x1f_collections.__doc__:str#opaque\x06ī\x0b__package__\x06Ī\x00\x06Ĭ\n__loader__\x04\x00\x00\x0e\x06ĭ\x08__spec__\x04\x00\x00!\x06Į\x0f_count_elements\t\x1c_collections._count_elements\x06į\x05deque\x08\x11collections.deque\x06İ\x0bdefaultdict\x08\x17collections.defaultdict\x06ı\x0f_deque_iterator\x08\x1bcollections._deque_iterator\x06Ĳ\x17_deque_reverse_iterator\x08#collections._deque_reverse_iterator\x06ĳ\x0c_tuplegetter\x08\x18collections._tuplegetter\x06Ĵ\x0bOrderedDict\x08\x17collections.OrderedDict") 0), (.bool true), (.bool false), (.str (.ofString "_collections") 310)] 1), #[]⟩
noncomputable def o28 (P : Params) : Obj := ⟨(.type "tuple"), none, (.seq #[(.str (.ofString "deque") 277)] 0), #[]⟩
noncomputable def o29 (P : Params) : Obj := ⟨(.type "dict"), none, (.dict #[e P "__name__" 296 (.str (.ofString "_collections") 295), e P "__doc__" 297 (.builtin "_collections.__doc__:str#opaque"), e P "__package__" 299 (.str (.ofString "") 298), e P "__loader__" 300 (.ref 14), e P "__spec__" 301 (.ref 33), e P "_count_elements" 302 (.builtin "_collections._count_elements"), e P "deque" 303 (.type "collections.deque"), e P "defaultdict" 304 (.type "collections.defaultdict"), e P "_deque_iterator" 305 (.type "collections._deque_iterator"), e P "_deque_reverse_iterator" 306 (.type "collections._deque_reverse_iterator"), e P "_tuplegetter" 307 (.type "collections._tuplegetter"), e P "OrderedDict" 308 (.type "collections.OrderedDict")] 12), #[]⟩
noncomputable def o30 (P : Params) : Obj := ⟨(.type "module"), (some 29), .plain, #[]⟩
noncomputable def o31 (P : Params) : Obj := ⟨(.type "list"), none, (.seq #[] 0), #[]⟩
noncomputable def o32 (P : Params) : Obj := ⟨(.type "dict"), none, (.dict #[e P "name" 283 (.str (.ofString "_collections") 282), e P "loader" 284 (.ref 14), e P "origin" 285 (.str (.ofString "built-in") 281), e P "loader_state" 286 .none, e P "submodule_search_locations" 287 .none, e P "_uninitialized_submodules" 288 (.ref 31), e P "_set_fileattr" 289 (.bool false), e P "_cached" 290 .none, e P "_initializing" 291 (.bool false)] 9), #[]⟩
noncomputable def o33 (P : Params) : Obj := ⟨(.ref 22), (some 32), .plain, #[]⟩
noncomputable def tI (P : Params) : BT := (.node (o0 P) (.node (o1 P) (.node (o3 P) (.node (o7 P) (.node (o15 P) (.node (o31 P) .nil .nil) .nil) (.node (o23 P) .nil .nil)) (.node (o11 P) (.node (o19 P) .nil .nil) (.node (o27 P) .nil .nil))) (.node (o5 P) (.node (o9 P) (.node (o17 P) (.node (o33 P) .nil .nil) .nil) (.node (o25 P) .nil .nil)) (.node (o13 P) (.node (o21 P) .nil .nil) (.node (o29 P) .nil .nil)))) (.node (o2 P) (.node (o4 P) (.node (o8 P) (.node (o16 P) (.node (o32 P) .nil .nil) .nil) (.node (o24 P) .nil .nil)) (.node (o12 P) (.node (o20 P) .nil .nil) (.node (o28 P) .nil .nil))) (.node (o6 P) (.node (o10 P) (.node (o18 P) .nil .nil) (.node (o26 P) .nil .nil)) (.node (o14 P) (.node (o22 P) .nil .nil) (.node (o30 P) .nil .nil)))))
noncomputable def hI (P : Params) : Heap := absHeap (tI P) 34 life
noncomputable def o11v1 (P : Params) : Obj := ⟨(.type "dict"), none, (.dict #[e P "__name__" 247 (.str (.ofString "_sre") 246), e P "__doc__" 248 .none, e P "__package__" 250 (.str (.ofString "") 249), e P "__loader__" 251 (.builtin "off-the-table:_sre.__loader__:shared#opaque"), e P "__spec__" 252 (.builtin "off-the-table:_sre.__spec__:shared#opaque"), e P "compile" 253 (.builtin "_sre.compile"), e P "template" 254 (.builtin "off-the-table:_sre.template:shared#opaque"), e P "getcodesize" 255 (.builtin "off-the-table:_sre.getcodesize:shared#opaque"), e P "ascii_iscased" 256 (.builtin "off-the-table:_sre.ascii_iscased:shared#opaque"), e P "unicode_iscased" 257 (.builtin "off-the-table:_sre.unicode_iscased:shared#opaque"), e P "ascii_tolower" 258 (.builtin "off-the-table:_sre.ascii_tolower:shared#opaque"), e P "unicode_tolower" 259 (.builtin "off-the-table:_sre.unicode_tolower:shared#opaque"), e P "MAGIC" 261 (.int 20230612 260), e P "CODESIZE" 263 (.int 4 262), e P "MAXREPEAT" 265 (.int 4294967295 264), e P "MAXGROUPS" 267 (.int 1073741823 266), e P "copyright" 269 (.str (.ofString " SRE 2.2.2 Copyright (c) 1997-2002 by Secret Labs AB ") 268)] 17), #[]⟩
noncomputable def o29v1 (P : Params) : Obj := ⟨(.type "dict"), none, (.dict #[e P "__name__" 296 (.str (.ofString "_collections") 295), e P "__doc__" 297 (.builtin "off-the-table:_collections.__doc__:shared#opaque"), e P "__package__" 299 (.str (.ofString "") 298), e P "__loader__" 300 (.builtin "off-the-table:_collections.__loader__:shared#opaque"), e P "__spec__" 301 (.builtin "off-the-table:_collections.__spec__:shared#opaque"), e P "_count_elements" 302 (.builtin "_collections._count_elements"), e P "deque" 303 (.type "collections.deque"), e P "defaultdict" 304 (.type "collections.defaultdict"), e P "_deque_iterator" 305 (.builtin "off-the-table:_collections._deque_iterator:shared#opaque"), e P "_deque_reverse_iterator" 306 (.builtin "off-the-table:_collections._deque_reverse_iterator:shared#opaque"), e P "_tuplegetter" 307 (.type "collections._tuplegetter"), e P "OrderedDict" 308 (.type "collections.OrderedDict")] 12), #[]⟩
noncomputable def h0 (P : Params) : Heap := ⟨⟨[o0 P, o1 P, o2 P, o3 P, o4 P, o5 P, o6 P, o7 P, o8 P, o9 P, o10 P, o11v1 P, o12 P, o13 P, o14 P, o15 P, o16 P, o17 P, o18 P, o19 P, o20 P, o21 P, o22 P, o23 P, o24 P, o25 P, o26 P, o27 P, o28 P, o29v1 P, o30 P, o31 P, o32 P, o33 P]⟩, life⟩
noncomputable def o34 (P : Params) : Obj := ⟨(.type "tuple"), none, (.seq #[] 0), #[]⟩
noncomputable def o35 (P : Params) : Obj := ⟨.none, none, (.fields #[]), #[]⟩
noncomputable def o36 (P : Params) : Obj := ⟨(.type "code"), none, (.fields #[(.str (.ofString "<module>") 319), (.str (.ofString "<module>") 320), (.str (.ofString "/claim/cut.py") 321), (.int 1 0), (.int 0 0), (.int 0 0), (.int 0 0), (.int 0 0), (.ref 34), (.bool false), (.int 318 0), (.ref 35), .none, .none, .none, .none, (.int 322 0), (.int 1 0), (.str (.ofString "/claim/cut.py") 323)]), #[]⟩
noncomputable def o37 (P : Params) : Obj := ⟨(.type "frame"), none, .plain, #[(some (.ref 36)), (some (.ref 3)), (some (.ref 3)), none, (some (.str (.ofString "__main__") 164)), none, (some (.ref 0))]⟩
noncomputable def hA (P : Params) : Heap := ⟨⟨[o0 P, o1 P, o2 P, o3 P, o4 P, o5 P, o6 P, o7 P, o8 P, o9 P, o10 P, o11v1 P, o12 P, o13 P, o14 P, o15 P, o16 P, o17 P, o18 P, o19 P, o20 P, o21 P, o22 P, o23 P, o24 P, o25 P, o26 P, o27 P, o28 P, o29v1 P, o30 P, o31 P, o32 P, o33 P, o34 P, o35 P, o36 P, o37 P]⟩, life⟩
noncomputable def tB (P : Params) : BT := (.node (o0 P) (.node (o1 P) (.node (o3 P) (.node (o7 P) (.node (o15 P) (.node (o31 P) .nil .nil) .nil) (.node (o23 P) .nil .nil)) (.node (o11v1 P) (.node (o19 P) (.node (o35 P) .nil .nil) .nil) (.node (o27 P) .nil .nil))) (.node (o5 P) (.node (o9 P) (.node (o17 P) (.node (o33 P) .nil .nil) .nil) (.node (o25 P) .nil .nil)) (.node (o13 P) (.node (o21 P) (.node (o37 P) .nil .nil) .nil) (.node (o29v1 P) .nil .nil)))) (.node (o2 P) (.node (o4 P) (.node (o8 P) (.node (o16 P) (.node (o32 P) .nil .nil) .nil) (.node (o24 P) .nil .nil)) (.node (o12 P) (.node (o20 P) (.node (o36 P) .nil .nil) .nil) (.node (o28 P) .nil .nil))) (.node (o6 P) (.node (o10 P) (.node (o18 P) (.node (o34 P) .nil .nil) .nil) (.node (o26 P) .nil .nil)) (.node (o14 P) (.node (o22 P) .nil .nil) (.node (o30 P) .nil .nil)))))
noncomputable def o2v1 (P : Params) : Obj := ⟨.none, none, (.dict #[ec P ⟨#[105, 109, 112, 111, 114, 116, 46, 108, 111, 97, 100, 101, 100, 46, 95, 115, 114, 101]⟩ 183 (.bool true), e P "class._frozen_importlib.BuiltinImporter" 185 (.ref 14), ec P ⟨#[119, 97, 116, 99, 104, 101, 100, 46, 105, 109, 112, 111, 114, 116]⟩ 206 (.ref 18), e P "class._frozen_importlib.ModuleSpec" 216 (.ref 22), e P "sys.modules.booked-epoch" 245 (.int 4 0), ec P ⟨#[105, 109, 112, 111, 114, 116, 46, 108, 97, 116, 101, 114, 45, 108, 97, 105, 100, 46, 95, 115, 114, 101]⟩ 270 (.bool true), e P "watched.library" 272 (.ref 27), e P "watched.library-objects" 0 (.str (.ofString "\x0c\x1e") 0), e P "watched.library-deep._sre" 273 (.str (.ofString "\x04\x00\x00\x0b\x04\x00\x00\x0b\x04\x00\x00\x03\x04\x00\x00\x0b\x08\x04dict\x02") 0), ec P ⟨#[105, 109, 112, 111, 114, 116, 46, 108, 111, 97, 100, 101, 100, 46, 95, 99, 111, 108, 108, 101, 99, 116, 105, 111, 110, 115]⟩ 280 (.bool true), e P "sys.modules.landed._collections" 294 (.bool true), ec P ⟨#[105, 109, 112, 111, 114, 116, 46, 108, 97, 116, 101, 114, 45, 108, 97, 105, 100, 46, 95, 99, 111, 108, 108, 101, 99, 116, 105, 111, 110, 115]⟩ 309 (.bool true), e P "watched.library-deep._collections" 311 (.str (.ofString "\x04\x00\x00\x1d\x04\x00\x00\x1d\x04\x00\x00\x03\x04\x00\x00\x1d\x08\x04dict\x02") 0), e P "type.__subclasses__.OSError.0" 419 (.int 80 0), e P "type.__subclasses__.OSError.n" 420 (.int 1 0)] 15), #[]⟩
noncomputable def o3v1 (P : Params) : Obj := ⟨(.type "dict"), none, (.dict #[e P "__name__" 165 (.str (.ofString "io") 383), e P "__doc__" 166 .none, e P "__package__" 167 .none, e P "__loader__" 168 (.builtin "__main__.__loader__#opaque"), e P "__spec__" 169 .none, e P "__annotations__" 170 (.ref 6), e P "__builtins__" 171 (.ref 4), e P "__file__" 173 (.str (.ofString "/claim/cut.py") 172), e P "__cached__" 174 .none, e P "_sre" 275 (.ref 12), e P "deque" 317 (.type "collections.deque"), e P "_wall" 330 (.ref 44), e P "_strip_exception_details" 342 (.ref 51), e P "_twin_re_1" 382 (.ref 56), e P "_whence" 392 (.ref 63), e P "_index" 400 (.ref 70), e P "UnsupportedOperation" 422 (.ref 80), e P "IOBase" 454 (.ref 100), e P "BufferedIOBase" 472 (.ref 115), e P "TextIOBase" 490 (.ref 127)] 20), #[]⟩
noncomputable def o35v1 (P : Params) : Obj := ⟨.none, none, (.fields #[(.int 3 0), (.int 0 0), (.ref 43), (.int 7 0), (.int 0 0), (.ref 50), (.int 21 0), (.int 0 0), (.ref 62), (.int 26 0), (.int 0 0), (.ref 69), (.int 33 0), (.int 0 0), (.ref 76), (.int 35 0), (.int 0 0), (.ref 89), (.int 42 0), (.int 0 0), (.ref 111), (.int 44 0), (.int 0 0), (.ref 123)]), #[]⟩
noncomputable def o38 (P : Params) : Obj := ⟨(.type "tuple"), none, (.seq #[] 0), #[]⟩
noncomputable def o39 (P : Params) : Obj := ⟨.none, none, (.fields #[]), #[]⟩
noncomputable def o40 (P : Params) : Obj := ⟨(.type "tuple"), none, (.seq #[(.str (.ofString "k") 327)] 0), #[]⟩
noncomputable def o41 (P : Params) : Obj := ⟨(.type "tuple"), none, (.seq #[] 0), #[]⟩
noncomputable def o42 (P : Params) : Obj := ⟨.none, none, (.func ⟨(.ofString "_wall"), (.ofString "_wall"), (fnAt 2).1, .stmts (fnAt 2).2.1, (fnAt 2).2.2, 0, [], .none, .none, .none, .none, none, .none, .none, 0⟩), #[]⟩
noncomputable def o43 (P : Params) : Obj := ⟨(.type "code"), none, (.fields #[(.str (.ofString "_wall") 324), (.str (.ofString "_wall") 325), (.str (.ofString "/claim/cut.py") 326), (.int 3 0), (.int 1 0), (.int 0 0), (.int 0 0), (.int 3 0), (.ref 38), (.bool true), (.int 318 0), (.ref 39), .none, (.ref 40), (.ref 41), (.ref 42), (.int 328 0), (.int 3 0), (.str (.ofString "/claim/cut.py") 329)]), #[]⟩
noncomputable def o44 (P : Params) : Obj := ⟨(.type "function"), none, (.func ⟨(.ofString "_wall"), (.ofString "_wall"), (fnAt 2).1, .stmts (fnAt 2).2.1, (fnAt 2).2.2, 3, [], .none, .none, .none, (.str (.ofString "__main__") 164), none, (.ref 43), .none, 0⟩), #[]⟩
noncomputable def o45 (P : Params) : Obj := ⟨(.type "tuple"), none, (.seq #[] 0), #[]⟩
noncomputable def o46 (P : Params) : Obj := ⟨.none, none, (.fields #[]), #[]⟩
noncomputable def o47 (P : Params) : Obj := ⟨(.type "tuple"), none, (.seq #[(.str (.ofString "msg") 336), (.str (.ofString "start") 337), (.str (.ofString "end") 338), (.str (.ofString "i") 339)] 0), #[]⟩
noncomputable def o48 (P : Params) : Obj := ⟨(.type "tuple"), none, (.seq #[] 0), #[]⟩
noncomputable def o49 (P : Params) : Obj := ⟨.none, none, (.func ⟨(.ofString "_strip_exception_details"), (.ofString "_strip_exception_details"), (fnAt 4).1, .stmts (fnAt 4).2.1, (fnAt 4).2.2, 0, [], .none, .none, .none, .none, none, .none, .none, 0⟩), #[]⟩
noncomputable def o50 (P : Params) : Obj := ⟨(.type "code"), none, (.fields #[(.str (.ofString "_strip_exception_details") 333), (.str (.ofString "_strip_exception_details") 334), (.str (.ofString "/claim/cut.py") 335), (.int 7 0), (.int 1 0), (.int 0 0), (.int 0 0), (.int 3 0), (.ref 45), (.bool true), (.int 318 0), (.ref 46), .none, (.ref 47), (.ref 48), (.ref 49), (.int 340 0), (.int 7 0), (.str (.ofString "/claim/cut.py") 341)]), #[]⟩
noncomputable def o51 (P : Params) : Obj := ⟨(.type "function"), none, (.func ⟨(.ofString "_strip_exception_details"), (.ofString "_strip_exception_details"), (fnAt 4).1, .stmts (fnAt 4).2.1, (fnAt 4).2.2, 3, [], .none, .none, .none, (.str (.ofString "cpy313.doctest") 331), none, (.ref 50), .none, 0⟩), #[]⟩
noncomputable def o52 (P : Params) : Obj := ⟨(.type "list"), none, (.seq #[(.int 14 346), (.int 17 347), (.int 4 348), (.int 1 349), (.int 1 350), (.int 21 351), (.int 9 352), (.int 0 353), (.int 604043296 354), (.int 1 355), (.int 0 356), (.int 0 357), (.int 0 358), (.int 0 359), (.int 0 360), (.int 8 361), (.int 4 362), (.int 0 363), (.int 13 364), (.int 14 365), (.int 21 366), (.int 9 367), (.int 0 368), (.int 604043296 369), (.int 1 370), (.int 0 371), (.int 0 372), (.int 0 373), (.int 0 374), (.int 0 375), (.int 8 376), (.int 4 377), (.int 0 378), (.int 1 379)] 0), #[]⟩
noncomputable def o53 (P : Params) : Obj := ⟨(.type "dict"), none, (.dict #[] 0), #[]⟩
noncomputable def o54 (P : Params) : Obj := ⟨(.type "tuple"), none, (.seq #[.none] 0), #[]⟩
noncomputable def o55 (P : Params) : Obj := ⟨(.type "tuple"), none, (.seq #[(.int 14 0), (.int 17 0), (.int 4 0), (.int 1 0), (.int 1 0), (.int 21 0), (.int 9 0), (.int 0 0), (.int 604043296 0), (.int 1 0), (.int 0 0), (.int 0 0), (.int 0 0), (.int 0 0), (.int 0 0), (.int 8 0), (.int 4 0), (.int 0 0), (.int 13 0), (.int 14 0), (.int 21 0), (.int 9 0), (.int 0 0), (.int 604043296 0), (.int 1 0), (.int 0 0), (.int 0 0), (.int 0 0), (.int 0 0), (.int 0 0), (.int 8 0), (.int 4 0), (.int 0 0), (.int 1 0)] 0), #[]⟩
noncomputable def o56 (P : Params) : Obj := ⟨(.type "re.Pattern"), none, (.fields #[(.str (.ofString "[^\\w@%+=:,./-]") 344), (.int 256 381), (.int 0 0), .none, .none, (.ref 55), (.int 0 0)]), #[]⟩
noncomputable def o57 (P : Params) : Obj := ⟨(.type "tuple"), none, (.seq #[] 0), #[]⟩
noncomputable def o58 (P : Params) : Obj := ⟨.none, none, (.fields #[]), #[]⟩
noncomputable def o59 (P : Params) : Obj := ⟨(.type "tuple"), none, (.seq #[(.str (.ofString "n") 388), (.str (.ofString "what") 389)] 0), #[]⟩
noncomputable def o60 (P : Params) : Obj := ⟨(.type "tuple"), none, (.seq #[] 0), #[]⟩
noncomputable def o61 (P : Params) : Obj := ⟨.none, none, (.func ⟨(.ofString "_whence"), (.ofString "_whence"), (fnAt 7).1, .stmts (fnAt 7).2.1, (fnAt 7).2.2, 0, [], .none, .none, .none, .none, none, .none, .none, 0⟩), #[]⟩
noncomputable def o62 (P : Params) : Obj := ⟨(.type "code"), none, (.fields #[(.str (.ofString "_whence") 385), (.str (.ofString "_whence") 386), (.str (.ofString "/claim/cut.py") 387), (.int 21 0), (.int 2 0), (.int 0 0), (.int 0 0), (.int 3 0), (.ref 57), (.bool true), (.int 318 0), (.ref 58), .none, (.ref 59), (.ref 60), (.ref 61), (.int 390 0), (.int 21 0), (.str (.ofString "/claim/cut.py") 391)]), #[]⟩
noncomputable def o63 (P : Params) : Obj := ⟨(.type "function"), none, (.func ⟨(.ofString "_whence"), (.ofString "_whence"), (fnAt 7).1, .stmts (fnAt 7).2.1, (fnAt 7).2.2, 3, [], .none, .none, .none, (.str (.ofString "io") 383), none, (.ref 62), .none, 0⟩), #[]⟩
noncomputable def o64 (P : Params) : Obj := ⟨(.type "tuple"), none, (.seq #[] 0), #[]⟩
noncomputable def o65 (P : Params) : Obj := ⟨.none, none, (.fields #[]), #[]⟩
noncomputable def o66 (P : Params) : Obj := ⟨(.type "tuple"), none, (.seq #[(.str (.ofString "n") 396), (.str (.ofString "what") 397)] 0), #[]⟩
noncomputable def o67 (P : Params) : Obj := ⟨(.type "tuple"), none, (.seq #[] 0), #[]⟩
noncomputable def o68 (P : Params) : Obj := ⟨.none, none, (.func ⟨(.ofString "_index"), (.ofString "_index"), (fnAt 8).1, .stmts (fnAt 8).2.1, (fnAt 8).2.2, 0, [], .none, .none, .none, .none, none, .none, .none, 0⟩), #[]⟩
noncomputable def o69 (P : Params) : Obj := ⟨(.type "code"), none, (.fields #[(.str (.ofString "_index") 393), (.str (.ofString "_index") 394), (.str (.ofString "/claim/cut.py") 395), (.int 26 0), (.int 2 0), (.int 0 0), (.int 0 0), (.int 3 0), (.ref 64), (.bool true), (.int 318 0), (.ref 65), .none, (.ref 66), (.ref 67), (.ref 68), (.int 398 0), (.int 26 0), (.str (.ofString "/claim/cut.py") 399)]), #[]⟩
noncomputable def o70 (P : Params) : Obj := ⟨(.type "function"), none, (.func ⟨(.ofString "_index"), (.ofString "_index"), (fnAt 8).1, .stmts (fnAt 8).2.1, (fnAt 8).2.2, 3, [], .none, .none, .none, (.str (.ofString "io") 383), none, (.ref 69), .none, 0⟩), #[]⟩
noncomputable def o71 (P : Params) : Obj := ⟨(.type "tuple"), none, (.seq #[(.type "OSError"), (.type "ValueError")] 0), #[]⟩
noncomputable def o72 (P : Params) : Obj := ⟨(.type "builtin_function_or_method"), none, (.fields #[(.builtin "type.__prepare__"), (.type "type")]), #[]⟩
noncomputable def o73 (P : Params) : Obj := ⟨(.type "dict"), none, (.dict #[e P "__module__" 408 (.str (.ofString "io") 413), e P "__qualname__" 410 (.str (.ofString "UnsupportedOperation") 409), e P "__firstlineno__" 412 (.int 33 411), e P "__static_attributes__" 415 (.ref 78)] 4), #[]⟩
noncomputable def o74 (P : Params) : Obj := ⟨(.type "tuple"), none, (.seq #[] 0), #[]⟩
noncomputable def o75 (P : Params) : Obj := ⟨.none, none, (.fields #[]), #[]⟩
noncomputable def o76 (P : Params) : Obj := ⟨(.type "code"), none, (.fields #[(.str (.ofString "UnsupportedOperation") 403), (.str (.ofString "UnsupportedOperation") 404), (.str (.ofString "/claim/cut.py") 405), (.int 33 0), (.int 0 0), (.int 0 0), (.int 0 0), (.int 0 0), (.ref 74), (.bool false), (.int 318 0), (.ref 75), .none, .none, .none, .none, (.int 406 0), (.int 33 0), (.str (.ofString "/claim/cut.py") 407)]), #[]⟩
noncomputable def o77 (P : Params) : Obj := ⟨(.type "frame"), none, .plain, #[(some (.ref 76)), (some (.ref 3)), (some (.ref 73)), none, (some (.str (.ofString "io") 383)), none, (some (.ref 0))]⟩
noncomputable def o78 (P : Params) : Obj := ⟨(.type "tuple"), none, (.seq #[] 0), #[]⟩
noncomputable def o79 (P : Params) : Obj := ⟨(.type "dict"), none, (.dict #[e P "__module__" 408 (.str (.ofString "io") 413), e P "__firstlineno__" 412 (.int 33 411), e P "__static_attributes__" 415 (.ref 78), e P "__weakref__" 417 (.ref 81), e P "__doc__" 418 .none] 3), #[]⟩
noncomputable def o80 (P : Params) : Obj := ⟨(.type "type"), none, (.cls ⟨(.ofString "UnsupportedOperation"), [(.type "OSError"), (.type "ValueError")], [(.ref 80), (.type "OSError"), (.type "ValueError"), (.type "Exception"), (.type "BaseException"), (.type "object")], 79, (.ofString "UnsupportedOperation"), true, [], [], false, none, false⟩), #[(some (.ref 71)), none, (some (.str (.ofString "UnsupportedOperation") 401)), (some (.str (.ofString "UnsupportedOperation") 409)), (some (.builtin "OSError.__new__")), (some (.bool true))]⟩
noncomputable def o81 (P : Params) : Obj := ⟨(.type "getset_descriptor"), none, (.fields #[(.str (.ofString "__weakref__") 416), (.ref 80), (.builtin "ExceptionGroup.__weakref__"), .none]), #[]⟩
noncomputable def o82 (P : Params) : Obj := ⟨(.type "super"), none, (.fields #[(.ref 80), (.ref 80), (.ref 80)]), #[]⟩
noncomputable def o83 (P : Params) : Obj := ⟨(.type "builtin_function_or_method"), none, (.fields #[(.builtin "object.__init_subclass__"), (.ref 80)]), #[]⟩
noncomputable def o84 (P : Params) : Obj := ⟨(.type "tuple"), none, (.seq #[] 0), #[]⟩
noncomputable def o85 (P : Params) : Obj := ⟨(.type "builtin_function_or_method"), none, (.fields #[(.builtin "type.__prepare__"), (.type "type")]), #[]⟩
noncomputable def o86 (P : Params) : Obj := ⟨(.type "dict"), none, (.dict #[e P "__module__" 430 (.str (.ofString "io") 435), e P "__qualname__" 432 (.str (.ofString "IOBase") 431), e P "__firstlineno__" 434 (.int 35 433), e P "__new__" 445 (.ref 97), e P "__static_attributes__" 446 (.ref 98)] 5), #[]⟩
noncomputable def o87 (P : Params) : Obj := ⟨(.type "tuple"), none, (.seq #[] 0), #[]⟩
noncomputable def o88 (P : Params) : Obj := ⟨.none, none, (.fields #[(.int 38 0), (.int 4 0), (.ref 96)]), #[]⟩
noncomputable def o89 (P : Params) : Obj := ⟨(.type "code"), none, (.fields #[(.str (.ofString "IOBase") 425), (.str (.ofString "IOBase") 426), (.str (.ofString "/claim/cut.py") 427), (.int 35 0), (.int 0 0), (.int 0 0), (.int 0 0), (.int 0 0), (.ref 87), (.bool false), (.int 318 0), (.ref 88), .none, .none, .none, .none, (.int 428 0), (.int 35 0), (.str (.ofString "/claim/cut.py") 429)]), #[]⟩
noncomputable def o90 (P : Params) : Obj := ⟨(.type "frame"), none, .plain, #[(some (.ref 89)), (some (.ref 3)), (some (.ref 86)), none, (some (.str (.ofString "io") 383)), none, (some (.ref 0))]⟩
noncomputable def o91 (P : Params) : Obj := ⟨(.type "tuple"), none, (.seq #[] 0), #[]⟩
noncomputable def o92 (P : Params) : Obj := ⟨.none, none, (.fields #[]), #[]⟩
noncomputable def o93 (P : Params) : Obj := ⟨(.type "tuple"), none, (.seq #[(.str (.ofString "cls") 440), (.str (.ofString "args") 441), (.str (.ofString "kwargs") 442)] 0), #[]⟩
noncomputable def o94 (P : Params) : Obj := ⟨(.type "tuple"), none, (.seq #[] 0), #[]⟩
noncomputable def o95 (P : Params) : Obj := ⟨.none, none, (.func ⟨(.ofString "__new__"), (.ofString "IOBase.__new__"), (fnIn 10 1).1, .stmts (fnIn 10 1).2.1, (fnIn 10 1).2.2, 0, [], .none, .none, .none, .none, none, .none, .none, 0⟩), #[]⟩
noncomputable def o96 (P : Params) : Obj := ⟨(.type "code"), none, (.fields #[(.str (.ofString "__new__") 437), (.str (.ofString "IOBase.__new__") 438), (.str (.ofString "/claim/cut.py") 439), (.int 38 0), (.int 1 0), (.int 1 0), (.int 0 0), (.int 15 0), (.ref 91), (.bool true), (.int 318 0), (.ref 92), .none, (.ref 93), (.ref 94), (.ref 95), (.int 443 0), (.int 38 0), (.str (.ofString "/claim/cut.py") 444)]), #[]⟩
noncomputable def o97 (P : Params) : Obj := ⟨(.type "function"), none, (.func ⟨(.ofString "__new__"), (.ofString "IOBase.__new__"), (fnIn 10 1).1, .stmts (fnIn 10 1).2.1, (fnIn 10 1).2.2, 3, [], .none, .none, .none, (.str (.ofString "io") 383), none, (.ref 96), .none, 0⟩), #[]⟩
noncomputable def o98 (P : Params) : Obj := ⟨(.type "tuple"), none, (.seq #[] 0), #[]⟩
noncomputable def o99 (P : Params) : Obj := ⟨(.type "dict"), none, (.dict #[e P "__module__" 430 (.str (.ofString "io") 435), e P "__firstlineno__" 434 (.int 35 433), e P "__new__" 445 (.ref 101), e P "__static_attributes__" 446 (.ref 98), e P "__dict__" 449 (.ref 102), e P "__weakref__" 451 (.ref 103), e P "__doc__" 452 .none] 4), #[]⟩
noncomputable def o100 (P : Params) : Obj := ⟨(.type "type"), none, (.cls ⟨(.ofString "IOBase"), [(.type "object")], [(.ref 100), (.type "object")], 99, (.ofString "IOBase"), true, [], [(.ref 115), (.ref 127)], false, none, false⟩), #[none, none, (some (.str (.ofString "IOBase") 423)), (some (.str (.ofString "IOBase") 431)), (some .none), (some (.bool true))]⟩
noncomputable def o101 (P : Params) : Obj := ⟨(.type "staticmethod"), none, (.fields #[(.ref 97)]), #[]⟩
noncomputable def o102 (P : Params) : Obj := ⟨(.type "getset_descriptor"), none, (.fields #[(.str (.ofString "__dict__") 448), (.ref 100), (.builtin "function.__dict__"), (.builtin "function.__dict__#set")]), #[]⟩
noncomputable def o103 (P : Params) : Obj := ⟨(.type "getset_descriptor"), none, (.fields #[(.str (.ofString "__weakref__") 450), (.ref 100), (.builtin "ExceptionGroup.__weakref__"), .none]), #[]⟩
noncomputable def o104 (P : Params) : Obj := ⟨(.type "super"), none, (.fields #[(.ref 100), (.ref 100), (.ref 100)]), #[]⟩
noncomputable def o105 (P : Params) : Obj := ⟨(.type "builtin_function_or_method"), none, (.fields #[(.builtin "object.__init_subclass__"), (.ref 100)]), #[]⟩
noncomputable def o106 (P : Params) : Obj := ⟨(.type "tuple"), none, (.seq #[(.ref 100)] 0), #[]⟩
noncomputable def o107 (P : Params) : Obj := ⟨(.type "builtin_function_or_method"), none, (.fields #[(.builtin "type.__prepare__"), (.type "type")]), #[]⟩
noncomputable def o108 (P : Params) : Obj := ⟨(.type "dict"), none, (.dict #[e P "__module__" 462 (.str (.ofString "io") 467), e P "__qualname__" 464 (.str (.ofString "BufferedIOBase") 463), e P "__firstlineno__" 466 (.int 42 465), e P "__static_attributes__" 469 (.ref 113)] 4), #[]⟩
noncomputable def o109 (P : Params) : Obj := ⟨(.type "tuple"), none, (.seq #[] 0), #[]⟩
noncomputable def o110 (P : Params) : Obj := ⟨.none, none, (.fields #[]), #[]⟩
noncomputable def o111 (P : Params) : Obj := ⟨(.type "code"), none, (.fields #[(.str (.ofString "BufferedIOBase") 457), (.str (.ofString "BufferedIOBase") 458), (.str (.ofString "/claim/cut.py") 459), (.int 42 0), (.int 0 0), (.int 0 0), (.int 0 0), (.int 0 0), (.ref 109), (.bool false), (.int 318 0), (.ref 110), .none, .none, .none, .none, (.int 460 0), (.int 42 0), (.str (.ofString "/claim/cut.py") 461)]), #[]⟩
noncomputable def o112 (P : Params) : Obj := ⟨(.type "frame"), none, .plain, #[(some (.ref 111)), (some (.ref 3)), (some (.ref 108)), none, (some (.str (.ofString "io") 383)), none, (some (.ref 0))]⟩
noncomputable def o113 (P : Params) : Obj := ⟨(.type "tuple"), none, (.seq #[] 0), #[]⟩
noncomputable def o114 (P : Params) : Obj := ⟨(.type "dict"), none, (.dict #[e P "__module__" 462 (.str (.ofString "io") 467), e P "__firstlineno__" 466 (.int 42 465), e P "__static_attributes__" 469 (.ref 113), e P "__doc__" 470 .none] 2), #[]⟩
noncomputable def o115 (P : Params) : Obj := ⟨(.type "type"), none, (.cls ⟨(.ofString "BufferedIOBase"), [(.ref 100)], [(.ref 115), (.ref 100), (.type "object")], 114, (.ofString "BufferedIOBase"), true, [], [], false, none, false⟩), #[(some (.ref 106)), none, (some (.str (.ofString "BufferedIOBase") 455)), (some (.str (.ofString "BufferedIOBase") 463)), (some .none), (some (.bool true))]⟩
noncomputable def o116 (P : Params) : Obj := ⟨(.type "super"), none, (.fields #[(.ref 115), (.ref 115), (.ref 115)]), #[]⟩
noncomputable def o117 (P : Params) : Obj := ⟨(.type "builtin_function_or_method"), none, (.fields #[(.builtin "object.__init_subclass__"), (.ref 115)]), #[]⟩
noncomputable def o118 (P : Params) : Obj := ⟨(.type "tuple"), none, (.seq #[(.ref 100)] 0), #[]⟩
noncomputable def o119 (P : Params) : Obj := ⟨(.type "builtin_function_or_method"), none, (.fields #[(.builtin "type.__prepare__"), (.type "type")]), #[]⟩
noncomputable def o120 (P : Params) : Obj := ⟨(.type "dict"), none, (.dict #[e P "__module__" 480 (.str (.ofString "io") 485), e P "__qualname__" 482 (.str (.ofString "TextIOBase") 481), e P "__firstlineno__" 484 (.int 44 483), e P "__static_attributes__" 487 (.ref 125)] 4), #[]⟩
noncomputable def o121 (P : Params) : Obj := ⟨(.type "tuple"), none, (.seq #[] 0), #[]⟩
noncomputable def o122 (P : Params) : Obj := ⟨.none, none, (.fields #[]), #[]⟩
noncomputable def o123 (P : Params) : Obj := ⟨(.type "code"), none, (.fields #[(.str (.ofString "TextIOBase") 475), (.str (.ofString "TextIOBase") 476), (.str (.ofString "/claim/cut.py") 477), (.int 44 0), (.int 0 0), (.int 0 0), (.int 0 0), (.int 0 0), (.ref 121), (.bool false), (.int 318 0), (.ref 122), .none, .none, .none, .none, (.int 478 0), (.int 44 0), (.str (.ofString "/claim/cut.py") 479)]), #[]⟩
noncomputable def o124 (P : Params) : Obj := ⟨(.type "frame"), none, .plain, #[(some (.ref 123)), (some (.ref 3)), (some (.ref 120)), none, (some (.str (.ofString "io") 383)), none, (some (.ref 0))]⟩
noncomputable def o125 (P : Params) : Obj := ⟨(.type "tuple"), none, (.seq #[] 0), #[]⟩
noncomputable def o126 (P : Params) : Obj := ⟨(.type "dict"), none, (.dict #[e P "__module__" 480 (.str (.ofString "io") 485), e P "__firstlineno__" 484 (.int 44 483), e P "__static_attributes__" 487 (.ref 125), e P "__doc__" 488 .none] 2), #[]⟩
noncomputable def o127 (P : Params) : Obj := ⟨(.type "type"), none, (.cls ⟨(.ofString "TextIOBase"), [(.ref 100)], [(.ref 127), (.ref 100), (.type "object")], 126, (.ofString "TextIOBase"), true, [], [], false, none, false⟩), #[(some (.ref 118)), none, (some (.str (.ofString "TextIOBase") 473)), (some (.str (.ofString "TextIOBase") 481)), (some .none), (some (.bool true))]⟩
noncomputable def o128 (P : Params) : Obj := ⟨(.type "super"), none, (.fields #[(.ref 127), (.ref 127), (.ref 127)]), #[]⟩
noncomputable def o129 (P : Params) : Obj := ⟨(.type "builtin_function_or_method"), none, (.fields #[(.builtin "object.__init_subclass__"), (.ref 127)]), #[]⟩
noncomputable def t0 (P : Params) : BT := (.node (o0 P) (.node (o1 P) (.node (o3v1 P) (.node (o7 P) (.node (o15 P) (.node (o31 P) (.node (o63 P) (.node (o127 P) .nil .nil) .nil) (.node (o95 P) .nil .nil)) (.node (o47 P) (.node (o79 P) .nil .nil) (.node (o111 P) .nil .nil))) (.node (o23 P) (.node (o39 P) (.node (o71 P) .nil .nil) (.node (o103 P) .nil .nil)) (.node (o55 P) (.node (o87 P) .nil .nil) (.node (o119 P) .nil .nil)))) (.node (o11v1 P) (.node (o19 P) (.node (o35v1 P) (.node (o67 P) .nil .nil) (.node (o99 P) .nil .nil)) (.node (o51 P) (.node (o83 P) .nil .nil) (.node (o115 P) .nil .nil))) (.node (o27 P) (.node (o43 P) (.node (o75 P) .nil .nil) (.node (o107 P) .nil .nil)) (.node (o59 P) (.node (o91 P) .nil .nil) (.node (o123 P) .nil .nil))))) (.node (o5 P) (.node (o9 P) (.node (o17 P) (.node (o33 P) (.node (o65 P) (.node (o129 P) .nil .nil) .nil) (.node (o97 P) .nil .nil)) (.node (o49 P) (.node (o81 P) .nil .nil) (.node (o113 P) .nil .nil))) (.node (o25 P) (.node (o41 P) (.node (o73 P) .nil .nil) (.node (o105 P) .nil .nil)) (.node (o57 P) (.node (o89 P) .nil .nil) (.node (o121 P) .nil .nil)))) (.node (o13 P) (.node (o21 P) (.node (o37 P) (.node (o69 P) .nil .nil) (.node (o101 P) .nil .nil)) (.node (o53 P) (.node (o85 P) .nil .nil) (.node (o117 P) .nil .nil))) (.node (o29v1 P) (.node (o45 P) (.node (o77 P) .nil .nil) (.node (o109 P) .nil .nil)) (.node (o61 P) (.node (o93 P) .nil .nil) (.node (o125 P) .nil .nil)))))) (.node (o2v1 P) (.node (o4 P) (.node (o8 P) (.node (o16 P) (.node (o32 P) (.node (o64 P) (.node (o128 P) .nil .nil) .nil) (.node (o96 P) .nil .nil)) (.node (o48 P) (.node (o80 P) .nil .nil) (.node (o112 P) .nil .nil))) (.node (o24 P) (.node (o40 P) (.node (o72 P) .nil .nil) (.node (o104 P) .nil .nil)) (.node (o56 P) (.node (o88 P) .nil .nil) (.node (o120 P) .nil .nil)))) (.node (o12 P) (.node (o20 P) (.node (o36 P) (.node (o68 P) .nil .nil) (.node (o100 P) .nil .nil)) (.node (o52 P) (.node (o84 P) .nil .nil) (.node (o116 P) .nil .nil))) (.node (o28 P) (.node (o44 P) (.node (o76 P) .nil .nil) (.node (o108 P) .nil .nil)) (.node (o60 P) (.node (o92 P) .nil .nil) (.node (o124 P) .nil .nil))))) (.node (o6 P) (.node (o10 P) (.node (o18 P) (.node (o34 P) (.node (o66 P) .nil .nil) (.node (o98 P) .nil .nil)) (.node (o50 P) (.node (o82 P) .nil .nil) (.node (o114 P) .nil .nil))) (.node (o26 P) (.node (o42 P) (.node (o74 P) .nil .nil) (.node (o106 P) .nil .nil)) (.node (o58 P) (.node (o90 P) .nil .nil) (.node (o122 P) .nil .nil)))) (.node (o14 P) (.node (o22 P) (.node (o38 P) (.node (o70 P) .nil .nil) (.node (o102 P) .nil .nil)) (.node (o54 P) (.node (o86 P) .nil .nil) (.node (o118 P) .nil .nil))) (.node (o30 P) (.node (o46 P) (.node (o78 P) .nil .nil) (.node (o110 P) .nil .nil)) (.node (o62 P) (.node (o94 P) .nil .nil) (.node (o126 P) .nil .nil)))))))
noncomputable def o3v2 (P : Params) : Obj := ⟨(.type "dict"), none, (.dict #[e P "__name__" 165 (.str (.ofString "io") 383), e P "__doc__" 166 .none, e P "__package__" 167 .none, e P "__loader__" 168 (.builtin "__main__.__loader__#opaque"), e P "__spec__" 169 .none, e P "__annotations__" 170 (.ref 6), e P "__builtins__" 171 (.ref 4), e P "__file__" 173 (.str (.ofString "/claim/cut.py") 172), e P "__cached__" 174 .none, e P "_sre" 275 (.ref 12), e P "deque" 317 (.type "collections.deque"), e P "_wall" 330 (.ref 44), e P "_strip_exception_details" 342 (.ref 51), e P "_twin_re_1" 382 (.ref 56), e P "_whence" 392 (.ref 63), e P "_index" 400 (.ref 70), e P "UnsupportedOperation" 422 (.ref 80), e P "IOBase" 454 (.ref 100), e P "BufferedIOBase" 472 (.ref 115), e P "TextIOBase" 490 (.ref 127), e P "BytesIO" 752 (.ref 357)] 21), #[]⟩
noncomputable def o35v2 (P : Params) : Obj := ⟨.none, none, (.fields #[(.int 3 0), (.int 0 0), (.ref 43), (.int 7 0), (.int 0 0), (.ref 50), (.int 21 0), (.int 0 0), (.ref 62), (.int 26 0), (.int 0 0), (.ref 69), (.int 33 0), (.int 0 0), (.ref 76), (.int 35 0), (.int 0 0), (.ref 89), (.int 42 0), (.int 0 0), (.ref 111), (.int 44 0), (.int 0 0), (.ref 123), (.int 46 0), (.int 0 0), (.ref 135)]), #[]⟩
noncomputable def o115v1 (P : Params) : Obj := ⟨(.type "type"), none, (.cls ⟨(.ofString "BufferedIOBase"), [(.ref 100)], [(.ref 115), (.ref 100), (.type "object")], 114, (.ofString "BufferedIOBase"), true, [], [(.ref 357)], false, none, false⟩), #[(some (.ref 106)), none, (some (.str (.ofString "BufferedIOBase") 455)), (some (.str (.ofString "BufferedIOBase") 463)), (some .none), (some (.bool true))]⟩
noncomputable def o130 (P : Params) : Obj := ⟨(.type "tuple"), none, (.seq #[(.ref 115)] 0), #[]⟩
noncomputable def o131 (P : Params) : Obj := ⟨(.type "builtin_function_or_method"), none, (.fields #[(.builtin "type.__prepare__"), (.type "type")]), #[]⟩
noncomputable def o132 (P : Params) : Obj := ⟨(.type "dict"), none, (.dict #[e P "__module__" 498 (.str (.ofString "_io") 503), e P "__qualname__" 500 (.str (.ofString "BytesIO") 499), e P "__firstlineno__" 502 (.int 46 501), e P "__init__" 512 (.ref 144), e P "_BytesIO__check" 519 (.ref 151), e P "_BytesIO__line" 530 (.ref 158), e P "closed" 538 (.ref 166), e P "close" 545 (.ref 173), e P "__enter__" 552 (.ref 180), e P "__exit__" 560 (.ref 187), e P "readable" 567 (.ref 194), e P "writable" 574 (.ref 201), e P "seekable" 581 (.ref 208), e P "isatty" 588 (.ref 215), e P "flush" 595 (.ref 222), e P "fileno" 602 (.ref 229), e P "detach" 609 (.ref 236), e P "getvalue" 616 (.ref 243), e P "getbuffer" 623 (.ref 250), e P "tell" 630 (.ref 257), e P "seek" 640 (.ref 265), e P "truncate" 648 (.ref 273), e P "read" 660 (.ref 281), e P "read1" 670 (.ref 289), e P "readinto" 680 (.ref 296), e P "readinto1" 688 (.ref 303), e P "readline" 698 (.ref 311), e P "readlines" 706 (.ref 319), e P "__iter__" 713 (.ref 326), e P "__next__" 721 (.ref 333), e P "write" 731 (.ref 340), e P "writelines" 739 (.ref 347), e P "__repr__" 746 (.ref 354), e P "__static_attributes__" 749 (.ref 355)] 34), #[]⟩
noncomputable def o133 (P : Params) : Obj := ⟨(.type "tuple"), none, (.seq #[] 0), #[]⟩
noncomputable def o134 (P : Params) : Obj := ⟨.none, none, (.fields #[(.int 49 0), (.int 4 0), (.ref 143), (.int 55 0), (.int 4 0), (.ref 150), (.int 59 0), (.int 4 0), (.ref 157), (.int 73 0), (.int 4 0), (.ref 164), (.int 76 0), (.int 4 0), (.ref 172), (.int 79 0), (.int 4 0), (.ref 179), (.int 83 0), (.int 4 0), (.ref 186), (.int 86 0), (.int 4 0), (.ref 193), (.int 90 0), (.int 4 0), (.ref 200), (.int 94 0), (.int 4 0), (.ref 207), (.int 98 0), (.int 4 0), (.ref 214), (.int 102 0), (.int 4 0), (.ref 221), (.int 105 0), (.int 4 0), (.ref 228), (.int 108 0), (.int 4 0), (.ref 235), (.int 111 0), (.int 4 0), (.ref 242), (.int 114 0), (.int 4 0), (.ref 249), (.int 117 0), (.int 4 0), (.ref 256), (.int 121 0), (.int 4 0), (.ref 264), (.int 138 0), (.int 4 0), (.ref 272), (.int 141 0), (.int 4 0), (.ref 280), (.int 155 0), (.int 4 0), (.ref 288), (.int 158 0), (.int 4 0), (.ref 295), (.int 172 0), (.int 4 0), (.ref 302), (.int 175 0), (.int 4 0), (.ref 310), (.int 182 0), (.int 4 0), (.ref 318), (.int 185 0), (.int 4 0), (.ref 325), (.int 188 0), (.int 4 0), (.ref 332), (.int 195 0), (.int 4 0), (.ref 339), (.int 211 0), (.int 4 0), (.ref 346), (.int 214 0), (.int 4 0), (.ref 353)]), #[]⟩
noncomputable def o135 (P : Params) : Obj := ⟨(.type "code"), none, (.fields #[(.str (.ofString "BytesIO") 493), (.str (.ofString "BytesIO") 494), (.str (.ofString "/claim/cut.py") 495), (.int 46 0), (.int 0 0), (.int 0 0), (.int 0 0), (.int 0 0), (.ref 133), (.bool false), (.int 318 0), (.ref 134), .none, .none, .none, .none, (.int 496 0), (.int 46 0), (.str (.ofString "/claim/cut.py") 497)]), #[]⟩
noncomputable def o136 (P : Params) : Obj := ⟨(.type "frame"), none, .plain, #[(some (.ref 135)), (some (.ref 3)), (some (.ref 132)), none, (some (.str (.ofString "io") 383)), none, (some (.ref 0))]⟩
noncomputable def o137 (P : Params) : Obj := ⟨(.type "tuple"), none, (.seq #[.none] 0), #[]⟩
noncomputable def o138 (P : Params) : Obj := ⟨(.type "tuple"), none, (.seq #[] 0), #[]⟩
noncomputable def o139 (P : Params) : Obj := ⟨.none, none, (.fields #[]), #[]⟩
noncomputable def o140 (P : Params) : Obj := ⟨(.type "tuple"), none, (.seq #[(.str (.ofString "self") 508), (.str (.ofString "initial_bytes") 509)] 0), #[]⟩
noncomputable def o141 (P : Params) : Obj := ⟨(.type "tuple"), none, (.seq #[] 0), #[]⟩
noncomputable def o142 (P : Params) : Obj := ⟨.none, none, (.func ⟨(.ofString "__init__"), (.ofString "BytesIO.__init__"), (fnIn 13 1).1, .stmts (fnIn 13 1).2.1, (fnIn 13 1).2.2, 0, [], .none, .none, .none, .none, none, .none, .none, 0⟩), #[]⟩
noncomputable def o143 (P : Params) : Obj := ⟨(.type "code"), none, (.fields #[(.str (.ofString "__init__") 505), (.str (.ofString "BytesIO.__init__") 506), (.str (.ofString "/claim/cut.py") 507), (.int 49 0), (.int 2 0), (.int 0 0), (.int 0 0), (.int 3 0), (.ref 138), (.bool true), (.int 318 0), (.ref 139), .none, (.ref 140), (.ref 141), (.ref 142), (.int 510 0), (.int 49 0), (.str (.ofString "/claim/cut.py") 511)]), #[]⟩
noncomputable def o144 (P : Params) : Obj := ⟨(.type "function"), none, (.func ⟨(.ofString "__init__"), (.ofString "BytesIO.__init__"), (fnIn 13 1).1, .stmts (fnIn 13 1).2.1, (fnIn 13 1).2.2, 3, [], (.ref 137), .none, .none, (.str (.ofString "io") 383), none, (.ref 143), .none, 0⟩), #[]⟩
noncomputable def o145 (P : Params) : Obj := ⟨(.type "tuple"), none, (.seq #[] 0), #[]⟩
noncomputable def o146 (P : Params) : Obj := ⟨.none, none, (.fields #[]), #[]⟩
noncomputable def o147 (P : Params) : Obj := ⟨(.type "tuple"), none, (.seq #[(.str (.ofString "self") 516)] 0), #[]⟩
noncomputable def o148 (P : Params) : Obj := ⟨(.type "tuple"), none, (.seq #[] 0), #[]⟩
noncomputable def o149 (P : Params) : Obj := ⟨.none, none, (.func ⟨(.ofString "__check"), (.ofString "BytesIO.__check"), (fnIn 13 2).1, .stmts (fnIn 13 2).2.1, (fnIn 13 2).2.2, 0, [], .none, .none, .none, .none, none, .none, .none, 0⟩), #[]⟩
noncomputable def o150 (P : Params) : Obj := ⟨(.type "code"), none, (.fields #[(.str (.ofString "__check") 513), (.str (.ofString "BytesIO.__check") 514), (.str (.ofString "/claim/cut.py") 515), (.int 55 0), (.int 1 0), (.int 0 0), (.int 0 0), (.int 3 0), (.ref 145), (.bool true), (.int 318 0), (.ref 146), .none, (.ref 147), (.ref 148), (.ref 149), (.int 517 0), (.int 55 0), (.str (.ofString "/claim/cut.py") 518)]), #[]⟩
noncomputable def o151 (P : Params) : Obj := ⟨(.type "function"), none, (.func ⟨(.ofString "__check"), (.ofString "BytesIO.__check"), (fnIn 13 2).1, .stmts (fnIn 13 2).2.1, (fnIn 13 2).2.2, 3, [], .none, .none, .none, (.str (.ofString "io") 383), none, (.ref 150), .none, 0⟩), #[]⟩
noncomputable def o152 (P : Params) : Obj := ⟨(.type "tuple"), none, (.seq #[] 0), #[]⟩
noncomputable def o153 (P : Params) : Obj := ⟨.none, none, (.fields #[]), #[]⟩
noncomputable def o154 (P : Params) : Obj := ⟨(.type "tuple"), none, (.seq #[(.str (.ofString "self") 523), (.str (.ofString "limit") 524), (.str (.ofString "start") 525), (.str (.ofString "stop") 526), (.str (.ofString "i") 527)] 0), #[]⟩
noncomputable def o155 (P : Params) : Obj := ⟨(.type "tuple"), none, (.seq #[] 0), #[]⟩
noncomputable def o156 (P : Params) : Obj := ⟨.none, none, (.func ⟨(.ofString "__line"), (.ofString "BytesIO.__line"), (fnIn 13 3).1, .stmts (fnIn 13 3).2.1, (fnIn 13 3).2.2, 0, [], .none, .none, .none, .none, none, .none, .none, 0⟩), #[]⟩
noncomputable def o157 (P : Params) : Obj := ⟨(.type "code"), none, (.fields #[(.str (.ofString "__line") 520), (.str (.ofString "BytesIO.__line") 521), (.str (.ofString "/claim/cut.py") 522), (.int 59 0), (.int 2 0), (.int 0 0), (.int 0 0), (.int 3 0), (.ref 152), (.bool true), (.int 318 0), (.ref 153), .none, (.ref 154), (.ref 155), (.ref 156), (.int 528 0), (.int 59 0), (.str (.ofString "/claim/cut.py") 529)]), #[]⟩
noncomputable def o158 (P : Params) : Obj := ⟨(.type "function"), none, (.func ⟨(.ofString "__line"), (.ofString "BytesIO.__line"), (fnIn 13 3).1, .stmts (fnIn 13 3).2.1, (fnIn 13 3).2.2, 3, [], .none, .none, .none, (.str (.ofString "io") 383), none, (.ref 157), .none, 0⟩), #[]⟩
noncomputable def o159 (P : Params) : Obj := ⟨(.type "tuple"), none, (.seq #[] 0), #[]⟩
noncomputable def o160 (P : Params) : Obj := ⟨.none, none, (.fields #[]), #[]⟩
noncomputable def o161 (P : Params) : Obj := ⟨(.type "tuple"), none, (.seq #[(.str (.ofString "self") 534)] 0), #[]⟩
noncomputable def o162 (P : Params) : Obj := ⟨(.type "tuple"), none, (.seq #[] 0), #[]⟩
noncomputable def o163 (P : Params) : Obj := ⟨.none, none, (.func ⟨(.ofString "closed"), (.ofString "BytesIO.closed"), (fnIn 13 4).1, .stmts (fnIn 13 4).2.1, (fnIn 13 4).2.2, 0, [], .none, .none, .none, .none, none, .none, .none, 0⟩), #[]⟩
noncomputable def o164 (P : Params) : Obj := ⟨(.type "code"), none, (.fields #[(.str (.ofString "closed") 531), (.str (.ofString "BytesIO.closed") 532), (.str (.ofString "/claim/cut.py") 533), (.int 72 0), (.int 1 0), (.int 0 0), (.int 0 0), (.int 3 0), (.ref 159), (.bool true), (.int 318 0), (.ref 160), .none, (.ref 161), (.ref 162), (.ref 163), (.int 535 0), (.int 72 0), (.str (.ofString "/claim/cut.py") 536)]), #[]⟩
noncomputable def o165 (P : Params) : Obj := ⟨(.type "function"), none, (.func ⟨(.ofString "closed"), (.ofString "BytesIO.closed"), (fnIn 13 4).1, .stmts (fnIn 13 4).2.1, (fnIn 13 4).2.2, 3, [], .none, .none, .none, (.str (.ofString "io") 383), none, (.ref 164), .none, 0⟩), #[]⟩
noncomputable def o166 (P : Params) : Obj := ⟨(.type "property"), none, (.fields #[(.ref 165), .none, .none, .none, (.str (.ofString "closed") 538), (.bool false)]), #[]⟩
noncomputable def o167 (P : Params) : Obj := ⟨(.type "tuple"), none, (.seq #[] 0), #[]⟩
noncomputable def o168 (P : Params) : Obj := ⟨.none, none, (.fields #[]), #[]⟩
noncomputable def o169 (P : Params) : Obj := ⟨(.type "tuple"), none, (.seq #[(.str (.ofString "self") 542)] 0), #[]⟩
noncomputable def o170 (P : Params) : Obj := ⟨(.type "tuple"), none, (.seq #[] 0), #[]⟩
noncomputable def o171 (P : Params) : Obj := ⟨.none, none, (.func ⟨(.ofString "close"), (.ofString "BytesIO.close"), (fnIn 13 5).1, .stmts (fnIn 13 5).2.1, (fnIn 13 5).2.2, 0, [], .none, .none, .none, .none, none, .none, .none, 0⟩), #[]⟩
noncomputable def o172 (P : Params) : Obj := ⟨(.type "code"), none, (.fields #[(.str (.ofString "close") 539), (.str (.ofString "BytesIO.close") 540), (.str (.ofString "/claim/cut.py") 541), (.int 76 0), (.int 1 0), (.int 0 0), (.int 0 0), (.int 3 0), (.ref 167), (.bool true), (.int 318 0), (.ref 168), .none, (.ref 169), (.ref 170), (.ref 171), (.int 543 0), (.int 76 0), (.str (.ofString "/claim/cut.py") 544)]), #[]⟩
noncomputable def o173 (P : Params) : Obj := ⟨(.type "function"), none, (.func ⟨(.ofString "close"), (.ofString "BytesIO.close"), (fnIn 13 5).1, .stmts (fnIn 13 5).2.1, (fnIn 13 5).2.2, 3, [], .none, .none, .none, (.str (.ofString "io") 383), none, (.ref 172), .none, 0⟩), #[]⟩
noncomputable def o174 (P : Params) : Obj := ⟨(.type "tuple"), none, (.seq #[] 0), #[]⟩
noncomputable def o175 (P : Params) : Obj := ⟨.none, none, (.fields #[]), #[]⟩
noncomputable def o176 (P : Params) : Obj := ⟨(.type "tuple"), none, (.seq #[(.str (.ofString "self") 549)] 0), #[]⟩
noncomputable def o177 (P : Params) : Obj := ⟨(.type "tuple"), none, (.seq #[] 0), #[]⟩
noncomputable def o178 (P : Params) : Obj := ⟨.none, none, (.func ⟨(.ofString "__enter__"), (.ofString "BytesIO.__enter__"), (fnIn 13 6).1, .stmts (fnIn 13 6).2.1, (fnIn 13 6).2.2, 0, [], .none, .none, .none, .none, none, .none, .none, 0⟩), #[]⟩
noncomputable def o179 (P : Params) : Obj := ⟨(.type "code"), none, (.fields #[(.str (.ofString "__enter__") 546), (.str (.ofString "BytesIO.__enter__") 547), (.str (.ofString "/claim/cut.py") 548), (.int 79 0), (.int 1 0), (.int 0 0), (.int 0 0), (.int 3 0), (.ref 174), (.bool true), (.int 318 0), (.ref 175), .none, (.ref 176), (.ref 177), (.ref 178), (.int 550 0), (.int 79 0), (.str (.ofString "/claim/cut.py") 551)]), #[]⟩
noncomputable def o180 (P : Params) : Obj := ⟨(.type "function"), none, (.func ⟨(.ofString "__enter__"), (.ofString "BytesIO.__enter__"), (fnIn 13 6).1, .stmts (fnIn 13 6).2.1, (fnIn 13 6).2.2, 3, [], .none, .none, .none, (.str (.ofString "io") 383), none, (.ref 179), .none, 0⟩), #[]⟩
noncomputable def o181 (P : Params) : Obj := ⟨(.type "tuple"), none, (.seq #[] 0), #[]⟩
noncomputable def o182 (P : Params) : Obj := ⟨.none, none, (.fields #[]), #[]⟩
noncomputable def o183 (P : Params) : Obj := ⟨(.type "tuple"), none, (.seq #[(.str (.ofString "self") 556), (.str (.ofString "args") 557)] 0), #[]⟩
noncomputable def o184 (P : Params) : Obj := ⟨(.type "tuple"), none, (.seq #[] 0), #[]⟩
noncomputable def o185 (P : Params) : Obj := ⟨.none, none, (.func ⟨(.ofString "__exit__"), (.ofString "BytesIO.__exit__"), (fnIn 13 7).1, .stmts (fnIn 13 7).2.1, (fnIn 13 7).2.2, 0, [], .none, .none, .none, .none, none, .none, .none, 0⟩), #[]⟩
noncomputable def o186 (P : Params) : Obj := ⟨(.type "code"), none, (.fields #[(.str (.ofString "__exit__") 553), (.str (.ofString "BytesIO.__exit__") 554), (.str (.ofString "/claim/cut.py") 555), (.int 83 0), (.int 1 0), (.int 0 0), (.int 0 0), (.int 7 0), (.ref 181), (.bool true), (.int 318 0), (.ref 182), .none, (.ref 183), (.ref 184), (.ref 185), (.int 558 0), (.int 83 0), (.str (.ofString "/claim/cut.py") 559)]), #[]⟩
noncomputable def o187 (P : Params) : Obj := ⟨(.type "function"), none, (.func ⟨(.ofString "__exit__"), (.ofString "BytesIO.__exit__"), (fnIn 13 7).1, .stmts (fnIn 13 7).2.1, (fnIn 13 7).2.2, 3, [], .none, .none, .none, (.str (.ofString "io") 383), none, (.ref 186), .none, 0⟩), #[]⟩
noncomputable def o188 (P : Params) : Obj := ⟨(.type "tuple"), none, (.seq #[] 0), #[]⟩
noncomputable def o189 (P : Params) : Obj := ⟨.none, none, (.fields #[]), #[]⟩
noncomputable def o190 (P : Params) : Obj := ⟨(.type "tuple"), none, (.seq #[(.str (.ofString "self") 564)] 0), #[]⟩
noncomputable def o191 (P : Params) : Obj := ⟨(.type "tuple"), none, (.seq #[] 0), #[]⟩
noncomputable def o192 (P : Params) : Obj := ⟨.none, none, (.func ⟨(.ofString "readable"), (.ofString "BytesIO.readable"), (fnIn 13 8).1, .stmts (fnIn 13 8).2.1, (fnIn 13 8).2.2, 0, [], .none, .none, .none, .none, none, .none, .none, 0⟩), #[]⟩
noncomputable def o193 (P : Params) : Obj := ⟨(.type "code"), none, (.fields #[(.str (.ofString "readable") 561), (.str (.ofString "BytesIO.readable") 562), (.str (.ofString "/claim/cut.py") 563), (.int 86 0), (.int 1 0), (.int 0 0), (.int 0 0), (.int 3 0), (.ref 188), (.bool true), (.int 318 0), (.ref 189), .none, (.ref 190), (.ref 191), (.ref 192), (.int 565 0), (.int 86 0), (.str (.ofString "/claim/cut.py") 566)]), #[]⟩
noncomputable def o194 (P : Params) : Obj := ⟨(.type "function"), none, (.func ⟨(.ofString "readable"), (.ofString "BytesIO.readable"), (fnIn 13 8).1, .stmts (fnIn 13 8).2.1, (fnIn 13 8).2.2, 3, [], .none, .none, .none, (.str (.ofString "io") 383), none, (.ref 193), .none, 0⟩), #[]⟩
noncomputable def o195 (P : Params) : Obj := ⟨(.type "tuple"), none, (.seq #[] 0), #[]⟩
noncomputable def o196 (P : Params) : Obj := ⟨.none, none, (.fields #[]), #[]⟩
noncomputable def o197 (P : Params) : Obj := ⟨(.type "tuple"), none, (.seq #[(.str (.ofString "self") 571)] 0), #[]⟩
noncomputable def o198 (P : Params) : Obj := ⟨(.type "tuple"), none, (.seq #[] 0), #[]⟩
noncomputable def o199 (P : Params) : Obj := ⟨.none, none, (.func ⟨(.ofString "writable"), (.ofString "BytesIO.writable"), (fnIn 13 9).1, .stmts (fnIn 13 9).2.1, (fnIn 13 9).2.2, 0, [], .none, .none, .none, .none, none, .none, .none, 0⟩), #[]⟩
noncomputable def o200 (P : Params) : Obj := ⟨(.type "code"), none, (.fields #[(.str (.ofString "writable") 568), (.str (.ofString "BytesIO.writable") 569), (.str (.ofString "/claim/cut.py") 570), (.int 90 0), (.int 1 0), (.int 0 0), (.int 0 0), (.int 3 0), (.ref 195), (.bool true), (.int 318 0), (.ref 196), .none, (.ref 197), (.ref 198), (.ref 199), (.int 572 0), (.int 90 0), (.str (.ofString "/claim/cut.py") 573)]), #[]⟩
noncomputable def o201 (P : Params) : Obj := ⟨(.type "function"), none, (.func ⟨(.ofString "writable"), (.ofString "BytesIO.writable"), (fnIn 13 9).1, .stmts (fnIn 13 9).2.1, (fnIn 13 9).2.2, 3, [], .none, .none, .none, (.str (.ofString "io") 383), none, (.ref 200), .none, 0⟩), #[]⟩
noncomputable def o202 (P : Params) : Obj := ⟨(.type "tuple"), none, (.seq #[] 0), #[]⟩
noncomputable def o203 (P : Params) : Obj := ⟨.none, none, (.fields #[]), #[]⟩
noncomputable def o204 (P : Params) : Obj := ⟨(.type "tuple"), none, (.seq #[(.str (.ofString "self") 578)] 0), #[]⟩
noncomputable def o205 (P : Params) : Obj := ⟨(.type "tuple"), none, (.seq #[] 0), #[]⟩
noncomputable def o206 (P : Params) : Obj := ⟨.none, none, (.func ⟨(.ofString "seekable"), (.ofString "BytesIO.seekable"), (fnIn 13 10).1, .stmts (fnIn 13 10).2.1, (fnIn 13 10).2.2, 0, [], .none, .none, .none, .none, none, .none, .none, 0⟩), #[]⟩
noncomputable def o207 (P : Params) : Obj := ⟨(.type "code"), none, (.fields #[(.str (.ofString "seekable") 575), (.str (.ofString "BytesIO.seekable") 576), (.str (.ofString "/claim/cut.py") 577), (.int 94 0), (.int 1 0), (.int 0 0), (.int 0 0), (.int 3 0), (.ref 202), (.bool true), (.int 318 0), (.ref 203), .none, (.ref 204), (.ref 205), (.ref 206), (.int 579 0), (.int 94 0), (.str (.ofString "/claim/cut.py") 580)]), #[]⟩
noncomputable def o208 (P : Params) : Obj := ⟨(.type "function"), none, (.func ⟨(.ofString "seekable"), (.ofString "BytesIO.seekable"), (fnIn 13 10).1, .stmts (fnIn 13 10).2.1, (fnIn 13 10).2.2, 3, [], .none, .none, .none, (.str (.ofString "io") 383), none, (.ref 207), .none, 0⟩), #[]⟩
noncomputable def o209 (P : Params) : Obj := ⟨(.type "tuple"), none, (.seq #[] 0), #[]⟩
noncomputable def o210 (P : Params) : Obj := ⟨.none, none, (.fields #[]), #[]⟩
noncomputable def o211 (P : Params) : Obj := ⟨(.type "tuple"), none, (.seq #[(.str (.ofString "self") 585)] 0), #[]⟩
noncomputable def o212 (P : Params) : Obj := ⟨(.type "tuple"), none, (.seq #[] 0), #[]⟩
noncomputable def o213 (P : Params) : Obj := ⟨.none, none, (.func ⟨(.ofString "isatty"), (.ofString "BytesIO.isatty"), (fnIn 13 11).1, .stmts (fnIn 13 11).2.1, (fnIn 13 11).2.2, 0, [], .none, .none, .none, .none, none, .none, .none, 0⟩), #[]⟩
noncomputable def o214 (P : Params) : Obj := ⟨(.type "code"), none, (.fields #[(.str (.ofString "isatty") 582), (.str (.ofString "BytesIO.isatty") 583), (.str (.ofString "/claim/cut.py") 584), (.int 98 0), (.int 1 0), (.int 0 0), (.int 0 0), (.int 3 0), (.ref 209), (.bool true), (.int 318 0), (.ref 210), .none, (.ref 211), (.ref 212), (.ref 213), (.int 586 0), (.int 98 0), (.str (.ofString "/claim/cut.py") 587)]), #[]⟩
noncomputable def o215 (P : Params) : Obj := ⟨(.type "function"), none, (.func ⟨(.ofString "isatty"), (.ofString "BytesIO.isatty"), (fnIn 13 11).1, .stmts (fnIn 13 11).2.1, (fnIn 13 11).2.2, 3, [], .none, .none, .none, (.str (.ofString "io") 383), none, (.ref 214), .none, 0⟩), #[]⟩
noncomputable def o216 (P : Params) : Obj := ⟨(.type "tuple"), none, (.seq #[] 0), #[]⟩
noncomputable def o217 (P : Params) : Obj := ⟨.none, none, (.fields #[]), #[]⟩
noncomputable def o218 (P : Params) : Obj := ⟨(.type "tuple"), none, (.seq #[(.str (.ofString "self") 592)] 0), #[]⟩
noncomputable def o219 (P : Params) : Obj := ⟨(.type "tuple"), none, (.seq #[] 0), #[]⟩
noncomputable def o220 (P : Params) : Obj := ⟨.none, none, (.func ⟨(.ofString "flush"), (.ofString "BytesIO.flush"), (fnIn 13 12).1, .stmts (fnIn 13 12).2.1, (fnIn 13 12).2.2, 0, [], .none, .none, .none, .none, none, .none, .none, 0⟩), #[]⟩
noncomputable def o221 (P : Params) : Obj := ⟨(.type "code"), none, (.fields #[(.str (.ofString "flush") 589), (.str (.ofString "BytesIO.flush") 590), (.str (.ofString "/claim/cut.py") 591), (.int 102 0), (.int 1 0), (.int 0 0), (.int 0 0), (.int 3 0), (.ref 216), (.bool true), (.int 318 0), (.ref 217), .none, (.ref 218), (.ref 219), (.ref 220), (.int 593 0), (.int 102 0), (.str (.ofString "/claim/cut.py") 594)]), #[]⟩
noncomputable def o222 (P : Params) : Obj := ⟨(.type "function"), none, (.func ⟨(.ofString "flush"), (.ofString "BytesIO.flush"), (fnIn 13 12).1, .stmts (fnIn 13 12).2.1, (fnIn 13 12).2.2, 3, [], .none, .none, .none, (.str (.ofString "io") 383), none, (.ref 221), .none, 0⟩), #[]⟩
noncomputable def o223 (P : Params) : Obj := ⟨(.type "tuple"), none, (.seq #[] 0), #[]⟩
noncomputable def o224 (P : Params) : Obj := ⟨.none, none, (.fields #[]), #[]⟩
noncomputable def o225 (P : Params) : Obj := ⟨(.type "tuple"), none, (.seq #[(.str (.ofString "self") 599)] 0), #[]⟩
noncomputable def o226 (P : Params) : Obj := ⟨(.type "tuple"), none, (.seq #[] 0), #[]⟩
noncomputable def o227 (P : Params) : Obj := ⟨.none, none, (.func ⟨(.ofString "fileno"), (.ofString "BytesIO.fileno"), (fnIn 13 13).1, .stmts (fnIn 13 13).2.1, (fnIn 13 13).2.2, 0, [], .none, .none, .none, .none, none, .none, .none, 0⟩), #[]⟩
noncomputable def o228 (P : Params) : Obj := ⟨(.type "code"), none, (.fields #[(.str (.ofString "fileno") 596), (.str (.ofString "BytesIO.fileno") 597), (.str (.ofString "/claim/cut.py") 598), (.int 105 0), (.int 1 0), (.int 0 0), (.int 0 0), (.int 3 0), (.ref 223), (.bool true), (.int 318 0), (.ref 224), .none, (.ref 225), (.ref 226), (.ref 227), (.int 600 0), (.int 105 0), (.str (.ofString "/claim/cut.py") 601)]), #[]⟩
noncomputable def o229 (P : Params) : Obj := ⟨(.type "function"), none, (.func ⟨(.ofString "fileno"), (.ofString "BytesIO.fileno"), (fnIn 13 13).1, .stmts (fnIn 13 13).2.1, (fnIn 13 13).2.2, 3, [], .none, .none, .none, (.str (.ofString "io") 383), none, (.ref 228), .none, 0⟩), #[]⟩
noncomputable def o230 (P : Params) : Obj := ⟨(.type "tuple"), none, (.seq #[] 0), #[]⟩
noncomputable def o231 (P : Params) : Obj := ⟨.none, none, (.fields #[]), #[]⟩
noncomputable def o232 (P : Params) : Obj := ⟨(.type "tuple"), none, (.seq #[(.str (.ofString "self") 606)] 0), #[]⟩
noncomputable def o233 (P : Params) : Obj := ⟨(.type "tuple"), none, (.seq #[] 0), #[]⟩
noncomputable def o234 (P : Params) : Obj := ⟨.none, none, (.func ⟨(.ofString "detach"), (.ofString "BytesIO.detach"), (fnIn 13 14).1, .stmts (fnIn 13 14).2.1, (fnIn 13 14).2.2, 0, [], .none, .none, .none, .none, none, .none, .none, 0⟩), #[]⟩
noncomputable def o235 (P : Params) : Obj := ⟨(.type "code"), none, (.fields #[(.str (.ofString "detach") 603), (.str (.ofString "BytesIO.detach") 604), (.str (.ofString "/claim/cut.py") 605), (.int 108 0), (.int 1 0), (.int 0 0), (.int 0 0), (.int 3 0), (.ref 230), (.bool true), (.int 318 0), (.ref 231), .none, (.ref 232), (.ref 233), (.ref 234), (.int 607 0), (.int 108 0), (.str (.ofString "/claim/cut.py") 608)]), #[]⟩
noncomputable def o236 (P : Params) : Obj := ⟨(.type "function"), none, (.func ⟨(.ofString "detach"), (.ofString "BytesIO.detach"), (fnIn 13 14).1, .stmts (fnIn 13 14).2.1, (fnIn 13 14).2.2, 3, [], .none, .none, .none, (.str (.ofString "io") 383), none, (.ref 235), .none, 0⟩), #[]⟩
noncomputable def o237 (P : Params) : Obj := ⟨(.type "tuple"), none, (.seq #[] 0), #[]⟩
noncomputable def o238 (P : Params) : Obj := ⟨.none, none, (.fields #[]), #[]⟩
noncomputable def o239 (P : Params) : Obj := ⟨(.type "tuple"), none, (.seq #[(.str (.ofString "self") 613)] 0), #[]⟩
noncomputable def o240 (P : Params) : Obj := ⟨(.type "tuple"), none, (.seq #[] 0), #[]⟩
noncomputable def o241 (P : Params) : Obj := ⟨.none, none, (.func ⟨(.ofString "getvalue"), (.ofString "BytesIO.getvalue"), (fnIn 13 15).1, .stmts (fnIn 13 15).2.1, (fnIn 13 15).2.2, 0, [], .none, .none, .none, .none, none, .none, .none, 0⟩), #[]⟩
noncomputable def o242 (P : Params) : Obj := ⟨(.type "code"), none, (.fields #[(.str (.ofString "getvalue") 610), (.str (.ofString "BytesIO.getvalue") 611), (.str (.ofString "/claim/cut.py") 612), (.int 111 0), (.int 1 0), (.int 0 0), (.int 0 0), (.int 3 0), (.ref 237), (.bool true), (.int 318 0), (.ref 238), .none, (.ref 239), (.ref 240), (.ref 241), (.int 614 0), (.int 111 0), (.str (.ofString "/claim/cut.py") 615)]), #[]⟩
noncomputable def o243 (P : Params) : Obj := ⟨(.type "function"), none, (.func ⟨(.ofString "getvalue"), (.ofString "BytesIO.getvalue"), (fnIn 13 15).1, .stmts (fnIn 13 15).2.1, (fnIn 13 15).2.2, 3, [], .none, .none, .none, (.str (.ofString "io") 383), none, (.ref 242), .none, 0⟩), #[]⟩
noncomputable def o244 (P : Params) : Obj := ⟨(.type "tuple"), none, (.seq #[] 0), #[]⟩
noncomputable def o245 (P : Params) : Obj := ⟨.none, none, (.fields #[]), #[]⟩
noncomputable def o246 (P : Params) : Obj := ⟨(.type "tuple"), none, (.seq #[(.str (.ofString "self") 620)] 0), #[]⟩
noncomputable def o247 (P : Params) : Obj := ⟨(.type "tuple"), none, (.seq #[] 0), #[]⟩
noncomputable def o248 (P : Params) : Obj := ⟨.none, none, (.func ⟨(.ofString "getbuffer"), (.ofString "BytesIO.getbuffer"), (fnIn 13 16).1, .stmts (fnIn 13 16).2.1, (fnIn 13 16).2.2, 0, [], .none, .none, .none, .none, none, .none, .none, 0⟩), #[]⟩
noncomputable def o249 (P : Params) : Obj := ⟨(.type "code"), none, (.fields #[(.str (.ofString "getbuffer") 617), (.str (.ofString "BytesIO.getbuffer") 618), (.str (.ofString "/claim/cut.py") 619), (.int 114 0), (.int 1 0), (.int 0 0), (.int 0 0), (.int 3 0), (.ref 244), (.bool true), (.int 318 0), (.ref 245), .none, (.ref 246), (.ref 247), (.ref 248), (.int 621 0), (.int 114 0), (.str (.ofString "/claim/cut.py") 622)]), #[]⟩
noncomputable def o250 (P : Params) : Obj := ⟨(.type "function"), none, (.func ⟨(.ofString "getbuffer"), (.ofString "BytesIO.getbuffer"), (fnIn 13 16).1, .stmts (fnIn 13 16).2.1, (fnIn 13 16).2.2, 3, [], .none, .none, .none, (.str (.ofString "io") 383), none, (.ref 249), .none, 0⟩), #[]⟩
noncomputable def o251 (P : Params) : Obj := ⟨(.type "tuple"), none, (.seq #[] 0), #[]⟩
noncomputable def o252 (P : Params) : Obj := ⟨.none, none, (.fields #[]), #[]⟩
noncomputable def o253 (P : Params) : Obj := ⟨(.type "tuple"), none, (.seq #[(.str (.ofString "self") 627)] 0), #[]⟩
noncomputable def o254 (P : Params) : Obj := ⟨(.type "tuple"), none, (.seq #[] 0), #[]⟩
noncomputable def o255 (P : Params) : Obj := ⟨.none, none, (.func ⟨(.ofString "tell"), (.ofString "BytesIO.tell"), (fnIn 13 17).1, .stmts (fnIn 13 17).2.1, (fnIn 13 17).2.2, 0, [], .none, .none, .none, .none, none, .none, .none, 0⟩), #[]⟩
noncomputable def o256 (P : Params) : Obj := ⟨(.type "code"), none, (.fields #[(.str (.ofString "tell") 624), (.str (.ofString "BytesIO.tell") 625), (.str (.ofString "/claim/cut.py") 626), (.int 117 0), (.int 1 0), (.int 0 0), (.int 0 0), (.int 3 0), (.ref 251), (.bool true), (.int 318 0), (.ref 252), .none, (.ref 253), (.ref 254), (.ref 255), (.int 628 0), (.int 117 0), (.str (.ofString "/claim/cut.py") 629)]), #[]⟩
noncomputable def o257 (P : Params) : Obj := ⟨(.type "function"), none, (.func ⟨(.ofString "tell"), (.ofString "BytesIO.tell"), (fnIn 13 17).1, .stmts (fnIn 13 17).2.1, (fnIn 13 17).2.2, 3, [], .none, .none, .none, (.str (.ofString "io") 383), none, (.ref 256), .none, 0⟩), #[]⟩
noncomputable def o258 (P : Params) : Obj := ⟨(.type "tuple"), none, (.seq #[(.int 0 631)] 0), #[]⟩
noncomputable def o259 (P : Params) : Obj := ⟨(.type "tuple"), none, (.seq #[] 0), #[]⟩
noncomputable def o260 (P : Params) : Obj := ⟨.none, none, (.fields #[]), #[]⟩
noncomputable def o261 (P : Params) : Obj := ⟨(.type "tuple"), none, (.seq #[(.str (.ofString "self") 635), (.str (.ofString "pos") 636), (.str (.ofString "whence") 637)] 0), #[]⟩
noncomputable def o262 (P : Params) : Obj := ⟨(.type "tuple"), none, (.seq #[] 0), #[]⟩
noncomputable def o263 (P : Params) : Obj := ⟨.none, none, (.func ⟨(.ofString "seek"), (.ofString "BytesIO.seek"), (fnIn 13 18).1, .stmts (fnIn 13 18).2.1, (fnIn 13 18).2.2, 0, [], .none, .none, .none, .none, none, .none, .none, 0⟩), #[]⟩
noncomputable def o264 (P : Params) : Obj := ⟨(.type "code"), none, (.fields #[(.str (.ofString "seek") 632), (.str (.ofString "BytesIO.seek") 633), (.str (.ofString "/claim/cut.py") 634), (.int 121 0), (.int 3 0), (.int 3 0), (.int 0 0), (.int 3 0), (.ref 259), (.bool true), (.int 318 0), (.ref 260), .none, (.ref 261), (.ref 262), (.ref 263), (.int 638 0), (.int 121 0), (.str (.ofString "/claim/cut.py") 639)]), #[]⟩
noncomputable def o265 (P : Params) : Obj := ⟨(.type "function"), none, (.func ⟨(.ofString "seek"), (.ofString "BytesIO.seek"), (fnIn 13 18).1, .stmts (fnIn 13 18).2.1, (fnIn 13 18).2.2, 3, [], (.ref 258), .none, .none, (.str (.ofString "io") 383), none, (.ref 264), .none, 0⟩), #[]⟩
noncomputable def o266 (P : Params) : Obj := ⟨(.type "tuple"), none, (.seq #[.none] 0), #[]⟩
noncomputable def o267 (P : Params) : Obj := ⟨(.type "tuple"), none, (.seq #[] 0), #[]⟩
noncomputable def o268 (P : Params) : Obj := ⟨.none, none, (.fields #[]), #[]⟩
noncomputable def o269 (P : Params) : Obj := ⟨(.type "tuple"), none, (.seq #[(.str (.ofString "self") 644), (.str (.ofString "size") 645)] 0), #[]⟩
noncomputable def o270 (P : Params) : Obj := ⟨(.type "tuple"), none, (.seq #[] 0), #[]⟩
noncomputable def o271 (P : Params) : Obj := ⟨.none, none, (.func ⟨(.ofString "truncate"), (.ofString "BytesIO.truncate"), (fnIn 13 19).1, .stmts (fnIn 13 19).2.1, (fnIn 13 19).2.2, 0, [], .none, .none, .none, .none, none, .none, .none, 0⟩), #[]⟩
noncomputable def o272 (P : Params) : Obj := ⟨(.type "code"), none, (.fields #[(.str (.ofString "truncate") 641), (.str (.ofString "BytesIO.truncate") 642), (.str (.ofString "/claim/cut.py") 643), (.int 138 0), (.int 2 0), (.int 2 0), (.int 0 0), (.int 3 0), (.ref 267), (.bool true), (.int 318 0), (.ref 268), .none, (.ref 269), (.ref 270), (.ref 271), (.int 646 0), (.int 138 0), (.str (.ofString "/claim/cut.py") 647)]), #[]⟩
noncomputable def o273 (P : Params) : Obj := ⟨(.type "function"), none, (.func ⟨(.ofString "truncate"), (.ofString "BytesIO.truncate"), (fnIn 13 19).1, .stmts (fnIn 13 19).2.1, (fnIn 13 19).2.2, 3, [], (.ref 266), .none, .none, (.str (.ofString "io") 383), none, (.ref 272), .none, 0⟩), #[]⟩
noncomputable def o274 (P : Params) : Obj := ⟨(.type "tuple"), none, (.seq #[(.int (-1) 650)] 0), #[]⟩
noncomputable def o275 (P : Params) : Obj := ⟨(.type "tuple"), none, (.seq #[] 0), #[]⟩
noncomputable def o276 (P : Params) : Obj := ⟨.none, none, (.fields #[]), #[]⟩
noncomputable def o277 (P : Params) : Obj := ⟨(.type "tuple"), none, (.seq #[(.str (.ofString "self") 654), (.str (.ofString "size") 655), (.str (.ofString "start") 656), (.str (.ofString "stop") 657)] 0), #[]⟩
noncomputable def o278 (P : Params) : Obj := ⟨(.type "tuple"), none, (.seq #[] 0), #[]⟩
noncomputable def o279 (P : Params) : Obj := ⟨.none, none, (.func ⟨(.ofString "read"), (.ofString "BytesIO.read"), (fnIn 13 20).1, .stmts (fnIn 13 20).2.1, (fnIn 13 20).2.2, 0, [], .none, .none, .none, .none, none, .none, .none, 0⟩), #[]⟩
noncomputable def o280 (P : Params) : Obj := ⟨(.type "code"), none, (.fields #[(.str (.ofString "read") 651), (.str (.ofString "BytesIO.read") 652), (.str (.ofString "/claim/cut.py") 653), (.int 141 0), (.int 2 0), (.int 2 0), (.int 0 0), (.int 3 0), (.ref 275), (.bool true), (.int 318 0), (.ref 276), .none, (.ref 277), (.ref 278), (.ref 279), (.int 658 0), (.int 141 0), (.str (.ofString "/claim/cut.py") 659)]), #[]⟩
noncomputable def o281 (P : Params) : Obj := ⟨(.type "function"), none, (.func ⟨(.ofString "read"), (.ofString "BytesIO.read"), (fnIn 13 20).1, .stmts (fnIn 13 20).2.1, (fnIn 13 20).2.2, 3, [], (.ref 274), .none, .none, (.str (.ofString "io") 383), none, (.ref 280), .none, 0⟩), #[]⟩
noncomputable def o282 (P : Params) : Obj := ⟨(.type "tuple"), none, (.seq #[(.int (-1) 662)] 0), #[]⟩
noncomputable def o283 (P : Params) : Obj := ⟨(.type "tuple"), none, (.seq #[] 0), #[]⟩
noncomputable def o284 (P : Params) : Obj := ⟨.none, none, (.fields #[]), #[]⟩
noncomputable def o285 (P : Params) : Obj := ⟨(.type "tuple"), none, (.seq #[(.str (.ofString "self") 666), (.str (.ofString "size") 667)] 0), #[]⟩
noncomputable def o286 (P : Params) : Obj := ⟨(.type "tuple"), none, (.seq #[] 0), #[]⟩
noncomputable def o287 (P : Params) : Obj := ⟨.none, none, (.func ⟨(.ofString "read1"), (.ofString "BytesIO.read1"), (fnIn 13 21).1, .stmts (fnIn 13 21).2.1, (fnIn 13 21).2.2, 0, [], .none, .none, .none, .none, none, .none, .none, 0⟩), #[]⟩
noncomputable def o288 (P : Params) : Obj := ⟨(.type "code"), none, (.fields #[(.str (.ofString "read1") 663), (.str (.ofString "BytesIO.read1") 664), (.str (.ofString "/claim/cut.py") 665), (.int 155 0), (.int 2 0), (.int 2 0), (.int 0 0), (.int 3 0), (.ref 283), (.bool true), (.int 318 0), (.ref 284), .none, (.ref 285), (.ref 286), (.ref 287), (.int 668 0), (.int 155 0), (.str (.ofString "/claim/cut.py") 669)]), #[]⟩
noncomputable def o289 (P : Params) : Obj := ⟨(.type "function"), none, (.func ⟨(.ofString "read1"), (.ofString "BytesIO.read1"), (fnIn 13 21).1, .stmts (fnIn 13 21).2.1, (fnIn 13 21).2.2, 3, [], (.ref 282), .none, .none, (.str (.ofString "io") 383), none, (.ref 288), .none, 0⟩), #[]⟩
noncomputable def o290 (P : Params) : Obj := ⟨(.type "tuple"), none, (.seq #[] 0), #[]⟩
noncomputable def o291 (P : Params) : Obj := ⟨.none, none, (.fields #[]), #[]⟩
noncomputable def o292 (P : Params) : Obj := ⟨(.type "tuple"), none, (.seq #[(.str (.ofString "self") 674), (.str (.ofString "buffer") 675), (.str (.ofString "start") 676), (.str (.ofString "n") 677)] 0), #[]⟩
noncomputable def o293 (P : Params) : Obj := ⟨(.type "tuple"), none, (.seq #[] 0), #[]⟩
noncomputable def o294 (P : Params) : Obj := ⟨.none, none, (.func ⟨(.ofString "readinto"), (.ofString "BytesIO.readinto"), (fnIn 13 22).1, .stmts (fnIn 13 22).2.1, (fnIn 13 22).2.2, 0, [], .none, .none, .none, .none, none, .none, .none, 0⟩), #[]⟩
noncomputable def o295 (P : Params) : Obj := ⟨(.type "code"), none, (.fields #[(.str (.ofString "readinto") 671), (.str (.ofString "BytesIO.readinto") 672), (.str (.ofString "/claim/cut.py") 673), (.int 158 0), (.int 2 0), (.int 2 0), (.int 0 0), (.int 3 0), (.ref 290), (.bool true), (.int 318 0), (.ref 291), .none, (.ref 292), (.ref 293), (.ref 294), (.int 678 0), (.int 158 0), (.str (.ofString "/claim/cut.py") 679)]), #[]⟩
noncomputable def o296 (P : Params) : Obj := ⟨(.type "function"), none, (.func ⟨(.ofString "readinto"), (.ofString "BytesIO.readinto"), (fnIn 13 22).1, .stmts (fnIn 13 22).2.1, (fnIn 13 22).2.2, 3, [], .none, .none, .none, (.str (.ofString "io") 383), none, (.ref 295), .none, 0⟩), #[]⟩
noncomputable def o297 (P : Params) : Obj := ⟨(.type "tuple"), none, (.seq #[] 0), #[]⟩
noncomputable def o298 (P : Params) : Obj := ⟨.none, none, (.fields #[]), #[]⟩
noncomputable def o299 (P : Params) : Obj := ⟨(.type "tuple"), none, (.seq #[(.str (.ofString "self") 684), (.str (.ofString "buffer") 685)] 0), #[]⟩
noncomputable def o300 (P : Params) : Obj := ⟨(.type "tuple"), none, (.seq #[] 0), #[]⟩
noncomputable def o301 (P : Params) : Obj := ⟨.none, none, (.func ⟨(.ofString "readinto1"), (.ofString "BytesIO.readinto1"), (fnIn 13 23).1, .stmts (fnIn 13 23).2.1, (fnIn 13 23).2.2, 0, [], .none, .none, .none, .none, none, .none, .none, 0⟩), #[]⟩
noncomputable def o302 (P : Params) : Obj := ⟨(.type "code"), none, (.fields #[(.str (.ofString "readinto1") 681), (.str (.ofString "BytesIO.readinto1") 682), (.str (.ofString "/claim/cut.py") 683), (.int 172 0), (.int 2 0), (.int 2 0), (.int 0 0), (.int 3 0), (.ref 297), (.bool true), (.int 318 0), (.ref 298), .none, (.ref 299), (.ref 300), (.ref 301), (.int 686 0), (.int 172 0), (.str (.ofString "/claim/cut.py") 687)]), #[]⟩
noncomputable def o303 (P : Params) : Obj := ⟨(.type "function"), none, (.func ⟨(.ofString "readinto1"), (.ofString "BytesIO.readinto1"), (fnIn 13 23).1, .stmts (fnIn 13 23).2.1, (fnIn 13 23).2.2, 3, [], .none, .none, .none, (.str (.ofString "io") 383), none, (.ref 302), .none, 0⟩), #[]⟩
noncomputable def o304 (P : Params) : Obj := ⟨(.type "tuple"), none, (.seq #[(.int (-1) 690)] 0), #[]⟩
noncomputable def o305 (P : Params) : Obj := ⟨(.type "tuple"), none, (.seq #[] 0), #[]⟩
noncomputable def o306 (P : Params) : Obj := ⟨.none, none, (.fields #[]), #[]⟩
noncomputable def o307 (P : Params) : Obj := ⟨(.type "tuple"), none, (.seq #[(.str (.ofString "self") 694), (.str (.ofString "size") 695)] 0), #[]⟩
noncomputable def o308 (P : Params) : Obj := ⟨(.type "tuple"), none, (.seq #[] 0), #[]⟩
noncomputable def o309 (P : Params) : Obj := ⟨.none, none, (.func ⟨(.ofString "readline"), (.ofString "BytesIO.readline"), (fnIn 13 24).1, .stmts (fnIn 13 24).2.1, (fnIn 13 24).2.2, 0, [], .none, .none, .none, .none, none, .none, .none, 0⟩), #[]⟩
noncomputable def o310 (P : Params) : Obj := ⟨(.type "code"), none, (.fields #[(.str (.ofString "readline") 691), (.str (.ofString "BytesIO.readline") 692), (.str (.ofString "/claim/cut.py") 693), (.int 175 0), (.int 2 0), (.int 2 0), (.int 0 0), (.int 3 0), (.ref 305), (.bool true), (.int 318 0), (.ref 306), .none, (.ref 307), (.ref 308), (.ref 309), (.int 696 0), (.int 175 0), (.str (.ofString "/claim/cut.py") 697)]), #[]⟩
noncomputable def o311 (P : Params) : Obj := ⟨(.type "function"), none, (.func ⟨(.ofString "readline"), (.ofString "BytesIO.readline"), (fnIn 13 24).1, .stmts (fnIn 13 24).2.1, (fnIn 13 24).2.2, 3, [], (.ref 304), .none, .none, (.str (.ofString "io") 383), none, (.ref 310), .none, 0⟩), #[]⟩
noncomputable def o312 (P : Params) : Obj := ⟨(.type "tuple"), none, (.seq #[.none] 0), #[]⟩
noncomputable def o313 (P : Params) : Obj := ⟨(.type "tuple"), none, (.seq #[] 0), #[]⟩
noncomputable def o314 (P : Params) : Obj := ⟨.none, none, (.fields #[]), #[]⟩
noncomputable def o315 (P : Params) : Obj := ⟨(.type "tuple"), none, (.seq #[(.str (.ofString "self") 702), (.str (.ofString "size") 703)] 0), #[]⟩
noncomputable def o316 (P : Params) : Obj := ⟨(.type "tuple"), none, (.seq #[] 0), #[]⟩
noncomputable def o317 (P : Params) : Obj := ⟨.none, none, (.func ⟨(.ofString "readlines"), (.ofString "BytesIO.readlines"), (fnIn 13 25).1, .stmts (fnIn 13 25).2.1, (fnIn 13 25).2.2, 0, [], .none, .none, .none, .none, none, .none, .none, 0⟩), #[]⟩
noncomputable def o318 (P : Params) : Obj := ⟨(.type "code"), none, (.fields #[(.str (.ofString "readlines") 699), (.str (.ofString "BytesIO.readlines") 700), (.str (.ofString "/claim/cut.py") 701), (.int 182 0), (.int 2 0), (.int 2 0), (.int 0 0), (.int 3 0), (.ref 313), (.bool true), (.int 318 0), (.ref 314), .none, (.ref 315), (.ref 316), (.ref 317), (.int 704 0), (.int 182 0), (.str (.ofString "/claim/cut.py") 705)]), #[]⟩
noncomputable def o319 (P : Params) : Obj := ⟨(.type "function"), none, (.func ⟨(.ofString "readlines"), (.ofString "BytesIO.readlines"), (fnIn 13 25).1, .stmts (fnIn 13 25).2.1, (fnIn 13 25).2.2, 3, [], (.ref 312), .none, .none, (.str (.ofString "io") 383), none, (.ref 318), .none, 0⟩), #[]⟩
noncomputable def o320 (P : Params) : Obj := ⟨(.type "tuple"), none, (.seq #[] 0), #[]⟩
noncomputable def o321 (P : Params) : Obj := ⟨.none, none, (.fields #[]), #[]⟩
noncomputable def o322 (P : Params) : Obj := ⟨(.type "tuple"), none, (.seq #[(.str (.ofString "self") 710)] 0), #[]⟩
noncomputable def o323 (P : Params) : Obj := ⟨(.type "tuple"), none, (.seq #[] 0), #[]⟩
noncomputable def o324 (P : Params) : Obj := ⟨.none, none, (.func ⟨(.ofString "__iter__"), (.ofString "BytesIO.__iter__"), (fnIn 13 26).1, .stmts (fnIn 13 26).2.1, (fnIn 13 26).2.2, 0, [], .none, .none, .none, .none, none, .none, .none, 0⟩), #[]⟩
noncomputable def o325 (P : Params) : Obj := ⟨(.type "code"), none, (.fields #[(.str (.ofString "__iter__") 707), (.str (.ofString "BytesIO.__iter__") 708), (.str (.ofString "/claim/cut.py") 709), (.int 185 0), (.int 1 0), (.int 0 0), (.int 0 0), (.int 3 0), (.ref 320), (.bool true), (.int 318 0), (.ref 321), .none, (.ref 322), (.ref 323), (.ref 324), (.int 711 0), (.int 185 0), (.str (.ofString "/claim/cut.py") 712)]), #[]⟩
noncomputable def o326 (P : Params) : Obj := ⟨(.type "function"), none, (.func ⟨(.ofString "__iter__"), (.ofString "BytesIO.__iter__"), (fnIn 13 26).1, .stmts (fnIn 13 26).2.1, (fnIn 13 26).2.2, 3, [], .none, .none, .none, (.str (.ofString "io") 383), none, (.ref 325), .none, 0⟩), #[]⟩
noncomputable def o327 (P : Params) : Obj := ⟨(.type "tuple"), none, (.seq #[] 0), #[]⟩
noncomputable def o328 (P : Params) : Obj := ⟨.none, none, (.fields #[]), #[]⟩
noncomputable def o329 (P : Params) : Obj := ⟨(.type "tuple"), none, (.seq #[(.str (.ofString "self") 717), (.str (.ofString "line") 718)] 0), #[]⟩
noncomputable def o330 (P : Params) : Obj := ⟨(.type "tuple"), none, (.seq #[] 0), #[]⟩
noncomputable def o331 (P : Params) : Obj := ⟨.none, none, (.func ⟨(.ofString "__next__"), (.ofString "BytesIO.__next__"), (fnIn 13 27).1, .stmts (fnIn 13 27).2.1, (fnIn 13 27).2.2, 0, [], .none, .none, .none, .none, none, .none, .none, 0⟩), #[]⟩
noncomputable def o332 (P : Params) : Obj := ⟨(.type "code"), none, (.fields #[(.str (.ofString "__next__") 714), (.str (.ofString "BytesIO.__next__") 715), (.str (.ofString "/claim/cut.py") 716), (.int 188 0), (.int 1 0), (.int 0 0), (.int 0 0), (.int 3 0), (.ref 327), (.bool true), (.int 318 0), (.ref 328), .none, (.ref 329), (.ref 330), (.ref 331), (.int 719 0), (.int 188 0), (.str (.ofString "/claim/cut.py") 720)]), #[]⟩
noncomputable def o333 (P : Params) : Obj := ⟨(.type "function"), none, (.func ⟨(.ofString "__next__"), (.ofString "BytesIO.__next__"), (fnIn 13 27).1, .stmts (fnIn 13 27).2.1, (fnIn 13 27).2.2, 3, [], .none, .none, .none, (.str (.ofString "io") 383), none, (.ref 332), .none, 0⟩), #[]⟩
noncomputable def o334 (P : Params) : Obj := ⟨(.type "tuple"), none, (.seq #[] 0), #[]⟩
noncomputable def o335 (P : Params) : Obj := ⟨.none, none, (.fields #[]), #[]⟩
noncomputable def o336 (P : Params) : Obj := ⟨(.type "tuple"), none, (.seq #[(.str (.ofString "self") 725), (.str (.ofString "b") 726), (.str (.ofString "n") 727), (.str (.ofString "start") 728)] 0), #[]⟩
noncomputable def o337 (P : Params) : Obj := ⟨(.type "tuple"), none, (.seq #[] 0), #[]⟩
noncomputable def o338 (P : Params) : Obj := ⟨.none, none, (.func ⟨(.ofString "write"), (.ofString "BytesIO.write"), (fnIn 13 28).1, .stmts (fnIn 13 28).2.1, (fnIn 13 28).2.2, 0, [], .none, .none, .none, .none, none, .none, .none, 0⟩), #[]⟩
noncomputable def o339 (P : Params) : Obj := ⟨(.type "code"), none, (.fields #[(.str (.ofString "write") 722), (.str (.ofString "BytesIO.write") 723), (.str (.ofString "/claim/cut.py") 724), (.int 195 0), (.int 2 0), (.int 2 0), (.int 0 0), (.int 3 0), (.ref 334), (.bool true), (.int 318 0), (.ref 335), .none, (.ref 336), (.ref 337), (.ref 338), (.int 729 0), (.int 195 0), (.str (.ofString "/claim/cut.py") 730)]), #[]⟩
noncomputable def o340 (P : Params) : Obj := ⟨(.type "function"), none, (.func ⟨(.ofString "write"), (.ofString "BytesIO.write"), (fnIn 13 28).1, .stmts (fnIn 13 28).2.1, (fnIn 13 28).2.2, 3, [], .none, .none, .none, (.str (.ofString "io") 383), none, (.ref 339), .none, 0⟩), #[]⟩
noncomputable def o341 (P : Params) : Obj := ⟨(.type "tuple"), none, (.seq #[] 0), #[]⟩
noncomputable def o342 (P : Params) : Obj := ⟨.none, none, (.fields #[]), #[]⟩
noncomputable def o343 (P : Params) : Obj := ⟨(.type "tuple"), none, (.seq #[(.str (.ofString "self") 735), (.str (.ofString "lines") 736)] 0), #[]⟩
noncomputable def o344 (P : Params) : Obj := ⟨(.type "tuple"), none, (.seq #[] 0), #[]⟩
noncomputable def o345 (P : Params) : Obj := ⟨.none, none, (.func ⟨(.ofString "writelines"), (.ofString "BytesIO.writelines"), (fnIn 13 29).1, .stmts (fnIn 13 29).2.1, (fnIn 13 29).2.2, 0, [], .none, .none, .none, .none, none, .none, .none, 0⟩), #[]⟩
noncomputable def o346 (P : Params) : Obj := ⟨(.type "code"), none, (.fields #[(.str (.ofString "writelines") 732), (.str (.ofString "BytesIO.writelines") 733), (.str (.ofString "/claim/cut.py") 734), (.int 211 0), (.int 2 0), (.int 2 0), (.int 0 0), (.int 3 0), (.ref 341), (.bool true), (.int 318 0), (.ref 342), .none, (.ref 343), (.ref 344), (.ref 345), (.int 737 0), (.int 211 0), (.str (.ofString "/claim/cut.py") 738)]), #[]⟩
noncomputable def o347 (P : Params) : Obj := ⟨(.type "function"), none, (.func ⟨(.ofString "writelines"), (.ofString "BytesIO.writelines"), (fnIn 13 29).1, .stmts (fnIn 13 29).2.1, (fnIn 13 29).2.2, 3, [], .none, .none, .none, (.str (.ofString "io") 383), none, (.ref 346), .none, 0⟩), #[]⟩
noncomputable def o348 (P : Params) : Obj := ⟨(.type "tuple"), none, (.seq #[] 0), #[]⟩
noncomputable def o349 (P : Params) : Obj := ⟨.none, none, (.fields #[]), #[]⟩
noncomputable def o350 (P : Params) : Obj := ⟨(.type "tuple"), none, (.seq #[(.str (.ofString "self") 743)] 0), #[]⟩
noncomputable def o351 (P : Params) : Obj := ⟨(.type "tuple"), none, (.seq #[] 0), #[]⟩
noncomputable def o352 (P : Params) : Obj := ⟨.none, none, (.func ⟨(.ofString "__repr__"), (.ofString "BytesIO.__repr__"), (fnIn 13 30).1, .stmts (fnIn 13 30).2.1, (fnIn 13 30).2.2, 0, [], .none, .none, .none, .none, none, .none, .none, 0⟩), #[]⟩
noncomputable def o353 (P : Params) : Obj := ⟨(.type "code"), none, (.fields #[(.str (.ofString "__repr__") 740), (.str (.ofString "BytesIO.__repr__") 741), (.str (.ofString "/claim/cut.py") 742), (.int 214 0), (.int 1 0), (.int 0 0), (.int 0 0), (.int 3 0), (.ref 348), (.bool true), (.int 318 0), (.ref 349), .none, (.ref 350), (.ref 351), (.ref 352), (.int 744 0), (.int 214 0), (.str (.ofString "/claim/cut.py") 745)]), #[]⟩
noncomputable def o354 (P : Params) : Obj := ⟨(.type "function"), none, (.func ⟨(.ofString "__repr__"), (.ofString "BytesIO.__repr__"), (fnIn 13 30).1, .stmts (fnIn 13 30).2.1, (fnIn 13 30).2.2, 3, [], .none, .none, .none, (.str (.ofString "io") 383), none, (.ref 353), .none, 0⟩), #[]⟩
noncomputable def o355 (P : Params) : Obj := ⟨(.type "tuple"), none, (.seq #[(.str (.ofString "__buf") 747), (.str (.ofString "__pos") 748)] 0), #[]⟩
noncomputable def o356 (P : Params) : Obj := ⟨(.type "dict"), none, (.dict #[e P "__module__" 498 (.str (.ofString "_io") 503), e P "__firstlineno__" 502 (.int 46 501), e P "__init__" 512 (.ref 144), e P "_BytesIO__check" 519 (.ref 151), e P "_BytesIO__line" 530 (.ref 158), e P "closed" 538 (.ref 166), e P "close" 545 (.ref 173), e P "__enter__" 552 (.ref 180), e P "__exit__" 560 (.ref 187), e P "readable" 567 (.ref 194), e P "writable" 574 (.ref 201), e P "seekable" 581 (.ref 208), e P "isatty" 588 (.ref 215), e P "flush" 595 (.ref 222), e P "fileno" 602 (.ref 229), e P "detach" 609 (.ref 236), e P "getvalue" 616 (.ref 243), e P "getbuffer" 623 (.ref 250), e P "tell" 630 (.ref 257), e P "seek" 640 (.ref 265), e P "truncate" 648 (.ref 273), e P "read" 660 (.ref 281), e P "read1" 670 (.ref 289), e P "readinto" 680 (.ref 296), e P "readinto1" 688 (.ref 303), e P "readline" 698 (.ref 311), e P "readlines" 706 (.ref 319), e P "__iter__" 713 (.ref 326), e P "__next__" 721 (.ref 333), e P "write" 731 (.ref 340), e P "writelines" 739 (.ref 347), e P "__repr__" 746 (.ref 354), e P "__static_attributes__" 749 (.ref 355), e P "__doc__" 750 .none] 2), #[]⟩
noncomputable def o357 (P : Params) : Obj := ⟨(.type "type"), none, (.cls ⟨(.ofString "BytesIO"), [(.ref 115)], [(.ref 357), (.ref 115), (.ref 100), (.type "object")], 356, (.ofString "BytesIO"), true, [], [], false, none, false⟩), #[(some (.ref 130)), none, (some (.str (.ofString "BytesIO") 491)), (some (.str (.ofString "BytesIO") 499)), (some .none), (some (.bool true))]⟩
noncomputable def o358 (P : Params) : Obj := ⟨(.type "super"), none, (.fields #[(.ref 357), (.ref 357), (.ref 357)]), #[]⟩
noncomputable def o359 (P : Params) : Obj := ⟨(.type "builtin_function_or_method"), none, (.fields #[(.builtin "object.__init_subclass__"), (.ref 357)]), #[]⟩
noncomputable def t1 (P : Params) : BT := (.node (o0 P) (.node (o1 P) (.node (o3v2 P) (.node (o7 P) (.node (o15 P) (.node (o31 P) (.node (o63 P) (.node (o127 P) (.node (o255 P) .nil .nil) .nil) (.node (o191 P) (.node (o319 P) .nil .nil) .nil)) (.node (o95 P) (.node (o159 P) (.node (o287 P) .nil .nil) .nil) (.node (o223 P) (.node (o351 P) .nil .nil) .nil))) (.node (o47 P) (.node (o79 P) (.node (o143 P) (.node (o271 P) .nil .nil) .nil) (.node (o207 P) (.node (o335 P) .nil .nil) .nil)) (.node (o111 P) (.node (o175 P) (.node (o303 P) .nil .nil) .nil) (.node (o239 P) .nil .nil)))) (.node (o23 P) (.node (o39 P) (.node (o71 P) (.node (o135 P) (.node (o263 P) .nil .nil) .nil) (.node (o199 P) (.node (o327 P) .nil .nil) .nil)) (.node (o103 P) (.node (o167 P) (.node (o295 P) .nil .nil) .nil) (.node (o231 P) (.node (o359 P) .nil .nil) .nil))) (.node (o55 P) (.node (o87 P) (.node (o151 P) (.node (o279 P) .nil .nil) .nil) (.node (o215 P) (.node (o343 P) .nil .nil) .nil)) (.node (o119 P) (.node (o183 P) (.node (o311 P) .nil .nil) .nil) (.node (o247 P) .nil .nil))))) (.node (o11v1 P) (.node (o19 P) (.node (o35v2 P) (.node (o67 P) (.node (o131 P) (.node (o259 P) .nil .nil) .nil) (.node (o195 P) (.node (o323 P) .nil .nil) .nil)) (.node (o99 P) (.node (o163 P) (.node (o291 P) .nil .nil) .nil) (.node (o227 P) (.node (o355 P) .nil .nil) .nil))) (.node (o51 P) (.node (o83 P) (.node (o147 P) (.node (o275 P) .nil .nil) .nil) (.node (o211 P) (.node (o339 P) .nil .nil) .nil)) (.node (o115v1 P) (.node (o179 P) (.node (o307 P) .nil .nil) .nil) (.node (o243 P) .nil .nil)))) (.node (o27 P) (.node (o43 P) (.node (o75 P) (.node (o139 P) (.node (o267 P) .nil .nil) .nil) (.node (o203 P) (.node (o331 P) .nil .nil) .nil)) (.node (o107 P) (.node (o171 P) (.node (o299 P) .nil .nil) .nil) (.node (o235 P) .nil .nil))) (.node (o59 P) (.node (o91 P) (.node (o155 P) (.node (o283 P) .nil .nil) .nil) (.node (o219 P) (.node (o347 P) .nil .nil) .nil)) (.node (o123 P) (.node (o187 P) (.node (o315 P) .nil .nil) .nil) (.node (o251 P) .nil .nil)))))) (.node (o5 P) (.node (o9 P) (.node (o17 P) (.node (o33 P) (.node (o65 P) (.node (o129 P) (.node (o257 P) .nil .nil) .nil) (.node (o193 P) (.node (o321 P) .nil .nil) .nil)) (.node (o97 P) (.node (o161 P) (.node (o289 P) .nil .nil) .nil) (.node (o225 P) (.node (o353 P) .nil .nil) .nil))) (.node (o49 P) (.node (o81 P) (.node (o145 P) (.node (o273 P) .nil .nil) .nil) (.node (o209 P) (.node (o337 P) .nil .nil) .nil)) (.node (o113 P) (.node (o177 P) (.node (o305 P) .nil .nil) .nil) (.node (o241 P) .nil .nil)))) (.node (o25 P) (.node (o41 P) (.node (o73 P) (.node (o137 P) (.node (o265 P) .nil .nil) .nil) (.node (o201 P) (.node (o329 P) .nil .nil) .nil)) (.node (o105 P) (.node (o169 P) (.node (o297 P) .nil .nil) .nil) (.node (o233 P) .nil .nil))) (.node (o57 P) (.node (o89 P) (.node (o153 P) (.node (o281 P) .nil .nil) .nil) (.node (o217 P) (.node (o345 P) .nil .nil) .nil)) (.node (o121 P) (.node (o185 P) (.node (o313 P) .nil .nil) .nil) (.node (o249 P) .nil .nil))))) (.node (o13 P) (.node (o21 P) (.node (o37 P) (.node (o69 P) (.node (o133 P) (.node (o261 P) .nil .nil) .nil) (.node (o197 P) (.node (o325 P) .nil .nil) .nil)) (.node (o101 P) (.node (o165 P) (.node (o293 P) .nil .nil) .nil) (.node (o229 P) (.node (o357 P) .nil .nil) .nil))) (.node (o53 P) (.node (o85 P) (.node (o149 P) (.node (o277 P) .nil .nil) .nil) (.node (o213 P) (.node (o341 P) .nil .nil) .nil)) (.node (o117 P) (.node (o181 P) (.node (o309 P) .nil .nil) .nil) (.node (o245 P) .nil .nil)))) (.node (o29v1 P) (.node (o45 P) (.node (o77 P) (.node (o141 P) (.node (o269 P) .nil .nil) .nil) (.node (o205 P) (.node (o333 P) .nil .nil) .nil)) (.node (o109 P) (.node (o173 P) (.node (o301 P) .nil .nil) .nil) (.node (o237 P) .nil .nil))) (.node (o61 P) (.node (o93 P) (.node (o157 P) (.node (o285 P) .nil .nil) .nil) (.node (o221 P) (.node (o349 P) .nil .nil) .nil)) (.node (o125 P) (.node (o189 P) (.node (o317 P) .nil .nil) .nil) (.node (o253 P) .nil .nil))))))) (.node (o2v1 P) (.node (o4 P) (.node (o8 P) (.node (o16 P) (.node (o32 P) (.node (o64 P) (.node (o128 P) (.node (o256 P) .nil .nil) .nil) (.node (o192 P) (.node (o320 P) .nil .nil) .nil)) (.node (o96 P) (.node (o160 P) (.node (o288 P) .nil .nil) .nil) (.node (o224 P) (.node (o352 P) .nil .nil) .nil))) (.node (o48 P) (.node (o80 P) (.node (o144 P) (.node (o272 P) .nil .nil) .nil) (.node (o208 P) (.node (o336 P) .nil .nil) .nil)) (.node (o112 P) (.node (o176 P) (.node (o304 P) .nil .nil) .nil) (.node (o240 P) .nil .nil)))) (.node (o24 P) (.node (o40 P) (.node (o72 P) (.node (o136 P) (.node (o264 P) .nil .nil) .nil) (.node (o200 P) (.node (o328 P) .nil .nil) .nil)) (.node (o104 P) (.node (o168 P) (.node (o296 P) .nil .nil) .nil) (.node (o232 P) .nil .nil))) (.node (o56 P) (.node (o88 P) (.node (o152 P) (.node (o280 P) .nil .nil) .nil) (.node (o216 P) (.node (o344 P) .nil .nil) .nil)) (.node (o120 P) (.node (o184 P) (.node (o312 P) .nil .nil) .nil) (.node (o248 P) .nil .nil))))) (.node (o12 P) (.node (o20 P) (.node (o36 P) (.node (o68 P) (.node (o132 P) (.node (o260 P) .nil .nil) .nil) (.node (o196 P) (.node (o324 P) .nil .nil) .nil)) (.node (o100 P) (.node (o164 P) (.node (o292 P) .nil .nil) .nil) (.node (o228 P) (.node (o356 P) .nil .nil) .nil))) (.node (o52 P) (.node (o84 P) (.node (o148 P) (.node (o276 P) .nil .nil) .nil) (.node (o212 P) (.node (o340 P) .nil .nil) .nil)) (.node (o116 P) (.node (o180 P) (.node (o308 P) .nil .nil) .nil) (.node (o244 P) .nil .nil)))) (.node (o28 P) (.node (o44 P) (.node (o76 P) (.node (o140 P) (.node (o268 P) .nil .nil) .nil) (.node (o204 P) (.node (o332 P) .nil .nil) .nil)) (.node (o108 P) (.node (o172 P) (.node (o300 P) .nil .nil) .nil) (.node (o236 P) .nil .nil))) (.node (o60 P) (.node (o92 P) (.node (o156 P) (.node (o284 P) .nil .nil) .nil) (.node (o220 P) (.node (o348 P) .nil .nil) .nil)) (.node (o124 P) (.node (o188 P) (.node (o316 P) .nil .nil) .nil) (.node (o252 P) .nil .nil)))))) (.node (o6 P) (.node (o10 P) (.node (o18 P) (.node (o34 P) (.node (o66 P) (.node (o130 P) (.node (o258 P) .nil .nil) .nil) (.node (o194 P) (.node (o322 P) .nil .nil) .nil)) (.node (o98 P) (.node (o162 P) (.node (o290 P) .nil .nil) .nil) (.node (o226 P) (.node (o354 P) .nil .nil) .nil))) (.node (o50 P) (.node (o82 P) (.node (o146 P) (.node (o274 P) .nil .nil) .nil) (.node (o210 P) (.node (o338 P) .nil .nil) .nil)) (.node (o114 P) (.node (o178 P) (.node (o306 P) .nil .nil) .nil) (.node (o242 P) .nil .nil)))) (.node (o26 P) (.node (o42 P) (.node (o74 P) (.node (o138 P) (.node (o266 P) .nil .nil) .nil) (.node (o202 P) (.node (o330 P) .nil .nil) .nil)) (.node (o106 P) (.node (o170 P) (.node (o298 P) .nil .nil) .nil) (.node (o234 P) .nil .nil))) (.node (o58 P) (.node (o90 P) (.node (o154 P) (.node (o282 P) .nil .nil) .nil) (.node (o218 P) (.node (o346 P) .nil .nil) .nil)) (.node (o122 P) (.node (o186 P) (.node (o314 P) .nil .nil) .nil) (.node (o250 P) .nil .nil))))) (.node (o14 P) (.node (o22 P) (.node (o38 P) (.node (o70 P) (.node (o134 P) (.node (o262 P) .nil .nil) .nil) (.node (o198 P) (.node (o326 P) .nil .nil) .nil)) (.node (o102 P) (.node (o166 P) (.node (o294 P) .nil .nil) .nil) (.node (o230 P) (.node (o358 P) .nil .nil) .nil))) (.node (o54 P) (.node (o86 P) (.node (o150 P) (.node (o278 P) .nil .nil) .nil) (.node (o214 P) (.node (o342 P) .nil .nil) .nil)) (.node (o118 P) (.node (o182 P) (.node (o310 P) .nil .nil) .nil) (.node (o246 P) .nil .nil)))) (.node (o30 P) (.node (o46 P) (.node (o78 P) (.node (o142 P) (.node (o270 P) .nil .nil) .nil) (.node (o206 P) (.node (o334 P) .nil .nil) .nil)) (.node (o110 P) (.node (o174 P) (.node (o302 P) .nil .nil) .nil) (.node (o238 P) .nil .nil))) (.node (o62 P) (.node (o94 P) (.node (o158 P) (.node (o286 P) .nil .nil) .nil) (.node (o222 P) (.node (o350 P) .nil .nil) .nil)) (.node (o126 P) (.node (o190 P) (.node (o318 P) .nil .nil) .nil) (.node (o254 P) .nil .nil))))))))
noncomputable def o3v3 (P : Params) : Obj := ⟨(.type "dict"), none, (.dict #[e P "__name__" 165 (.str (.ofString "io") 383), e P "__doc__" 166 .none, e P "__package__" 167 .none, e P "__loader__" 168 (.builtin "__main__.__loader__#opaque"), e P "__spec__" 169 .none, e P "__annotations__" 170 (.ref 6), e P "__builtins__" 171 (.ref 4), e P "__file__" 173 (.str (.ofString "/claim/cut.py") 172), e P "__cached__" 174 .none, e P "_sre" 275 (.ref 12), e P "deque" 317 (.type "collections.deque"), e P "_wall" 330 (.ref 44), e P "_strip_exception_details" 342 (.ref 51), e P "_twin_re_1" 382 (.ref 56), e P "_whence" 392 (.ref 63), e P "_index" 400 (.ref 70), e P "UnsupportedOperation" 422 (.ref 80), e P "IOBase" 454 (.ref 100), e P "BufferedIOBase" 472 (.ref 115), e P "TextIOBase" 490 (.ref 127), e P "BytesIO" 752 (.ref 357), e P "StringIO" 1039 (.ref 604)] 22), #[]⟩
noncomputable def o35v3 (P : Params) : Obj := ⟨.none, none, (.fields #[(.int 3 0), (.int 0 0), (.ref 43), (.int 7 0), (.int 0 0), (.ref 50), (.int 21 0), (.int 0 0), (.ref 62), (.int 26 0), (.int 0 0), (.ref 69), (.int 33 0), (.int 0 0), (.ref 76), (.int 35 0), (.int 0 0), (.ref 89), (.int 42 0), (.int 0 0), (.ref 111), (.int 44 0), (.int 0 0), (.ref 123), (.int 46 0), (.int 0 0), (.ref 135), (.int 216 0), (.int 0 0), (.ref 365)]), #[]⟩
noncomputable def o127v1 (P : Params) : Obj := ⟨(.type "type"), none, (.cls ⟨(.ofString "TextIOBase"), [(.ref 100)], [(.ref 127), (.ref 100), (.type "object")], 126, (.ofString "TextIOBase"), true, [], [(.ref 604)], false, none, false⟩), #[(some (.ref 118)), none, (some (.str (.ofString "TextIOBase") 473)), (some (.str (.ofString "TextIOBase") 481)), (some .none), (some (.bool true))]⟩
noncomputable def o360 (P : Params) : Obj := ⟨(.type "tuple"), none, (.seq #[(.ref 127)] 0), #[]⟩
noncomputable def o361 (P : Params) : Obj := ⟨(.type "builtin_function_or_method"), none, (.fields #[(.builtin "type.__prepare__"), (.type "type")]), #[]⟩
noncomputable def o362 (P : Params) : Obj := ⟨(.type "dict"), none, (.dict #[e P "__module__" 760 (.str (.ofString "_io") 765), e P "__qualname__" 762 (.str (.ofString "StringIO") 761), e P "__firstlineno__" 764 (.int 216 763), e P "__init__" 777 (.ref 374), e P "_StringIO__translated" 786 (.ref 381), e P "_StringIO__check" 793 (.ref 388), e P "_StringIO__check_dot" 800 (.ref 395), e P "_StringIO__line" 815 (.ref 402), e P "closed" 823 (.ref 410), e P "line_buffering" 831 (.ref 418), e P "newlines" 839 (.ref 426), e P "encoding" 847 (.ref 434), e P "errors" 855 (.ref 442), e P "close" 862 (.ref 449), e P "__enter__" 869 (.ref 456), e P "__exit__" 877 (.ref 463), e P "readable" 884 (.ref 470), e P "writable" 891 (.ref 477), e P "seekable" 898 (.ref 484), e P "isatty" 905 (.ref 491), e P "flush" 912 (.ref 498), e P "fileno" 919 (.ref 505), e P "detach" 926 (.ref 512), e P "getvalue" 933 (.ref 519), e P "tell" 940 (.ref 526), e P "seek" 950 (.ref 534), e P "truncate" 958 (.ref 542), e P "read" 970 (.ref 550), e P "readline" 980 (.ref 558), e P "readlines" 990 (.ref 566), e P "__iter__" 997 (.ref 573), e P "__next__" 1005 (.ref 580), e P "write" 1017 (.ref 587), e P "writelines" 1025 (.ref 594), e P "__repr__" 1032 (.ref 601), e P "__static_attributes__" 1036 (.ref 602)] 36), #[]⟩
noncomputable def o363 (P : Params) : Obj := ⟨(.type "tuple"), none, (.seq #[] 0), #[]⟩
noncomputable def o364 (P : Params) : Obj := ⟨.none, none, (.fields #[(.int 219 0), (.int 4 0), (.ref 373), (.int 232 0), (.int 4 0), (.ref 380), (.int 240 0), (.int 4 0), (.ref 387), (.int 244 0), (.int 4 0), (.ref 394), (.int 248 0), (.int 4 0), (.ref 401), (.int 281 0), (.int 4 0), (.ref 408), (.int 285 0), (.int 4 0), (.ref 416), (.int 289 0), (.int 4 0), (.ref 424), (.int 293 0), (.int 4 0), (.ref 432), (.int 297 0), (.int 4 0), (.ref 440), (.int 300 0), (.int 4 0), (.ref 448), (.int 303 0), (.int 4 0), (.ref 455), (.int 307 0), (.int 4 0), (.ref 462), (.int 310 0), (.int 4 0), (.ref 469), (.int 314 0), (.int 4 0), (.ref 476), (.int 318 0), (.int 4 0), (.ref 483), (.int 322 0), (.int 4 0), (.ref 490), (.int 326 0), (.int 4 0), (.ref 497), (.int 329 0), (.int 4 0), (.ref 504), (.int 332 0), (.int 4 0), (.ref 511), (.int 335 0), (.int 4 0), (.ref 518), (.int 338 0), (.int 4 0), (.ref 525), (.int 342 0), (.int 4 0), (.ref 533), (.int 359 0), (.int 4 0), (.ref 541), (.int 362 0), (.int 4 0), (.ref 549), (.int 376 0), (.int 4 0), (.ref 557), (.int 383 0), (.int 4 0), (.ref 565), (.int 386 0), (.int 4 0), (.ref 572), (.int 390 0), (.int 4 0), (.ref 579), (.int 397 0), (.int 4 0), (.ref 586), (.int 416 0), (.int 4 0), (.ref 593), (.int 419 0), (.int 4 0), (.ref 600)]), #[]⟩
noncomputable def o365 (P : Params) : Obj := ⟨(.type "code"), none, (.fields #[(.str (.ofString "StringIO") 755), (.str (.ofString "StringIO") 756), (.str (.ofString "/claim/cut.py") 757), (.int 216 0), (.int 0 0), (.int 0 0), (.int 0 0), (.int 0 0), (.ref 363), (.bool false), (.int 318 0), (.ref 364), .none, .none, .none, .none, (.int 758 0), (.int 216 0), (.str (.ofString "/claim/cut.py") 759)]), #[]⟩
noncomputable def o366 (P : Params) : Obj := ⟨(.type "frame"), none, .plain, #[(some (.ref 365)), (some (.ref 3)), (some (.ref 362)), none, (some (.str (.ofString "io") 383)), none, (some (.ref 0))]⟩
noncomputable def o367 (P : Params) : Obj := ⟨(.type "tuple"), none, (.seq #[(.str (.ofString "") 767), (.str (.ofString "\n") 768)] 0), #[]⟩
noncomputable def o368 (P : Params) : Obj := ⟨(.type "tuple"), none, (.seq #[] 0), #[]⟩
noncomputable def o369 (P : Params) : Obj := ⟨.none, none, (.fields #[]), #[]⟩
noncomputable def o370 (P : Params) : Obj := ⟨(.type "tuple"), none, (.seq #[(.str (.ofString "self") 772), (.str (.ofString "initial_value") 773), (.str (.ofString "newline") 774)] 0), #[]⟩
noncomputable def o371 (P : Params) : Obj := ⟨(.type "tuple"), none, (.seq #[] 0), #[]⟩
noncomputable def o372 (P : Params) : Obj := ⟨.none, none, (.func ⟨(.ofString "__init__"), (.ofString "StringIO.__init__"), (fnIn 14 1).1, .stmts (fnIn 14 1).2.1, (fnIn 14 1).2.2, 0, [], .none, .none, .none, .none, none, .none, .none, 0⟩), #[]⟩
noncomputable def o373 (P : Params) : Obj := ⟨(.type "code"), none, (.fields #[(.str (.ofString "__init__") 769), (.str (.ofString "StringIO.__init__") 770), (.str (.ofString "/claim/cut.py") 771), (.int 219 0), (.int 3 0), (.int 0 0), (.int 0 0), (.int 3 0), (.ref 368), (.bool true), (.int 318 0), (.ref 369), .none, (.ref 370), (.ref 371), (.ref 372), (.int 775 0), (.int 219 0), (.str (.ofString "/claim/cut.py") 776)]), #[]⟩
noncomputable def o374 (P : Params) : Obj := ⟨(.type "function"), none, (.func ⟨(.ofString "__init__"), (.ofString "StringIO.__init__"), (fnIn 14 1).1, .stmts (fnIn 14 1).2.1, (fnIn 14 1).2.2, 3, [], (.ref 367), .none, .none, (.str (.ofString "io") 383), none, (.ref 373), .none, 0⟩), #[]⟩
noncomputable def o375 (P : Params) : Obj := ⟨(.type "tuple"), none, (.seq #[] 0), #[]⟩
noncomputable def o376 (P : Params) : Obj := ⟨.none, none, (.fields #[]), #[]⟩
noncomputable def o377 (P : Params) : Obj := ⟨(.type "tuple"), none, (.seq #[(.str (.ofString "self") 781), (.str (.ofString "s") 782), (.str (.ofString "newline") 783)] 0), #[]⟩
noncomputable def o378 (P : Params) : Obj := ⟨(.type "tuple"), none, (.seq #[] 0), #[]⟩
noncomputable def o379 (P : Params) : Obj := ⟨.none, none, (.func ⟨(.ofString "__translated"), (.ofString "StringIO.__translated"), (fnIn 14 2).1, .stmts (fnIn 14 2).2.1, (fnIn 14 2).2.2, 0, [], .none, .none, .none, .none, none, .none, .none, 0⟩), #[]⟩
noncomputable def o380 (P : Params) : Obj := ⟨(.type "code"), none, (.fields #[(.str (.ofString "__translated") 778), (.str (.ofString "StringIO.__translated") 779), (.str (.ofString "/claim/cut.py") 780), (.int 232 0), (.int 2 0), (.int 0 0), (.int 0 0), (.int 3 0), (.ref 375), (.bool true), (.int 318 0), (.ref 376), .none, (.ref 377), (.ref 378), (.ref 379), (.int 784 0), (.int 232 0), (.str (.ofString "/claim/cut.py") 785)]), #[]⟩
noncomputable def o381 (P : Params) : Obj := ⟨(.type "function"), none, (.func ⟨(.ofString "__translated"), (.ofString "StringIO.__translated"), (fnIn 14 2).1, .stmts (fnIn 14 2).2.1, (fnIn 14 2).2.2, 3, [], .none, .none, .none, (.str (.ofString "io") 383), none, (.ref 380), .none, 0⟩), #[]⟩
noncomputable def o382 (P : Params) : Obj := ⟨(.type "tuple"), none, (.seq #[] 0), #[]⟩
noncomputable def o383 (P : Params) : Obj := ⟨.none, none, (.fields #[]), #[]⟩
noncomputable def o384 (P : Params) : Obj := ⟨(.type "tuple"), none, (.seq #[(.str (.ofString "self") 790)] 0), #[]⟩
noncomputable def o385 (P : Params) : Obj := ⟨(.type "tuple"), none, (.seq #[] 0), #[]⟩
noncomputable def o386 (P : Params) : Obj := ⟨.none, none, (.func ⟨(.ofString "__check"), (.ofString "StringIO.__check"), (fnIn 14 3).1, .stmts (fnIn 14 3).2.1, (fnIn 14 3).2.2, 0, [], .none, .none, .none, .none, none, .none, .none, 0⟩), #[]⟩
noncomputable def o387 (P : Params) : Obj := ⟨(.type "code"), none, (.fields #[(.str (.ofString "__check") 787), (.str (.ofString "StringIO.__check") 788), (.str (.ofString "/claim/cut.py") 789), (.int 240 0), (.int 1 0), (.int 0 0), (.int 0 0), (.int 3 0), (.ref 382), (.bool true), (.int 318 0), (.ref 383), .none, (.ref 384), (.ref 385), (.ref 386), (.int 791 0), (.int 240 0), (.str (.ofString "/claim/cut.py") 792)]), #[]⟩
noncomputable def o388 (P : Params) : Obj := ⟨(.type "function"), none, (.func ⟨(.ofString "__check"), (.ofString "StringIO.__check"), (fnIn 14 3).1, .stmts (fnIn 14 3).2.1, (fnIn 14 3).2.2, 3, [], .none, .none, .none, (.str (.ofString "io") 383), none, (.ref 387), .none, 0⟩), #[]⟩
noncomputable def o389 (P : Params) : Obj := ⟨(.type "tuple"), none, (.seq #[] 0), #[]⟩
noncomputable def o390 (P : Params) : Obj := ⟨.none, none, (.fields #[]), #[]⟩
noncomputable def o391 (P : Params) : Obj := ⟨(.type "tuple"), none, (.seq #[(.str (.ofString "self") 797)] 0), #[]⟩
noncomputable def o392 (P : Params) : Obj := ⟨(.type "tuple"), none, (.seq #[] 0), #[]⟩
noncomputable def o393 (P : Params) : Obj := ⟨.none, none, (.func ⟨(.ofString "__check_dot"), (.ofString "StringIO.__check_dot"), (fnIn 14 4).1, .stmts (fnIn 14 4).2.1, (fnIn 14 4).2.2, 0, [], .none, .none, .none, .none, none, .none, .none, 0⟩), #[]⟩
noncomputable def o394 (P : Params) : Obj := ⟨(.type "code"), none, (.fields #[(.str (.ofString "__check_dot") 794), (.str (.ofString "StringIO.__check_dot") 795), (.str (.ofString "/claim/cut.py") 796), (.int 244 0), (.int 1 0), (.int 0 0), (.int 0 0), (.int 3 0), (.ref 389), (.bool true), (.int 318 0), (.ref 390), .none, (.ref 391), (.ref 392), (.ref 393), (.int 798 0), (.int 244 0), (.str (.ofString "/claim/cut.py") 799)]), #[]⟩
noncomputable def o395 (P : Params) : Obj := ⟨(.type "function"), none, (.func ⟨(.ofString "__check_dot"), (.ofString "StringIO.__check_dot"), (fnIn 14 4).1, .stmts (fnIn 14 4).2.1, (fnIn 14 4).2.2, 3, [], .none, .none, .none, (.str (.ofString "io") 383), none, (.ref 394), .none, 0⟩), #[]⟩
noncomputable def o396 (P : Params) : Obj := ⟨(.type "tuple"), none, (.seq #[] 0), #[]⟩
noncomputable def o397 (P : Params) : Obj := ⟨.none, none, (.fields #[]), #[]⟩
noncomputable def o398 (P : Params) : Obj := ⟨(.type "tuple"), none, (.seq #[(.str (.ofString "self") 804), (.str (.ofString "limit") 805), (.str (.ofString "start") 806), (.str (.ofString "stop") 807), (.str (.ofString "cut") 808), (.str (.ofString "newline") 809), (.str (.ofString "i") 810), (.str (.ofString "j") 811), (.str (.ofString "end") 812)] 0), #[]⟩
noncomputable def o399 (P : Params) : Obj := ⟨(.type "tuple"), none, (.seq #[] 0), #[]⟩
noncomputable def o400 (P : Params) : Obj := ⟨.none, none, (.func ⟨(.ofString "__line"), (.ofString "StringIO.__line"), (fnIn 14 5).1, .stmts (fnIn 14 5).2.1, (fnIn 14 5).2.2, 0, [], .none, .none, .none, .none, none, .none, .none, 0⟩), #[]⟩
noncomputable def o401 (P : Params) : Obj := ⟨(.type "code"), none, (.fields #[(.str (.ofString "__line") 801), (.str (.ofString "StringIO.__line") 802), (.str (.ofString "/claim/cut.py") 803), (.int 248 0), (.int 2 0), (.int 0 0), (.int 0 0), (.int 3 0), (.ref 396), (.bool true), (.int 318 0), (.ref 397), .none, (.ref 398), (.ref 399), (.ref 400), (.int 813 0), (.int 248 0), (.str (.ofString "/claim/cut.py") 814)]), #[]⟩
noncomputable def o402 (P : Params) : Obj := ⟨(.type "function"), none, (.func ⟨(.ofString "__line"), (.ofString "StringIO.__line"), (fnIn 14 5).1, .stmts (fnIn 14 5).2.1, (fnIn 14 5).2.2, 3, [], .none, .none, .none, (.str (.ofString "io") 383), none, (.ref 401), .none, 0⟩), #[]⟩
noncomputable def o403 (P : Params) : Obj := ⟨(.type "tuple"), none, (.seq #[] 0), #[]⟩
noncomputable def o404 (P : Params) : Obj := ⟨.none, none, (.fields #[]), #[]⟩
noncomputable def o405 (P : Params) : Obj := ⟨(.type "tuple"), none, (.seq #[(.str (.ofString "self") 819)] 0), #[]⟩
noncomputable def o406 (P : Params) : Obj := ⟨(.type "tuple"), none, (.seq #[] 0), #[]⟩
noncomputable def o407 (P : Params) : Obj := ⟨.none, none, (.func ⟨(.ofString "closed"), (.ofString "StringIO.closed"), (fnIn 14 6).1, .stmts (fnIn 14 6).2.1, (fnIn 14 6).2.2, 0, [], .none, .none, .none, .none, none, .none, .none, 0⟩), #[]⟩
noncomputable def o408 (P : Params) : Obj := ⟨(.type "code"), none, (.fields #[(.str (.ofString "closed") 816), (.str (.ofString "StringIO.closed") 817), (.str (.ofString "/claim/cut.py") 818), (.int 280 0), (.int 1 0), (.int 0 0), (.int 0 0), (.int 3 0), (.ref 403), (.bool true), (.int 318 0), (.ref 404), .none, (.ref 405), (.ref 406), (.ref 407), (.int 820 0), (.int 280 0), (.str (.ofString "/claim/cut.py") 821)]), #[]⟩
noncomputable def o409 (P : Params) : Obj := ⟨(.type "function"), none, (.func ⟨(.ofString "closed"), (.ofString "StringIO.closed"), (fnIn 14 6).1, .stmts (fnIn 14 6).2.1, (fnIn 14 6).2.2, 3, [], .none, .none, .none, (.str (.ofString "io") 383), none, (.ref 408), .none, 0⟩), #[]⟩
noncomputable def o410 (P : Params) : Obj := ⟨(.type "property"), none, (.fields #[(.ref 409), .none, .none, .none, (.str (.ofString "closed") 823), (.bool false)]), #[]⟩
noncomputable def o411 (P : Params) : Obj := ⟨(.type "tuple"), none, (.seq #[] 0), #[]⟩
noncomputable def o412 (P : Params) : Obj := ⟨.none, none, (.fields #[]), #[]⟩
noncomputable def o413 (P : Params) : Obj := ⟨(.type "tuple"), none, (.seq #[(.str (.ofString "self") 827)] 0), #[]⟩
noncomputable def o414 (P : Params) : Obj := ⟨(.type "tuple"), none, (.seq #[] 0), #[]⟩
noncomputable def o415 (P : Params) : Obj := ⟨.none, none, (.func ⟨(.ofString "line_buffering"), (.ofString "StringIO.line_buffering"), (fnIn 14 7).1, .stmts (fnIn 14 7).2.1, (fnIn 14 7).2.2, 0, [], .none, .none, .none, .none, none, .none, .none, 0⟩), #[]⟩
noncomputable def o416 (P : Params) : Obj := ⟨(.type "code"), none, (.fields #[(.str (.ofString "line_buffering") 824), (.str (.ofString "StringIO.line_buffering") 825), (.str (.ofString "/claim/cut.py") 826), (.int 284 0), (.int 1 0), (.int 0 0), (.int 0 0), (.int 3 0), (.ref 411), (.bool true), (.int 318 0), (.ref 412), .none, (.ref 413), (.ref 414), (.ref 415), (.int 828 0), (.int 284 0), (.str (.ofString "/claim/cut.py") 829)]), #[]⟩
noncomputable def o417 (P : Params) : Obj := ⟨(.type "function"), none, (.func ⟨(.ofString "line_buffering"), (.ofString "StringIO.line_buffering"), (fnIn 14 7).1, .stmts (fnIn 14 7).2.1, (fnIn 14 7).2.2, 3, [], .none, .none, .none, (.str (.ofString "io") 383), none, (.ref 416), .none, 0⟩), #[]⟩
noncomputable def o418 (P : Params) : Obj := ⟨(.type "property"), none, (.fields #[(.ref 417), .none, .none, .none, (.str (.ofString "line_buffering") 831), (.bool false)]), #[]⟩
noncomputable def o419 (P : Params) : Obj := ⟨(.type "tuple"), none, (.seq #[] 0), #[]⟩
noncomputable def o420 (P : Params) : Obj := ⟨.none, none, (.fields #[]), #[]⟩
noncomputable def o421 (P : Params) : Obj := ⟨(.type "tuple"), none, (.seq #[(.str (.ofString "self") 835)] 0), #[]⟩
noncomputable def o422 (P : Params) : Obj := ⟨(.type "tuple"), none, (.seq #[] 0), #[]⟩
noncomputable def o423 (P : Params) : Obj := ⟨.none, none, (.func ⟨(.ofString "newlines"), (.ofString "StringIO.newlines"), (fnIn 14 8).1, .stmts (fnIn 14 8).2.1, (fnIn 14 8).2.2, 0, [], .none, .none, .none, .none, none, .none, .none, 0⟩), #[]⟩
noncomputable def o424 (P : Params) : Obj := ⟨(.type "code"), none, (.fields #[(.str (.ofString "newlines") 832), (.str (.ofString "StringIO.newlines") 833), (.str (.ofString "/claim/cut.py") 834), (.int 288 0), (.int 1 0), (.int 0 0), (.int 0 0), (.int 3 0), (.ref 419), (.bool true), (.int 318 0), (.ref 420), .none, (.ref 421), (.ref 422), (.ref 423), (.int 836 0), (.int 288 0), (.str (.ofString "/claim/cut.py") 837)]), #[]⟩
noncomputable def o425 (P : Params) : Obj := ⟨(.type "function"), none, (.func ⟨(.ofString "newlines"), (.ofString "StringIO.newlines"), (fnIn 14 8).1, .stmts (fnIn 14 8).2.1, (fnIn 14 8).2.2, 3, [], .none, .none, .none, (.str (.ofString "io") 383), none, (.ref 424), .none, 0⟩), #[]⟩
noncomputable def o426 (P : Params) : Obj := ⟨(.type "property"), none, (.fields #[(.ref 425), .none, .none, .none, (.str (.ofString "newlines") 839), (.bool false)]), #[]⟩
noncomputable def o427 (P : Params) : Obj := ⟨(.type "tuple"), none, (.seq #[] 0), #[]⟩
noncomputable def o428 (P : Params) : Obj := ⟨.none, none, (.fields #[]), #[]⟩
noncomputable def o429 (P : Params) : Obj := ⟨(.type "tuple"), none, (.seq #[(.str (.ofString "self") 843)] 0), #[]⟩
noncomputable def o430 (P : Params) : Obj := ⟨(.type "tuple"), none, (.seq #[] 0), #[]⟩
noncomputable def o431 (P : Params) : Obj := ⟨.none, none, (.func ⟨(.ofString "encoding"), (.ofString "StringIO.encoding"), (fnIn 14 9).1, .stmts (fnIn 14 9).2.1, (fnIn 14 9).2.2, 0, [], .none, .none, .none, .none, none, .none, .none, 0⟩), #[]⟩
noncomputable def o432 (P : Params) : Obj := ⟨(.type "code"), none, (.fields #[(.str (.ofString "encoding") 840), (.str (.ofString "StringIO.encoding") 841), (.str (.ofString "/claim/cut.py") 842), (.int 292 0), (.int 1 0), (.int 0 0), (.int 0 0), (.int 3 0), (.ref 427), (.bool true), (.int 318 0), (.ref 428), .none, (.ref 429), (.ref 430), (.ref 431), (.int 844 0), (.int 292 0), (.str (.ofString "/claim/cut.py") 845)]), #[]⟩
noncomputable def o433 (P : Params) : Obj := ⟨(.type "function"), none, (.func ⟨(.ofString "encoding"), (.ofString "StringIO.encoding"), (fnIn 14 9).1, .stmts (fnIn 14 9).2.1, (fnIn 14 9).2.2, 3, [], .none, .none, .none, (.str (.ofString "io") 383), none, (.ref 432), .none, 0⟩), #[]⟩
noncomputable def o434 (P : Params) : Obj := ⟨(.type "property"), none, (.fields #[(.ref 433), .none, .none, .none, (.str (.ofString "encoding") 847), (.bool false)]), #[]⟩
noncomputable def o435 (P : Params) : Obj := ⟨(.type "tuple"), none, (.seq #[] 0), #[]⟩
noncomputable def o436 (P : Params) : Obj := ⟨.none, none, (.fields #[]), #[]⟩
noncomputable def o437 (P : Params) : Obj := ⟨(.type "tuple"), none, (.seq #[(.str (.ofString "self") 851)] 0), #[]⟩
noncomputable def o438 (P : Params) : Obj := ⟨(.type "tuple"), none, (.seq #[] 0), #[]⟩
noncomputable def o439 (P : Params) : Obj := ⟨.none, none, (.func ⟨(.ofString "errors"), (.ofString "StringIO.errors"), (fnIn 14 10).1, .stmts (fnIn 14 10).2.1, (fnIn 14 10).2.2, 0, [], .none, .none, .none, .none, none, .none, .none, 0⟩), #[]⟩
noncomputable def o440 (P : Params) : Obj := ⟨(.type "code"), none, (.fields #[(.str (.ofString "errors") 848), (.str (.ofString "StringIO.errors") 849), (.str (.ofString "/claim/cut.py") 850), (.int 296 0), (.int 1 0), (.int 0 0), (.int 0 0), (.int 3 0), (.ref 435), (.bool true), (.int 318 0), (.ref 436), .none, (.ref 437), (.ref 438), (.ref 439), (.int 852 0), (.int 296 0), (.str (.ofString "/claim/cut.py") 853)]), #[]⟩
noncomputable def o441 (P : Params) : Obj := ⟨(.type "function"), none, (.func ⟨(.ofString "errors"), (.ofString "StringIO.errors"), (fnIn 14 10).1, .stmts (fnIn 14 10).2.1, (fnIn 14 10).2.2, 3, [], .none, .none, .none, (.str (.ofString "io") 383), none, (.ref 440), .none, 0⟩), #[]⟩
noncomputable def o442 (P : Params) : Obj := ⟨(.type "property"), none, (.fields #[(.ref 441), .none, .none, .none, (.str (.ofString "errors") 855), (.bool false)]), #[]⟩
noncomputable def o443 (P : Params) : Obj := ⟨(.type "tuple"), none, (.seq #[] 0), #[]⟩
noncomputable def o444 (P : Params) : Obj := ⟨.none, none, (.fields #[]), #[]⟩
noncomputable def o445 (P : Params) : Obj := ⟨(.type "tuple"), none, (.seq #[(.str (.ofString "self") 859)] 0), #[]⟩
noncomputable def o446 (P : Params) : Obj := ⟨(.type "tuple"), none, (.seq #[] 0), #[]⟩
noncomputable def o447 (P : Params) : Obj := ⟨.none, none, (.func ⟨(.ofString "close"), (.ofString "StringIO.close"), (fnIn 14 11).1, .stmts (fnIn 14 11).2.1, (fnIn 14 11).2.2, 0, [], .none, .none, .none, .none, none, .none, .none, 0⟩), #[]⟩
noncomputable def o448 (P : Params) : Obj := ⟨(.type "code"), none, (.fields #[(.str (.ofString "close") 856), (.str (.ofString "StringIO.close") 857), (.str (.ofString "/claim/cut.py") 858), (.int 300 0), (.int 1 0), (.int 0 0), (.int 0 0), (.int 3 0), (.ref 443), (.bool true), (.int 318 0), (.ref 444), .none, (.ref 445), (.ref 446), (.ref 447), (.int 860 0), (.int 300 0), (.str (.ofString "/claim/cut.py") 861)]), #[]⟩
noncomputable def o449 (P : Params) : Obj := ⟨(.type "function"), none, (.func ⟨(.ofString "close"), (.ofString "StringIO.close"), (fnIn 14 11).1, .stmts (fnIn 14 11).2.1, (fnIn 14 11).2.2, 3, [], .none, .none, .none, (.str (.ofString "io") 383), none, (.ref 448), .none, 0⟩), #[]⟩
noncomputable def o450 (P : Params) : Obj := ⟨(.type "tuple"), none, (.seq #[] 0), #[]⟩
noncomputable def o451 (P : Params) : Obj := ⟨.none, none, (.fields #[]), #[]⟩
noncomputable def o452 (P : Params) : Obj := ⟨(.type "tuple"), none, (.seq #[(.str (.ofString "self") 866)] 0), #[]⟩
noncomputable def o453 (P : Params) : Obj := ⟨(.type "tuple"), none, (.seq #[] 0), #[]⟩
noncomputable def o454 (P : Params) : Obj := ⟨.none, none, (.func ⟨(.ofString "__enter__"), (.ofString "StringIO.__enter__"), (fnIn 14 12).1, .stmts (fnIn 14 12).2.1, (fnIn 14 12).2.2, 0, [], .none, .none, .none, .none, none, .none, .none, 0⟩), #[]⟩
noncomputable def o455 (P : Params) : Obj := ⟨(.type "code"), none, (.fields #[(.str (.ofString "__enter__") 863), (.str (.ofString "StringIO.__enter__") 864), (.str (.ofString "/claim/cut.py") 865), (.int 303 0), (.int 1 0), (.int 0 0), (.int 0 0), (.int 3 0), (.ref 450), (.bool true), (.int 318 0), (.ref 451), .none, (.ref 452), (.ref 453), (.ref 454), (.int 867 0), (.int 303 0), (.str (.ofString "/claim/cut.py") 868)]), #[]⟩
noncomputable def o456 (P : Params) : Obj := ⟨(.type "function"), none, (.func ⟨(.ofString "__enter__"), (.ofString "StringIO.__enter__"), (fnIn 14 12).1, .stmts (fnIn 14 12).2.1, (fnIn 14 12).2.2, 3, [], .none, .none, .none, (.str (.ofString "io") 383), none, (.ref 455), .none, 0⟩), #[]⟩
noncomputable def o457 (P : Params) : Obj := ⟨(.type "tuple"), none, (.seq #[] 0), #[]⟩
noncomputable def o458 (P : Params) : Obj := ⟨.none, none, (.fields #[]), #[]⟩
noncomputable def o459 (P : Params) : Obj := ⟨(.type "tuple"), none, (.seq #[(.str (.ofString "self") 873), (.str (.ofString "args") 874)] 0), #[]⟩
noncomputable def o460 (P : Params) : Obj := ⟨(.type "tuple"), none, (.seq #[] 0), #[]⟩
noncomputable def o461 (P : Params) : Obj := ⟨.none, none, (.func ⟨(.ofString "__exit__"), (.ofString "StringIO.__exit__"), (fnIn 14 13).1, .stmts (fnIn 14 13).2.1, (fnIn 14 13).2.2, 0, [], .none, .none, .none, .none, none, .none, .none, 0⟩), #[]⟩
noncomputable def o462 (P : Params) : Obj := ⟨(.type "code"), none, (.fields #[(.str (.ofString "__exit__") 870), (.str (.ofString "StringIO.__exit__") 871), (.str (.ofString "/claim/cut.py") 872), (.int 307 0), (.int 1 0), (.int 0 0), (.int 0 0), (.int 7 0), (.ref 457), (.bool true), (.int 318 0), (.ref 458), .none, (.ref 459), (.ref 460), (.ref 461), (.int 875 0), (.int 307 0), (.str (.ofString "/claim/cut.py") 876)]), #[]⟩
noncomputable def o463 (P : Params) : Obj := ⟨(.type "function"), none, (.func ⟨(.ofString "__exit__"), (.ofString "StringIO.__exit__"), (fnIn 14 13).1, .stmts (fnIn 14 13).2.1, (fnIn 14 13).2.2, 3, [], .none, .none, .none, (.str (.ofString "io") 383), none, (.ref 462), .none, 0⟩), #[]⟩
noncomputable def o464 (P : Params) : Obj := ⟨(.type "tuple"), none, (.seq #[] 0), #[]⟩
noncomputable def o465 (P : Params) : Obj := ⟨.none, none, (.fields #[]), #[]⟩
noncomputable def o466 (P : Params) : Obj := ⟨(.type "tuple"), none, (.seq #[(.str (.ofString "self") 881)] 0), #[]⟩
noncomputable def o467 (P : Params) : Obj := ⟨(.type "tuple"), none, (.seq #[] 0), #[]⟩
noncomputable def o468 (P : Params) : Obj := ⟨.none, none, (.func ⟨(.ofString "readable"), (.ofString "StringIO.readable"), (fnIn 14 14).1, .stmts (fnIn 14 14).2.1, (fnIn 14 14).2.2, 0, [], .none, .none, .none, .none, none, .none, .none, 0⟩), #[]⟩
noncomputable def o469 (P : Params) : Obj := ⟨(.type "code"), none, (.fields #[(.str (.ofString "readable") 878), (.str (.ofString "StringIO.readable") 879), (.str (.ofString "/claim/cut.py") 880), (.int 310 0), (.int 1 0), (.int 0 0), (.int 0 0), (.int 3 0), (.ref 464), (.bool true), (.int 318 0), (.ref 465), .none, (.ref 466), (.ref 467), (.ref 468), (.int 882 0), (.int 310 0), (.str (.ofString "/claim/cut.py") 883)]), #[]⟩
noncomputable def o470 (P : Params) : Obj := ⟨(.type "function"), none, (.func ⟨(.ofString "readable"), (.ofString "StringIO.readable"), (fnIn 14 14).1, .stmts (fnIn 14 14).2.1, (fnIn 14 14).2.2, 3, [], .none, .none, .none, (.str (.ofString "io") 383), none, (.ref 469), .none, 0⟩), #[]⟩
noncomputable def o471 (P : Params) : Obj := ⟨(.type "tuple"), none, (.seq #[] 0), #[]⟩
noncomputable def o472 (P : Params) : Obj := ⟨.none, none, (.fields #[]), #[]⟩
noncomputable def o473 (P : Params) : Obj := ⟨(.type "tuple"), none, (.seq #[(.str (.ofString "self") 888)] 0), #[]⟩
noncomputable def o474 (P : Params) : Obj := ⟨(.type "tuple"), none, (.seq #[] 0), #[]⟩
noncomputable def o475 (P : Params) : Obj := ⟨.none, none, (.func ⟨(.ofString "writable"), (.ofString "StringIO.writable"), (fnIn 14 15).1, .stmts (fnIn 14 15).2.1, (fnIn 14 15).2.2, 0, [], .none, .none, .none, .none, none, .none, .none, 0⟩), #[]⟩
noncomputable def o476 (P : Params) : Obj := ⟨(.type "code"), none, (.fields #[(.str (.ofString "writable") 885), (.str (.ofString "StringIO.writable") 886), (.str (.ofString "/claim/cut.py") 887), (.int 314 0), (.int 1 0), (.int 0 0), (.int 0 0), (.int 3 0), (.ref 471), (.bool true), (.int 318 0), (.ref 472), .none, (.ref 473), (.ref 474), (.ref 475), (.int 889 0), (.int 314 0), (.str (.ofString "/claim/cut.py") 890)]), #[]⟩
noncomputable def o477 (P : Params) : Obj := ⟨(.type "function"), none, (.func ⟨(.ofString "writable"), (.ofString "StringIO.writable"), (fnIn 14 15).1, .stmts (fnIn 14 15).2.1, (fnIn 14 15).2.2, 3, [], .none, .none, .none, (.str (.ofString "io") 383), none, (.ref 476), .none, 0⟩), #[]⟩
noncomputable def o478 (P : Params) : Obj := ⟨(.type "tuple"), none, (.seq #[] 0), #[]⟩
noncomputable def o479 (P : Params) : Obj := ⟨.none, none, (.fields #[]), #[]⟩
noncomputable def o480 (P : Params) : Obj := ⟨(.type "tuple"), none, (.seq #[(.str (.ofString "self") 895)] 0), #[]⟩
noncomputable def o481 (P : Params) : Obj := ⟨(.type "tuple"), none, (.seq #[] 0), #[]⟩
noncomputable def o482 (P : Params) : Obj := ⟨.none, none, (.func ⟨(.ofString "seekable"), (.ofString "StringIO.seekable"), (fnIn 14 16).1, .stmts (fnIn 14 16).2.1, (fnIn 14 16).2.2, 0, [], .none, .none, .none, .none, none, .none, .none, 0⟩), #[]⟩
noncomputable def o483 (P : Params) : Obj := ⟨(.type "code"), none, (.fields #[(.str (.ofString "seekable") 892), (.str (.ofString "StringIO.seekable") 893), (.str (.ofString "/claim/cut.py") 894), (.int 318 0), (.int 1 0), (.int 0 0), (.int 0 0), (.int 3 0), (.ref 478), (.bool true), (.int 318 0), (.ref 479), .none, (.ref 480), (.ref 481), (.ref 482), (.int 896 0), (.int 318 0), (.str (.ofString "/claim/cut.py") 897)]), #[]⟩
noncomputable def o484 (P : Params) : Obj := ⟨(.type "function"), none, (.func ⟨(.ofString "seekable"), (.ofString "StringIO.seekable"), (fnIn 14 16).1, .stmts (fnIn 14 16).2.1, (fnIn 14 16).2.2, 3, [], .none, .none, .none, (.str (.ofString "io") 383), none, (.ref 483), .none, 0⟩), #[]⟩
noncomputable def o485 (P : Params) : Obj := ⟨(.type "tuple"), none, (.seq #[] 0), #[]⟩
noncomputable def o486 (P : Params) : Obj := ⟨.none, none, (.fields #[]), #[]⟩
noncomputable def o487 (P : Params) : Obj := ⟨(.type "tuple"), none, (.seq #[(.str (.ofString "self") 902)] 0), #[]⟩
noncomputable def o488 (P : Params) : Obj := ⟨(.type "tuple"), none, (.seq #[] 0), #[]⟩
noncomputable def o489 (P : Params) : Obj := ⟨.none, none, (.func ⟨(.ofString "isatty"), (.ofString "StringIO.isatty"), (fnIn 14 17).1, .stmts (fnIn 14 17).2.1, (fnIn 14 17).2.2, 0, [], .none, .none, .none, .none, none, .none, .none, 0⟩), #[]⟩
noncomputable def o490 (P : Params) : Obj := ⟨(.type "code"), none, (.fields #[(.str (.ofString "isatty") 899), (.str (.ofString "StringIO.isatty") 900), (.str (.ofString "/claim/cut.py") 901), (.int 322 0), (.int 1 0), (.int 0 0), (.int 0 0), (.int 3 0), (.ref 485), (.bool true), (.int 318 0), (.ref 486), .none, (.ref 487), (.ref 488), (.ref 489), (.int 903 0), (.int 322 0), (.str (.ofString "/claim/cut.py") 904)]), #[]⟩
noncomputable def o491 (P : Params) : Obj := ⟨(.type "function"), none, (.func ⟨(.ofString "isatty"), (.ofString "StringIO.isatty"), (fnIn 14 17).1, .stmts (fnIn 14 17).2.1, (fnIn 14 17).2.2, 3, [], .none, .none, .none, (.str (.ofString "io") 383), none, (.ref 490), .none, 0⟩), #[]⟩
noncomputable def o492 (P : Params) : Obj := ⟨(.type "tuple"), none, (.seq #[] 0), #[]⟩
noncomputable def o493 (P : Params) : Obj := ⟨.none, none, (.fields #[]), #[]⟩
noncomputable def o494 (P : Params) : Obj := ⟨(.type "tuple"), none, (.seq #[(.str (.ofString "self") 909)] 0), #[]⟩
noncomputable def o495 (P : Params) : Obj := ⟨(.type "tuple"), none, (.seq #[] 0), #[]⟩
noncomputable def o496 (P : Params) : Obj := ⟨.none, none, (.func ⟨(.ofString "flush"), (.ofString "StringIO.flush"), (fnIn 14 18).1, .stmts (fnIn 14 18).2.1, (fnIn 14 18).2.2, 0, [], .none, .none, .none, .none, none, .none, .none, 0⟩), #[]⟩
noncomputable def o497 (P : Params) : Obj := ⟨(.type "code"), none, (.fields #[(.str (.ofString "flush") 906), (.str (.ofString "StringIO.flush") 907), (.str (.ofString "/claim/cut.py") 908), (.int 326 0), (.int 1 0), (.int 0 0), (.int 0 0), (.int 3 0), (.ref 492), (.bool true), (.int 318 0), (.ref 493), .none, (.ref 494), (.ref 495), (.ref 496), (.int 910 0), (.int 326 0), (.str (.ofString "/claim/cut.py") 911)]), #[]⟩
noncomputable def o498 (P : Params) : Obj := ⟨(.type "function"), none, (.func ⟨(.ofString "flush"), (.ofString "StringIO.flush"), (fnIn 14 18).1, .stmts (fnIn 14 18).2.1, (fnIn 14 18).2.2, 3, [], .none, .none, .none, (.str (.ofString "io") 383), none, (.ref 497), .none, 0⟩), #[]⟩
noncomputable def o499 (P : Params) : Obj := ⟨(.type "tuple"), none, (.seq #[] 0), #[]⟩
noncomputable def o500 (P : Params) : Obj := ⟨.none, none, (.fields #[]), #[]⟩
noncomputable def o501 (P : Params) : Obj := ⟨(.type "tuple"), none, (.seq #[(.str (.ofString "self") 916)] 0), #[]⟩
noncomputable def o502 (P : Params) : Obj := ⟨(.type "tuple"), none, (.seq #[] 0), #[]⟩
noncomputable def o503 (P : Params) : Obj := ⟨.none, none, (.func ⟨(.ofString "fileno"), (.ofString "StringIO.fileno"), (fnIn 14 19).1, .stmts (fnIn 14 19).2.1, (fnIn 14 19).2.2, 0, [], .none, .none, .none, .none, none, .none, .none, 0⟩), #[]⟩
noncomputable def o504 (P : Params) : Obj := ⟨(.type "code"), none, (.fields #[(.str (.ofString "fileno") 913), (.str (.ofString "StringIO.fileno") 914), (.str (.ofString "/claim/cut.py") 915), (.int 329 0), (.int 1 0), (.int 0 0), (.int 0 0), (.int 3 0), (.ref 499), (.bool true), (.int 318 0), (.ref 500), .none, (.ref 501), (.ref 502), (.ref 503), (.int 917 0), (.int 329 0), (.str (.ofString "/claim/cut.py") 918)]), #[]⟩
noncomputable def o505 (P : Params) : Obj := ⟨(.type "function"), none, (.func ⟨(.ofString "fileno"), (.ofString "StringIO.fileno"), (fnIn 14 19).1, .stmts (fnIn 14 19).2.1, (fnIn 14 19).2.2, 3, [], .none, .none, .none, (.str (.ofString "io") 383), none, (.ref 504), .none, 0⟩), #[]⟩
noncomputable def o506 (P : Params) : Obj := ⟨(.type "tuple"), none, (.seq #[] 0), #[]⟩
noncomputable def o507 (P : Params) : Obj := ⟨.none, none, (.fields #[]), #[]⟩
noncomputable def o508 (P : Params) : Obj := ⟨(.type "tuple"), none, (.seq #[(.str (.ofString "self") 923)] 0), #[]⟩
noncomputable def o509 (P : Params) : Obj := ⟨(.type "tuple"), none, (.seq #[] 0), #[]⟩
noncomputable def o510 (P : Params) : Obj := ⟨.none, none, (.func ⟨(.ofString "detach"), (.ofString "StringIO.detach"), (fnIn 14 20).1, .stmts (fnIn 14 20).2.1, (fnIn 14 20).2.2, 0, [], .none, .none, .none, .none, none, .none, .none, 0⟩), #[]⟩
noncomputable def o511 (P : Params) : Obj := ⟨(.type "code"), none, (.fields #[(.str (.ofString "detach") 920), (.str (.ofString "StringIO.detach") 921), (.str (.ofString "/claim/cut.py") 922), (.int 332 0), (.int 1 0), (.int 0 0), (.int 0 0), (.int 3 0), (.ref 506), (.bool true), (.int 318 0), (.ref 507), .none, (.ref 508), (.ref 509), (.ref 510), (.int 924 0), (.int 332 0), (.str (.ofString "/claim/cut.py") 925)]), #[]⟩
noncomputable def o512 (P : Params) : Obj := ⟨(.type "function"), none, (.func ⟨(.ofString "detach"), (.ofString "StringIO.detach"), (fnIn 14 20).1, .stmts (fnIn 14 20).2.1, (fnIn 14 20).2.2, 3, [], .none, .none, .none, (.str (.ofString "io") 383), none, (.ref 511), .none, 0⟩), #[]⟩
noncomputable def o513 (P : Params) : Obj := ⟨(.type "tuple"), none, (.seq #[] 0), #[]⟩
noncomputable def o514 (P : Params) : Obj := ⟨.none, none, (.fields #[]), #[]⟩
noncomputable def o515 (P : Params) : Obj := ⟨(.type "tuple"), none, (.seq #[(.str (.ofString "self") 930)] 0), #[]⟩
noncomputable def o516 (P : Params) : Obj := ⟨(.type "tuple"), none, (.seq #[] 0), #[]⟩
noncomputable def o517 (P : Params) : Obj := ⟨.none, none, (.func ⟨(.ofString "getvalue"), (.ofString "StringIO.getvalue"), (fnIn 14 21).1, .stmts (fnIn 14 21).2.1, (fnIn 14 21).2.2, 0, [], .none, .none, .none, .none, none, .none, .none, 0⟩), #[]⟩
noncomputable def o518 (P : Params) : Obj := ⟨(.type "code"), none, (.fields #[(.str (.ofString "getvalue") 927), (.str (.ofString "StringIO.getvalue") 928), (.str (.ofString "/claim/cut.py") 929), (.int 335 0), (.int 1 0), (.int 0 0), (.int 0 0), (.int 3 0), (.ref 513), (.bool true), (.int 318 0), (.ref 514), .none, (.ref 515), (.ref 516), (.ref 517), (.int 931 0), (.int 335 0), (.str (.ofString "/claim/cut.py") 932)]), #[]⟩
noncomputable def o519 (P : Params) : Obj := ⟨(.type "function"), none, (.func ⟨(.ofString "getvalue"), (.ofString "StringIO.getvalue"), (fnIn 14 21).1, .stmts (fnIn 14 21).2.1, (fnIn 14 21).2.2, 3, [], .none, .none, .none, (.str (.ofString "io") 383), none, (.ref 518), .none, 0⟩), #[]⟩
noncomputable def o520 (P : Params) : Obj := ⟨(.type "tuple"), none, (.seq #[] 0), #[]⟩
noncomputable def o521 (P : Params) : Obj := ⟨.none, none, (.fields #[]), #[]⟩
noncomputable def o522 (P : Params) : Obj := ⟨(.type "tuple"), none, (.seq #[(.str (.ofString "self") 937)] 0), #[]⟩
noncomputable def o523 (P : Params) : Obj := ⟨(.type "tuple"), none, (.seq #[] 0), #[]⟩
noncomputable def o524 (P : Params) : Obj := ⟨.none, none, (.func ⟨(.ofString "tell"), (.ofString "StringIO.tell"), (fnIn 14 22).1, .stmts (fnIn 14 22).2.1, (fnIn 14 22).2.2, 0, [], .none, .none, .none, .none, none, .none, .none, 0⟩), #[]⟩
noncomputable def o525 (P : Params) : Obj := ⟨(.type "code"), none, (.fields #[(.str (.ofString "tell") 934), (.str (.ofString "StringIO.tell") 935), (.str (.ofString "/claim/cut.py") 936), (.int 338 0), (.int 1 0), (.int 0 0), (.int 0 0), (.int 3 0), (.ref 520), (.bool true), (.int 318 0), (.ref 521), .none, (.ref 522), (.ref 523), (.ref 524), (.int 938 0), (.int 338 0), (.str (.ofString "/claim/cut.py") 939)]), #[]⟩
noncomputable def o526 (P : Params) : Obj := ⟨(.type "function"), none, (.func ⟨(.ofString "tell"), (.ofString "StringIO.tell"), (fnIn 14 22).1, .stmts (fnIn 14 22).2.1, (fnIn 14 22).2.2, 3, [], .none, .none, .none, (.str (.ofString "io") 383), none, (.ref 525), .none, 0⟩), #[]⟩
noncomputable def o527 (P : Params) : Obj := ⟨(.type "tuple"), none, (.seq #[(.int 0 941)] 0), #[]⟩
noncomputable def o528 (P : Params) : Obj := ⟨(.type "tuple"), none, (.seq #[] 0), #[]⟩
noncomputable def o529 (P : Params) : Obj := ⟨.none, none, (.fields #[]), #[]⟩
noncomputable def o530 (P : Params) : Obj := ⟨(.type "tuple"), none, (.seq #[(.str (.ofString "self") 945), (.str (.ofString "pos") 946), (.str (.ofString "whence") 947)] 0), #[]⟩
noncomputable def o531 (P : Params) : Obj := ⟨(.type "tuple"), none, (.seq #[] 0), #[]⟩
noncomputable def o532 (P : Params) : Obj := ⟨.none, none, (.func ⟨(.ofString "seek"), (.ofString "StringIO.seek"), (fnIn 14 23).1, .stmts (fnIn 14 23).2.1, (fnIn 14 23).2.2, 0, [], .none, .none, .none, .none, none, .none, .none, 0⟩), #[]⟩
noncomputable def o533 (P : Params) : Obj := ⟨(.type "code"), none, (.fields #[(.str (.ofString "seek") 942), (.str (.ofString "StringIO.seek") 943), (.str (.ofString "/claim/cut.py") 944), (.int 342 0), (.int 3 0), (.int 3 0), (.int 0 0), (.int 3 0), (.ref 528), (.bool true), (.int 318 0), (.ref 529), .none, (.ref 530), (.ref 531), (.ref 532), (.int 948 0), (.int 342 0), (.str (.ofString "/claim/cut.py") 949)]), #[]⟩
noncomputable def o534 (P : Params) : Obj := ⟨(.type "function"), none, (.func ⟨(.ofString "seek"), (.ofString "StringIO.seek"), (fnIn 14 23).1, .stmts (fnIn 14 23).2.1, (fnIn 14 23).2.2, 3, [], (.ref 527), .none, .none, (.str (.ofString "io") 383), none, (.ref 533), .none, 0⟩), #[]⟩
noncomputable def o535 (P : Params) : Obj := ⟨(.type "tuple"), none, (.seq #[.none] 0), #[]⟩
noncomputable def o536 (P : Params) : Obj := ⟨(.type "tuple"), none, (.seq #[] 0), #[]⟩
noncomputable def o537 (P : Params) : Obj := ⟨.none, none, (.fields #[]), #[]⟩
noncomputable def o538 (P : Params) : Obj := ⟨(.type "tuple"), none, (.seq #[(.str (.ofString "self") 954), (.str (.ofString "pos") 955)] 0), #[]⟩
noncomputable def o539 (P : Params) : Obj := ⟨(.type "tuple"), none, (.seq #[] 0), #[]⟩
noncomputable def o540 (P : Params) : Obj := ⟨.none, none, (.func ⟨(.ofString "truncate"), (.ofString "StringIO.truncate"), (fnIn 14 24).1, .stmts (fnIn 14 24).2.1, (fnIn 14 24).2.2, 0, [], .none, .none, .none, .none, none, .none, .none, 0⟩), #[]⟩
noncomputable def o541 (P : Params) : Obj := ⟨(.type "code"), none, (.fields #[(.str (.ofString "truncate") 951), (.str (.ofString "StringIO.truncate") 952), (.str (.ofString "/claim/cut.py") 953), (.int 359 0), (.int 2 0), (.int 2 0), (.int 0 0), (.int 3 0), (.ref 536), (.bool true), (.int 318 0), (.ref 537), .none, (.ref 538), (.ref 539), (.ref 540), (.int 956 0), (.int 359 0), (.str (.ofString "/claim/cut.py") 957)]), #[]⟩
noncomputable def o542 (P : Params) : Obj := ⟨(.type "function"), none, (.func ⟨(.ofString "truncate"), (.ofString "StringIO.truncate"), (fnIn 14 24).1, .stmts (fnIn 14 24).2.1, (fnIn 14 24).2.2, 3, [], (.ref 535), .none, .none, (.str (.ofString "io") 383), none, (.ref 541), .none, 0⟩), #[]⟩
noncomputable def o543 (P : Params) : Obj := ⟨(.type "tuple"), none, (.seq #[(.int (-1) 960)] 0), #[]⟩
noncomputable def o544 (P : Params) : Obj := ⟨(.type "tuple"), none, (.seq #[] 0), #[]⟩
noncomputable def o545 (P : Params) : Obj := ⟨.none, none, (.fields #[]), #[]⟩
noncomputable def o546 (P : Params) : Obj := ⟨(.type "tuple"), none, (.seq #[(.str (.ofString "self") 964), (.str (.ofString "size") 965), (.str (.ofString "start") 966), (.str (.ofString "stop") 967)] 0), #[]⟩
noncomputable def o547 (P : Params) : Obj := ⟨(.type "tuple"), none, (.seq #[] 0), #[]⟩
noncomputable def o548 (P : Params) : Obj := ⟨.none, none, (.func ⟨(.ofString "read"), (.ofString "StringIO.read"), (fnIn 14 25).1, .stmts (fnIn 14 25).2.1, (fnIn 14 25).2.2, 0, [], .none, .none, .none, .none, none, .none, .none, 0⟩), #[]⟩
noncomputable def o549 (P : Params) : Obj := ⟨(.type "code"), none, (.fields #[(.str (.ofString "read") 961), (.str (.ofString "StringIO.read") 962), (.str (.ofString "/claim/cut.py") 963), (.int 362 0), (.int 2 0), (.int 2 0), (.int 0 0), (.int 3 0), (.ref 544), (.bool true), (.int 318 0), (.ref 545), .none, (.ref 546), (.ref 547), (.ref 548), (.int 968 0), (.int 362 0), (.str (.ofString "/claim/cut.py") 969)]), #[]⟩
noncomputable def o550 (P : Params) : Obj := ⟨(.type "function"), none, (.func ⟨(.ofString "read"), (.ofString "StringIO.read"), (fnIn 14 25).1, .stmts (fnIn 14 25).2.1, (fnIn 14 25).2.2, 3, [], (.ref 543), .none, .none, (.str (.ofString "io") 383), none, (.ref 549), .none, 0⟩), #[]⟩
noncomputable def o551 (P : Params) : Obj := ⟨(.type "tuple"), none, (.seq #[(.int (-1) 972)] 0), #[]⟩
noncomputable def o552 (P : Params) : Obj := ⟨(.type "tuple"), none, (.seq #[] 0), #[]⟩
noncomputable def o553 (P : Params) : Obj := ⟨.none, none, (.fields #[]), #[]⟩
noncomputable def o554 (P : Params) : Obj := ⟨(.type "tuple"), none, (.seq #[(.str (.ofString "self") 976), (.str (.ofString "size") 977)] 0), #[]⟩
noncomputable def o555 (P : Params) : Obj := ⟨(.type "tuple"), none, (.seq #[] 0), #[]⟩
noncomputable def o556 (P : Params) : Obj := ⟨.none, none, (.func ⟨(.ofString "readline"), (.ofString "StringIO.readline"), (fnIn 14 26).1, .stmts (fnIn 14 26).2.1, (fnIn 14 26).2.2, 0, [], .none, .none, .none, .none, none, .none, .none, 0⟩), #[]⟩
noncomputable def o557 (P : Params) : Obj := ⟨(.type "code"), none, (.fields #[(.str (.ofString "readline") 973), (.str (.ofString "StringIO.readline") 974), (.str (.ofString "/claim/cut.py") 975), (.int 376 0), (.int 2 0), (.int 2 0), (.int 0 0), (.int 3 0), (.ref 552), (.bool true), (.int 318 0), (.ref 553), .none, (.ref 554), (.ref 555), (.ref 556), (.int 978 0), (.int 376 0), (.str (.ofString "/claim/cut.py") 979)]), #[]⟩
noncomputable def o558 (P : Params) : Obj := ⟨(.type "function"), none, (.func ⟨(.ofString "readline"), (.ofString "StringIO.readline"), (fnIn 14 26).1, .stmts (fnIn 14 26).2.1, (fnIn 14 26).2.2, 3, [], (.ref 551), .none, .none, (.str (.ofString "io") 383), none, (.ref 557), .none, 0⟩), #[]⟩
noncomputable def o559 (P : Params) : Obj := ⟨(.type "tuple"), none, (.seq #[(.int (-1) 982)] 0), #[]⟩
noncomputable def o560 (P : Params) : Obj := ⟨(.type "tuple"), none, (.seq #[] 0), #[]⟩
noncomputable def o561 (P : Params) : Obj := ⟨.none, none, (.fields #[]), #[]⟩
noncomputable def o562 (P : Params) : Obj := ⟨(.type "tuple"), none, (.seq #[(.str (.ofString "self") 986), (.str (.ofString "hint") 987)] 0), #[]⟩
noncomputable def o563 (P : Params) : Obj := ⟨(.type "tuple"), none, (.seq #[] 0), #[]⟩
noncomputable def o564 (P : Params) : Obj := ⟨.none, none, (.func ⟨(.ofString "readlines"), (.ofString "StringIO.readlines"), (fnIn 14 27).1, .stmts (fnIn 14 27).2.1, (fnIn 14 27).2.2, 0, [], .none, .none, .none, .none, none, .none, .none, 0⟩), #[]⟩
noncomputable def o565 (P : Params) : Obj := ⟨(.type "code"), none, (.fields #[(.str (.ofString "readlines") 983), (.str (.ofString "StringIO.readlines") 984), (.str (.ofString "/claim/cut.py") 985), (.int 383 0), (.int 2 0), (.int 2 0), (.int 0 0), (.int 3 0), (.ref 560), (.bool true), (.int 318 0), (.ref 561), .none, (.ref 562), (.ref 563), (.ref 564), (.int 988 0), (.int 383 0), (.str (.ofString "/claim/cut.py") 989)]), #[]⟩
noncomputable def o566 (P : Params) : Obj := ⟨(.type "function"), none, (.func ⟨(.ofString "readlines"), (.ofString "StringIO.readlines"), (fnIn 14 27).1, .stmts (fnIn 14 27).2.1, (fnIn 14 27).2.2, 3, [], (.ref 559), .none, .none, (.str (.ofString "io") 383), none, (.ref 565), .none, 0⟩), #[]⟩
noncomputable def o567 (P : Params) : Obj := ⟨(.type "tuple"), none, (.seq #[] 0), #[]⟩
noncomputable def o568 (P : Params) : Obj := ⟨.none, none, (.fields #[]), #[]⟩
noncomputable def o569 (P : Params) : Obj := ⟨(.type "tuple"), none, (.seq #[(.str (.ofString "self") 994)] 0), #[]⟩
noncomputable def o570 (P : Params) : Obj := ⟨(.type "tuple"), none, (.seq #[] 0), #[]⟩
noncomputable def o571 (P : Params) : Obj := ⟨.none, none, (.func ⟨(.ofString "__iter__"), (.ofString "StringIO.__iter__"), (fnIn 14 28).1, .stmts (fnIn 14 28).2.1, (fnIn 14 28).2.2, 0, [], .none, .none, .none, .none, none, .none, .none, 0⟩), #[]⟩
noncomputable def o572 (P : Params) : Obj := ⟨(.type "code"), none, (.fields #[(.str (.ofString "__iter__") 991), (.str (.ofString "StringIO.__iter__") 992), (.str (.ofString "/claim/cut.py") 993), (.int 386 0), (.int 1 0), (.int 0 0), (.int 0 0), (.int 3 0), (.ref 567), (.bool true), (.int 318 0), (.ref 568), .none, (.ref 569), (.ref 570), (.ref 571), (.int 995 0), (.int 386 0), (.str (.ofString "/claim/cut.py") 996)]), #[]⟩
noncomputable def o573 (P : Params) : Obj := ⟨(.type "function"), none, (.func ⟨(.ofString "__iter__"), (.ofString "StringIO.__iter__"), (fnIn 14 28).1, .stmts (fnIn 14 28).2.1, (fnIn 14 28).2.2, 3, [], .none, .none, .none, (.str (.ofString "io") 383), none, (.ref 572), .none, 0⟩), #[]⟩
noncomputable def o574 (P : Params) : Obj := ⟨(.type "tuple"), none, (.seq #[] 0), #[]⟩
noncomputable def o575 (P : Params) : Obj := ⟨.none, none, (.fields #[]), #[]⟩
noncomputable def o576 (P : Params) : Obj := ⟨(.type "tuple"), none, (.seq #[(.str (.ofString "self") 1001), (.str (.ofString "line") 1002)] 0), #[]⟩
noncomputable def o577 (P : Params) : Obj := ⟨(.type "tuple"), none, (.seq #[] 0), #[]⟩
noncomputable def o578 (P : Params) : Obj := ⟨.none, none, (.func ⟨(.ofString "__next__"), (.ofString "StringIO.__next__"), (fnIn 14 29).1, .stmts (fnIn 14 29).2.1, (fnIn 14 29).2.2, 0, [], .none, .none, .none, .none, none, .none, .none, 0⟩), #[]⟩
noncomputable def o579 (P : Params) : Obj := ⟨(.type "code"), none, (.fields #[(.str (.ofString "__next__") 998), (.str (.ofString "StringIO.__next__") 999), (.str (.ofString "/claim/cut.py") 1000), (.int 390 0), (.int 1 0), (.int 0 0), (.int 0 0), (.int 3 0), (.ref 574), (.bool true), (.int 318 0), (.ref 575), .none, (.ref 576), (.ref 577), (.ref 578), (.int 1003 0), (.int 390 0), (.str (.ofString "/claim/cut.py") 1004)]), #[]⟩
noncomputable def o580 (P : Params) : Obj := ⟨(.type "function"), none, (.func ⟨(.ofString "__next__"), (.ofString "StringIO.__next__"), (fnIn 14 29).1, .stmts (fnIn 14 29).2.1, (fnIn 14 29).2.2, 3, [], .none, .none, .none, (.str (.ofString "io") 383), none, (.ref 579), .none, 0⟩), #[]⟩
noncomputable def o581 (P : Params) : Obj := ⟨(.type "tuple"), none, (.seq #[] 0), #[]⟩
noncomputable def o582 (P : Params) : Obj := ⟨.none, none, (.fields #[]), #[]⟩
noncomputable def o583 (P : Params) : Obj := ⟨(.type "tuple"), none, (.seq #[(.str (.ofString "self") 1009), (.str (.ofString "s") 1010), (.str (.ofString "n") 1011), (.str (.ofString "m") 1012), (.str (.ofString "start") 1013), (.str (.ofString "buf") 1014)] 0), #[]⟩
noncomputable def o584 (P : Params) : Obj := ⟨(.type "tuple"), none, (.seq #[] 0), #[]⟩
noncomputable def o585 (P : Params) : Obj := ⟨.none, none, (.func ⟨(.ofString "write"), (.ofString "StringIO.write"), (fnIn 14 30).1, .stmts (fnIn 14 30).2.1, (fnIn 14 30).2.2, 0, [], .none, .none, .none, .none, none, .none, .none, 0⟩), #[]⟩
noncomputable def o586 (P : Params) : Obj := ⟨(.type "code"), none, (.fields #[(.str (.ofString "write") 1006), (.str (.ofString "StringIO.write") 1007), (.str (.ofString "/claim/cut.py") 1008), (.int 397 0), (.int 2 0), (.int 2 0), (.int 0 0), (.int 3 0), (.ref 581), (.bool true), (.int 318 0), (.ref 582), .none, (.ref 583), (.ref 584), (.ref 585), (.int 1015 0), (.int 397 0), (.str (.ofString "/claim/cut.py") 1016)]), #[]⟩
noncomputable def o587 (P : Params) : Obj := ⟨(.type "function"), none, (.func ⟨(.ofString "write"), (.ofString "StringIO.write"), (fnIn 14 30).1, .stmts (fnIn 14 30).2.1, (fnIn 14 30).2.2, 3, [], .none, .none, .none, (.str (.ofString "io") 383), none, (.ref 586), .none, 0⟩), #[]⟩
noncomputable def o588 (P : Params) : Obj := ⟨(.type "tuple"), none, (.seq #[] 0), #[]⟩
noncomputable def o589 (P : Params) : Obj := ⟨.none, none, (.fields #[]), #[]⟩
noncomputable def o590 (P : Params) : Obj := ⟨(.type "tuple"), none, (.seq #[(.str (.ofString "self") 1021), (.str (.ofString "lines") 1022)] 0), #[]⟩
noncomputable def o591 (P : Params) : Obj := ⟨(.type "tuple"), none, (.seq #[] 0), #[]⟩
noncomputable def o592 (P : Params) : Obj := ⟨.none, none, (.func ⟨(.ofString "writelines"), (.ofString "StringIO.writelines"), (fnIn 14 31).1, .stmts (fnIn 14 31).2.1, (fnIn 14 31).2.2, 0, [], .none, .none, .none, .none, none, .none, .none, 0⟩), #[]⟩
noncomputable def o593 (P : Params) : Obj := ⟨(.type "code"), none, (.fields #[(.str (.ofString "writelines") 1018), (.str (.ofString "StringIO.writelines") 1019), (.str (.ofString "/claim/cut.py") 1020), (.int 416 0), (.int 2 0), (.int 2 0), (.int 0 0), (.int 3 0), (.ref 588), (.bool true), (.int 318 0), (.ref 589), .none, (.ref 590), (.ref 591), (.ref 592), (.int 1023 0), (.int 416 0), (.str (.ofString "/claim/cut.py") 1024)]), #[]⟩
noncomputable def o594 (P : Params) : Obj := ⟨(.type "function"), none, (.func ⟨(.ofString "writelines"), (.ofString "StringIO.writelines"), (fnIn 14 31).1, .stmts (fnIn 14 31).2.1, (fnIn 14 31).2.2, 3, [], .none, .none, .none, (.str (.ofString "io") 383), none, (.ref 593), .none, 0⟩), #[]⟩
noncomputable def o595 (P : Params) : Obj := ⟨(.type "tuple"), none, (.seq #[] 0), #[]⟩
noncomputable def o596 (P : Params) : Obj := ⟨.none, none, (.fields #[]), #[]⟩
noncomputable def o597 (P : Params) : Obj := ⟨(.type "tuple"), none, (.seq #[(.str (.ofString "self") 1029)] 0), #[]⟩
noncomputable def o598 (P : Params) : Obj := ⟨(.type "tuple"), none, (.seq #[] 0), #[]⟩
noncomputable def o599 (P : Params) : Obj := ⟨.none, none, (.func ⟨(.ofString "__repr__"), (.ofString "StringIO.__repr__"), (fnIn 14 32).1, .stmts (fnIn 14 32).2.1, (fnIn 14 32).2.2, 0, [], .none, .none, .none, .none, none, .none, .none, 0⟩), #[]⟩
noncomputable def o600 (P : Params) : Obj := ⟨(.type "code"), none, (.fields #[(.str (.ofString "__repr__") 1026), (.str (.ofString "StringIO.__repr__") 1027), (.str (.ofString "/claim/cut.py") 1028), (.int 419 0), (.int 1 0), (.int 0 0), (.int 0 0), (.int 3 0), (.ref 595), (.bool true), (.int 318 0), (.ref 596), .none, (.ref 597), (.ref 598), (.ref 599), (.int 1030 0), (.int 419 0), (.str (.ofString "/claim/cut.py") 1031)]), #[]⟩
noncomputable def o601 (P : Params) : Obj := ⟨(.type "function"), none, (.func ⟨(.ofString "__repr__"), (.ofString "StringIO.__repr__"), (fnIn 14 32).1, .stmts (fnIn 14 32).2.1, (fnIn 14 32).2.2, 3, [], .none, .none, .none, (.str (.ofString "io") 383), none, (.ref 600), .none, 0⟩), #[]⟩
noncomputable def o602 (P : Params) : Obj := ⟨(.type "tuple"), none, (.seq #[(.str (.ofString "__buf") 1033), (.str (.ofString "__newline") 1034), (.str (.ofString "__pos") 1035)] 0), #[]⟩
noncomputable def o603 (P : Params) : Obj := ⟨(.type "dict"), none, (.dict #[e P "__module__" 760 (.str (.ofString "_io") 765), e P "__firstlineno__" 764 (.int 216 763), e P "__init__" 777 (.ref 374), e P "_StringIO__translated" 786 (.ref 381), e P "_StringIO__check" 793 (.ref 388), e P "_StringIO__check_dot" 800 (.ref 395), e P "_StringIO__line" 815 (.ref 402), e P "closed" 823 (.ref 410), e P "line_buffering" 831 (.ref 418), e P "newlines" 839 (.ref 426), e P "encoding" 847 (.ref 434), e P "errors" 855 (.ref 442), e P "close" 862 (.ref 449), e P "__enter__" 869 (.ref 456), e P "__exit__" 877 (.ref 463), e P "readable" 884 (.ref 470), e P "writable" 891 (.ref 477), e P "seekable" 898 (.ref 484), e P "isatty" 905 (.ref 491), e P "flush" 912 (.ref 498), e P "fileno" 919 (.ref 505), e P "detach" 926 (.ref 512), e P "getvalue" 933 (.ref 519), e P "tell" 940 (.ref 526), e P "seek" 950 (.ref 534), e P "truncate" 958 (.ref 542), e P "read" 970 (.ref 550), e P "readline" 980 (.ref 558), e P "readlines" 990 (.ref 566), e P "__iter__" 997 (.ref 573), e P "__next__" 1005 (.ref 580), e P "write" 1017 (.ref 587), e P "writelines" 1025 (.ref 594), e P "__repr__" 1032 (.ref 601), e P "__static_attributes__" 1036 (.ref 602), e P "__doc__" 1037 .none] 2), #[]⟩
noncomputable def o604 (P : Params) : Obj := ⟨(.type "type"), none, (.cls ⟨(.ofString "StringIO"), [(.ref 127)], [(.ref 604), (.ref 127), (.ref 100), (.type "object")], 603, (.ofString "StringIO"), true, [], [], false, none, false⟩), #[(some (.ref 360)), none, (some (.str (.ofString "StringIO") 753)), (some (.str (.ofString "StringIO") 761)), (some .none), (some (.bool true))]⟩
noncomputable def o605 (P : Params) : Obj := ⟨(.type "super"), none, (.fields #[(.ref 604), (.ref 604), (.ref 604)]), #[]⟩
noncomputable def o606 (P : Params) : Obj := ⟨(.type "builtin_function_or_method"), none, (.fields #[(.builtin "object.__init_subclass__"), (.ref 604)]), #[]⟩
noncomputable def t2 (P : Params) : BT := (.node (o0 P) (.node (o1 P) (.node (o3v3 P) (.node (o7 P) (.node (o15 P) (.node (o31 P) (.node (o63 P) (.node (o127v1 P) (.node (o255 P) (.node (o511 P) .nil .nil) .nil) (.node (o383 P) .nil .nil)) (.node (o191 P) (.node (o319 P) (.node (o575 P) .nil .nil) .nil) (.node (o447 P) .nil .nil))) (.node (o95 P) (.node (o159 P) (.node (o287 P) (.node (o543 P) .nil .nil) .nil) (.node (o415 P) .nil .nil)) (.node (o223 P) (.node (o351 P) .nil .nil) (.node (o479 P) .nil .nil)))) (.node (o47 P) (.node (o79 P) (.node (o143 P) (.node (o271 P) (.node (o527 P) .nil .nil) .nil) (.node (o399 P) .nil .nil)) (.node (o207 P) (.node (o335 P) (.node (o591 P) .nil .nil) .nil) (.node (o463 P) .nil .nil))) (.node (o111 P) (.node (o175 P) (.node (o303 P) (.node (o559 P) .nil .nil) .nil) (.node (o431 P) .nil .nil)) (.node (o239 P) (.node (o367 P) .nil .nil) (.node (o495 P) .nil .nil))))) (.node (o23 P) (.node (o39 P) (.node (o71 P) (.node (o135 P) (.node (o263 P) (.node (o519 P) .nil .nil) .nil) (.node (o391 P) .nil .nil)) (.node (o199 P) (.node (o327 P) (.node (o583 P) .nil .nil) .nil) (.node (o455 P) .nil .nil))) (.node (o103 P) (.node (o167 P) (.node (o295 P) (.node (o551 P) .nil .nil) .nil) (.node (o423 P) .nil .nil)) (.node (o231 P) (.node (o359 P) .nil .nil) (.node (o487 P) .nil .nil)))) (.node (o55 P) (.node (o87 P) (.node (o151 P) (.node (o279 P) (.node (o535 P) .nil .nil) .nil) (.node (o407 P) .nil .nil)) (.node (o215 P) (.node (o343 P) (.node (o599 P) .nil .nil) .nil) (.node (o471 P) .nil .nil))) (.node (o119 P) (.node (o183 P) (.node (o311 P) (.node (o567 P) .nil .nil) .nil) (.node (o439 P) .nil .nil)) (.node (o247 P) (.node (o375 P) .nil .nil) (.node (o503 P) .nil .nil)))))) (.node (o11v1 P) (.node (o19 P) (.node (o35v3 P) (.node (o67 P) (.node (o131 P) (.node (o259 P) (.node (o515 P) .nil .nil) .nil) (.node (o387 P) .nil .nil)) (.node (o195 P) (.node (o323 P) (.node (o579 P) .nil .nil) .nil) (.node (o451 P) .nil .nil))) (.node (o99 P) (.node (o163 P) (.node (o291 P) (.node (o547 P) .nil .nil) .nil) (.node (o419 P) .nil .nil)) (.node (o227 P) (.node (o355 P) .nil .nil) (.node (o483 P) .nil .nil)))) (.node (o51 P) (.node (o83 P) (.node (o147 P) (.node (o275 P) (.node (o531 P) .nil .nil) .nil) (.node (o403 P) .nil .nil)) (.node (o211 P) (.node (o339 P) (.node (o595 P) .nil .nil) .nil) (.node (o467 P) .nil .nil))) (.node (o115v1 P) (.node (o179 P) (.node (o307 P) (.node (o563 P) .nil .nil) .nil) (.node (o435 P) .nil .nil)) (.node (o243 P) (.node (o371 P) .nil .nil) (.node (o499 P) .nil .nil))))) (.node (o27 P) (.node (o43 P) (.node (o75 P) (.node (o139 P) (.node (o267 P) (.node (o523 P) .nil .nil) .nil) (.node (o395 P) .nil .nil)) (.node (o203 P) (.node (o331 P) (.node (o587 P) .nil .nil) .nil) (.node (o459 P) .nil .nil))) (.node (o107 P) (.node (o171 P) (.node (o299 P) (.node (o555 P) .nil .nil) .nil) (.node (o427 P) .nil .nil)) (.node (o235 P) (.node (o363 P) .nil .nil) (.node (o491 P) .nil .nil)))) (.node (o59 P) (.node (o91 P) (.node (o155 P) (.node (o283 P) (.node (o539 P) .nil .nil) .nil) (.node (o411 P) .nil .nil)) (.node (o219 P) (.node (o347 P) (.node (o603 P) .nil .nil) .nil) (.node (o475 P) .nil .nil))) (.node (o123 P) (.node (o187 P) (.node (o315 P) (.node (o571 P) .nil .nil) .nil) (.node (o443 P) .nil .nil)) (.node (o251 P) (.node (o379 P) .nil .nil) (.node (o507 P) .nil .nil))))))) (.node (o5 P) (.node (o9 P) (.node (o17 P) (.node (o33 P) (.node (o65 P) (.node (o129 P) (.node (o257 P) (.node (o513 P) .nil .nil) .nil) (.node (o385 P) .nil .nil)) (.node (o193 P) (.node (o321 P) (.node (o577 P) .nil .nil) .nil) (.node (o449 P) .nil .nil))) (.node (o97 P) (.node (o161 P) (.node (o289 P) (.node (o545 P) .nil .nil) .nil) (.node (o417 P) .nil .nil)) (.node (o225 P) (.node (o353 P) .nil .nil) (.node (o481 P) .nil .nil)))) (.node (o49 P) (.node (o81 P) (.node (o145 P) (.node (o273 P) (.node (o529 P) .nil .nil) .nil) (.node (o401 P) .nil .nil)) (.node (o209 P) (.node (o337 P) (.node (o593 P) .nil .nil) .nil) (.node (o465 P) .nil .nil))) (.node (o113 P) (.node (o177 P) (.node (o305 P) (.node (o561 P) .nil .nil) .nil) (.node (o433 P) .nil .nil)) (.node (o241 P) (.node (o369 P) .nil .nil) (.node (o497 P) .nil .nil))))) (.node (o25 P) (.node (o41 P) (.node (o73 P) (.node (o137 P) (.node (o265 P) (.node (o521 P) .nil .nil) .nil) (.node (o393 P) .nil .nil)) (.node (o201 P) (.node (o329 P) (.node (o585 P) .nil .nil) .nil) (.node (o457 P) .nil .nil))) (.node (o105 P) (.node (o169 P) (.node (o297 P) (.node (o553 P) .nil .nil) .nil) (.node (o425 P) .nil .nil)) (.node (o233 P) (.node (o361 P) .nil .nil) (.node (o489 P) .nil .nil)))) (.node (o57 P) (.node (o89 P) (.node (o153 P) (.node (o281 P) (.node (o537 P) .nil .nil) .nil) (.node (o409 P) .nil .nil)) (.node (o217 P) (.node (o345 P) (.node (o601 P) .nil .nil) .nil) (.node (o473 P) .nil .nil))) (.node (o121 P) (.node (o185 P) (.node (o313 P) (.node (o569 P) .nil .nil) .nil) (.node (o441 P) .nil .nil)) (.node (o249 P) (.node (o377 P) .nil .nil) (.node (o505 P) .nil .nil)))))) (.node (o13 P) (.node (o21 P) (.node (o37 P) (.node (o69 P) (.node (o133 P) (.node (o261 P) (.node (o517 P) .nil .nil) .nil) (.node (o389 P) .nil .nil)) (.node (o197 P) (.node (o325 P) (.node (o581 P) .nil .nil) .nil) (.node (o453 P) .nil .nil))) (.node (o101 P) (.node (o165 P) (.node (o293 P) (.node (o549 P) .nil .nil) .nil) (.node (o421 P) .nil .nil)) (.node (o229 P) (.node (o357 P) .nil .nil) (.node (o485 P) .nil .nil)))) (.node (o53 P) (.node (o85 P) (.node (o149 P) (.node (o277 P) (.node (o533 P) .nil .nil) .nil) (.node (o405 P) .nil .nil)) (.node (o213 P) (.node (o341 P) (.node (o597 P) .nil .nil) .nil) (.node (o469 P) .nil .nil))) (.node (o117 P) (.node (o181 P) (.node (o309 P) (.node (o565 P) .nil .nil) .nil) (.node (o437 P) .nil .nil)) (.node (o245 P) (.node (o373 P) .nil .nil) (.node (o501 P) .nil .nil))))) (.node (o29v1 P) (.node (o45 P) (.node (o77 P) (.node (o141 P) (.node (o269 P) (.node (o525 P) .nil .nil) .nil) (.node (o397 P) .nil .nil)) (.node (o205 P) (.node (o333 P) (.node (o589 P) .nil .nil) .nil) (.node (o461 P) .nil .nil))) (.node (o109 P) (.node (o173 P) (.node (o301 P) (.node (o557 P) .nil .nil) .nil) (.node (o429 P) .nil .nil)) (.node (o237 P) (.node (o365 P) .nil .nil) (.node (o493 P) .nil .nil)))) (.node (o61 P) (.node (o93 P) (.node (o157 P) (.node (o285 P) (.node (o541 P) .nil .nil) .nil) (.node (o413 P) .nil .nil)) (.node (o221 P) (.node (o349 P) (.node (o605 P) .nil .nil) .nil) (.node (o477 P) .nil .nil))) (.node (o125 P) (.node (o189 P) (.node (o317 P) (.node (o573 P) .nil .nil) .nil) (.node (o445 P) .nil .nil)) (.node (o253 P) (.node (o381 P) .nil .nil) (.node (o509 P) .nil .nil)))))))) (.node (o2v1 P) (.node (o4 P) (.node (o8 P) (.node (o16 P) (.node (o32 P) (.node (o64 P) (.node (o128 P) (.node (o256 P) (.node (o512 P) .nil .nil) .nil) (.node (o384 P) .nil .nil)) (.node (o192 P) (.node (o320 P) (.node (o576 P) .nil .nil) .nil) (.node (o448 P) .nil .nil))) (.node (o96 P) (.node (o160 P) (.node (o288 P) (.node (o544 P) .nil .nil) .nil) (.node (o416 P) .nil .nil)) (.node (o224 P) (.node (o352 P) .nil .nil) (.node (o480 P) .nil .nil)))) (.node (o48 P) (.node (o80 P) (.node (o144 P) (.node (o272 P) (.node (o528 P) .nil .nil) .nil) (.node (o400 P) .nil .nil)) (.node (o208 P) (.node (o336 P) (.node (o592 P) .nil .nil) .nil) (.node (o464 P) .nil .nil))) (.node (o112 P) (.node (o176 P) (.node (o304 P) (.node (o560 P) .nil .nil) .nil) (.node (o432 P) .nil .nil)) (.node (o240 P) (.node (o368 P) .nil .nil) (.node (o496 P) .nil .nil))))) (.node (o24 P) (.node (o40 P) (.node (o72 P) (.node (o136 P) (.node (o264 P) (.node (o520 P) .nil .nil) .nil) (.node (o392 P) .nil .nil)) (.node (o200 P) (.node (o328 P) (.node (o584 P) .nil .nil) .nil) (.node (o456 P) .nil .nil))) (.node (o104 P) (.node (o168 P) (.node (o296 P) (.node (o552 P) .nil .nil) .nil) (.node (o424 P) .nil .nil)) (.node (o232 P) (.node (o360 P) .nil .nil) (.node (o488 P) .nil .nil)))) (.node (o56 P) (.node (o88 P) (.node (o152 P) (.node (o280 P) (.node (o536 P) .nil .nil) .nil) (.node (o408 P) .nil .nil)) (.node (o216 P) (.node (o344 P) (.node (o600 P) .nil .nil) .nil) (.node (o472 P) .nil .nil))) (.node (o120 P) (.node (o184 P) (.node (o312 P) (.node (o568 P) .nil .nil) .nil) (.node (o440 P) .nil .nil)) (.node (o248 P) (.node (o376 P) .nil .nil) (.node (o504 P) .nil .nil)))))) (.node (o12 P) (.node (o20 P) (.node (o36 P) (.node (o68 P) (.node (o132 P) (.node (o260 P) (.node (o516 P) .nil .nil) .nil) (.node (o388 P) .nil .nil)) (.node (o196 P) (.node (o324 P) (.node (o580 P) .nil .nil) .nil) (.node (o452 P) .nil .nil))) (.node (o100 P) (.node (o164 P) (.node (o292 P) (.node (o548 P) .nil .nil) .nil) (.node (o420 P) .nil .nil)) (.node (o228 P) (.node (o356 P) .nil .nil) (.node (o484 P) .nil .nil)))) (.node (o52 P) (.node (o84 P) (.node (o148 P) (.node (o276 P) (.node (o532 P) .nil .nil) .nil) (.node (o404 P) .nil .nil)) (.node (o212 P) (.node (o340 P) (.node (o596 P) .nil .nil) .nil) (.node (o468 P) .nil .nil))) (.node (o116 P) (.node (o180 P) (.node (o308 P) (.node (o564 P) .nil .nil) .nil) (.node (o436 P) .nil .nil)) (.node (o244 P) (.node (o372 P) .nil .nil) (.node (o500 P) .nil .nil))))) (.node (o28 P) (.node (o44 P) (.node (o76 P) (.node (o140 P) (.node (o268 P) (.node (o524 P) .nil .nil) .nil) (.node (o396 P) .nil .nil)) (.node (o204 P) (.node (o332 P) (.node (o588 P) .nil .nil) .nil) (.node (o460 P) .nil .nil))) (.node (o108 P) (.node (o172 P) (.node (o300 P) (.node (o556 P) .nil .nil) .nil) (.node (o428 P) .nil .nil)) (.node (o236 P) (.node (o364 P) .nil .nil) (.node (o492 P) .nil .nil)))) (.node (o60 P) (.node (o92 P) (.node (o156 P) (.node (o284 P) (.node (o540 P) .nil .nil) .nil) (.node (o412 P) .nil .nil)) (.node (o220 P) (.node (o348 P) (.node (o604 P) .nil .nil) .nil) (.node (o476 P) .nil .nil))) (.node (o124 P) (.node (o188 P) (.node (o316 P) (.node (o572 P) .nil .nil) .nil) (.node (o444 P) .nil .nil)) (.node (o252 P) (.node (o380 P) .nil .nil) (.node (o508 P) .nil .nil))))))) (.node (o6 P) (.node (o10 P) (.node (o18 P) (.node (o34 P) (.node (o66 P) (.node (o130 P) (.node (o258 P) (.node (o514 P) .nil .nil) .nil) (.node (o386 P) .nil .nil)) (.node (o194 P) (.node (o322 P) (.node (o578 P) .nil .nil) .nil) (.node (o450 P) .nil .nil))) (.node (o98 P) (.node (o162 P) (.node (o290 P) (.node (o546 P) .nil .nil) .nil) (.node (o418 P) .nil .nil)) (.node (o226 P) (.node (o354 P) .nil .nil) (.node (o482 P) .nil .nil)))) (.node (o50 P) (.node (o82 P) (.node (o146 P) (.node (o274 P) (.node (o530 P) .nil .nil) .nil) (.node (o402 P) .nil .nil)) (.node (o210 P) (.node (o338 P) (.node (o594 P) .nil .nil) .nil) (.node (o466 P) .nil .nil))) (.node (o114 P) (.node (o178 P) (.node (o306 P) (.node (o562 P) .nil .nil) .nil) (.node (o434 P) .nil .nil)) (.node (o242 P) (.node (o370 P) .nil .nil) (.node (o498 P) .nil .nil))))) (.node (o26 P) (.node (o42 P) (.node (o74 P) (.node (o138 P) (.node (o266 P) (.node (o522 P) .nil .nil) .nil) (.node (o394 P) .nil .nil)) (.node (o202 P) (.node (o330 P) (.node (o586 P) .nil .nil) .nil) (.node (o458 P) .nil .nil))) (.node (o106 P) (.node (o170 P) (.node (o298 P) (.node (o554 P) .nil .nil) .nil) (.node (o426 P) .nil .nil)) (.node (o234 P) (.node (o362 P) .nil .nil) (.node (o490 P) .nil .nil)))) (.node (o58 P) (.node (o90 P) (.node (o154 P) (.node (o282 P) (.node (o538 P) .nil .nil) .nil) (.node (o410 P) .nil .nil)) (.node (o218 P) (.node (o346 P) (.node (o602 P) .nil .nil) .nil) (.node (o474 P) .nil .nil))) (.node (o122 P) (.node (o186 P) (.node (o314 P) (.node (o570 P) .nil .nil) .nil) (.node (o442 P) .nil .nil)) (.node (o250 P) (.node (o378 P) .nil .nil) (.node (o506 P) .nil .nil)))))) (.node (o14 P) (.node (o22 P) (.node (o38 P) (.node (o70 P) (.node (o134 P) (.node (o262 P) (.node (o518 P) .nil .nil) .nil) (.node (o390 P) .nil .nil)) (.node (o198 P) (.node (o326 P) (.node (o582 P) .nil .nil) .nil) (.node (o454 P) .nil .nil))) (.node (o102 P) (.node (o166 P) (.node (o294 P) (.node (o550 P) .nil .nil) .nil) (.node (o422 P) .nil .nil)) (.node (o230 P) (.node (o358 P) .nil .nil) (.node (o486 P) .nil .nil)))) (.node (o54 P) (.node (o86 P) (.node (o150 P) (.node (o278 P) (.node (o534 P) .nil .nil) .nil) (.node (o406 P) .nil .nil)) (.node (o214 P) (.node (o342 P) (.node (o598 P) .nil .nil) .nil) (.node (o470 P) .nil .nil))) (.node (o118 P) (.node (o182 P) (.node (o310 P) (.node (o566 P) .nil .nil) .nil) (.node (o438 P) .nil .nil)) (.node (o246 P) (.node (o374 P) .nil .nil) (.node (o502 P) .nil .nil))))) (.node (o30 P) (.node (o46 P) (.node (o78 P) (.node (o142 P) (.node (o270 P) (.node (o526 P) .nil .nil) .nil) (.node (o398 P) .nil .nil)) (.node (o206 P) (.node (o334 P) (.node (o590 P) .nil .nil) .nil) (.node (o462 P) .nil .nil))) (.node (o110 P) (.node (o174 P) (.node (o302 P) (.node (o558 P) .nil .nil) .nil) (.node (o430 P) .nil .nil)) (.node (o238 P) (.node (o366 P) .nil .nil) (.node (o494 P) .nil .nil)))) (.node (o62 P) (.node (o94 P) (.node (o158 P) (.node (o286 P) (.node (o542 P) .nil .nil) .nil) (.node (o414 P) .nil .nil)) (.node (o222 P) (.node (o350 P) (.node (o606 P) .nil .nil) .nil) (.node (o478 P) .nil .nil))) (.node (o126 P) (.node (o190 P) (.node (o318 P) (.node (o574 P) .nil .nil) .nil) (.node (o446 P) .nil .nil)) (.node (o254 P) (.node (o382 P) .nil .nil) (.node (o510 P) .nil .nil)))))))))
noncomputable def o3v4 (P : Params) : Obj := ⟨(.type "dict"), none, (.dict #[e P "__name__" 165 (.str (.ofString "cpy313.shlex") 1099), e P "__doc__" 166 .none, e P "__package__" 167 .none, e P "__loader__" 168 (.builtin "__main__.__loader__#opaque"), e P "__spec__" 169 .none, e P "__annotations__" 170 (.ref 6), e P "__builtins__" 171 (.ref 4), e P "__file__" 173 (.str (.ofString "/claim/cut.py") 172), e P "__cached__" 174 .none, e P "_sre" 275 (.ref 12), e P "deque" 317 (.type "collections.deque"), e P "_wall" 330 (.ref 44), e P "_strip_exception_details" 342 (.ref 51), e P "_twin_re_1" 382 (.ref 56), e P "_whence" 392 (.ref 63), e P "_index" 400 (.ref 70), e P "UnsupportedOperation" 422 (.ref 80), e P "IOBase" 454 (.ref 100), e P "BufferedIOBase" 472 (.ref 115), e P "TextIOBase" 490 (.ref 127), e P "BytesIO" 752 (.ref 357), e P "StringIO" 1039 (.ref 604), e P "_kind" 1050 (.ref 613), e P "_fspath" 1059 (.ref 620), e P "_check_arg_types" 1069 (.ref 627), e P "isabs" 1076 (.ref 634), e P "join" 1087 (.ref 641), e P "join_path" 1088 (.ref 641), e P "dirname" 1098 (.ref 648), e P "shlex" 1239 (.ref 739)] 30), #[]⟩
noncomputable def o35v4 (P : Params) : Obj := ⟨.none, none, (.fields #[(.int 3 0), (.int 0 0), (.ref 43), (.int 7 0), (.int 0 0), (.ref 50), (.int 21 0), (.int 0 0), (.ref 62), (.int 26 0), (.int 0 0), (.ref 69), (.int 33 0), (.int 0 0), (.ref 76), (.int 35 0), (.int 0 0), (.ref 89), (.int 42 0), (.int 0 0), (.ref 111), (.int 44 0), (.int 0 0), (.ref 123), (.int 46 0), (.int 0 0), (.ref 135), (.int 216 0), (.int 0 0), (.ref 365), (.int 422 0), (.int 0 0), (.ref 612), (.int 443 0), (.int 0 0), (.ref 619), (.int 448 0), (.int 0 0), (.ref 626), (.int 453 0), (.int 0 0), (.ref 633), (.int 456 0), (.int 0 0), (.ref 640), (.int 477 0), (.int 0 0), (.ref 647), (.int 486 0), (.int 0 0), (.ref 654)]), #[]⟩
noncomputable def o607 (P : Params) : Obj := ⟨(.type "tuple"), none, (.seq #[] 0), #[]⟩
noncomputable def o608 (P : Params) : Obj := ⟨.none, none, (.fields #[]), #[]⟩
noncomputable def o609 (P : Params) : Obj := ⟨(.type "tuple"), none, (.seq #[(.str (.ofString "name") 1045), (.str (.ofString "x") 1046), (.str (.ofString "t") 1047)] 0), #[]⟩
noncomputable def o610 (P : Params) : Obj := ⟨(.type "tuple"), none, (.seq #[] 0), #[]⟩
noncomputable def o611 (P : Params) : Obj := ⟨.none, none, (.func ⟨(.ofString "_kind"), (.ofString "_kind"), (fnAt 16).1, .stmts (fnAt 16).2.1, (fnAt 16).2.2, 0, [], .none, .none, .none, .none, none, .none, .none, 0⟩), #[]⟩
noncomputable def o612 (P : Params) : Obj := ⟨(.type "code"), none, (.fields #[(.str (.ofString "_kind") 1042), (.str (.ofString "_kind") 1043), (.str (.ofString "/claim/cut.py") 1044), (.int 422 0), (.int 2 0), (.int 0 0), (.int 0 0), (.int 3 0), (.ref 607), (.bool true), (.int 318 0), (.ref 608), .none, (.ref 609), (.ref 610), (.ref 611), (.int 1048 0), (.int 422 0), (.str (.ofString "/claim/cut.py") 1049)]), #[]⟩
noncomputable def o613 (P : Params) : Obj := ⟨(.type "function"), none, (.func ⟨(.ofString "_kind"), (.ofString "_kind"), (fnAt 16).1, .stmts (fnAt 16).2.1, (fnAt 16).2.2, 3, [], .none, .none, .none, (.str (.ofString "os.path") 1040), none, (.ref 612), .none, 0⟩), #[]⟩
noncomputable def o614 (P : Params) : Obj := ⟨(.type "tuple"), none, (.seq #[] 0), #[]⟩
noncomputable def o615 (P : Params) : Obj := ⟨.none, none, (.fields #[]), #[]⟩
noncomputable def o616 (P : Params) : Obj := ⟨(.type "tuple"), none, (.seq #[(.str (.ofString "name") 1054), (.str (.ofString "x") 1055), (.str (.ofString "k") 1056)] 0), #[]⟩
noncomputable def o617 (P : Params) : Obj := ⟨(.type "tuple"), none, (.seq #[] 0), #[]⟩
noncomputable def o618 (P : Params) : Obj := ⟨.none, none, (.func ⟨(.ofString "_fspath"), (.ofString "_fspath"), (fnAt 17).1, .stmts (fnAt 17).2.1, (fnAt 17).2.2, 0, [], .none, .none, .none, .none, none, .none, .none, 0⟩), #[]⟩
noncomputable def o619 (P : Params) : Obj := ⟨(.type "code"), none, (.fields #[(.str (.ofString "_fspath") 1051), (.str (.ofString "_fspath") 1052), (.str (.ofString "/claim/cut.py") 1053), (.int 443 0), (.int 2 0), (.int 0 0), (.int 0 0), (.int 3 0), (.ref 614), (.bool true), (.int 318 0), (.ref 615), .none, (.ref 616), (.ref 617), (.ref 618), (.int 1057 0), (.int 443 0), (.str (.ofString "/claim/cut.py") 1058)]), #[]⟩
noncomputable def o620 (P : Params) : Obj := ⟨(.type "function"), none, (.func ⟨(.ofString "_fspath"), (.ofString "_fspath"), (fnAt 17).1, .stmts (fnAt 17).2.1, (fnAt 17).2.2, 3, [], .none, .none, .none, (.str (.ofString "os.path") 1040), none, (.ref 619), .none, 0⟩), #[]⟩
noncomputable def o621 (P : Params) : Obj := ⟨(.type "tuple"), none, (.seq #[] 0), #[]⟩
noncomputable def o622 (P : Params) : Obj := ⟨.none, none, (.fields #[]), #[]⟩
noncomputable def o623 (P : Params) : Obj := ⟨(.type "tuple"), none, (.seq #[(.str (.ofString "funcname") 1063), (.str (.ofString "args") 1064), (.str (.ofString "s") 1065), (.str (.ofString "k") 1066)] 0), #[]⟩
noncomputable def o624 (P : Params) : Obj := ⟨(.type "tuple"), none, (.seq #[] 0), #[]⟩
noncomputable def o625 (P : Params) : Obj := ⟨.none, none, (.func ⟨(.ofString "_check_arg_types"), (.ofString "_check_arg_types"), (fnAt 18).1, .stmts (fnAt 18).2.1, (fnAt 18).2.2, 0, [], .none, .none, .none, .none, none, .none, .none, 0⟩), #[]⟩
noncomputable def o626 (P : Params) : Obj := ⟨(.type "code"), none, (.fields #[(.str (.ofString "_check_arg_types") 1060), (.str (.ofString "_check_arg_types") 1061), (.str (.ofString "/claim/cut.py") 1062), (.int 448 0), (.int 1 0), (.int 0 0), (.int 0 0), (.int 7 0), (.ref 621), (.bool true), (.int 318 0), (.ref 622), .none, (.ref 623), (.ref 624), (.ref 625), (.int 1067 0), (.int 448 0), (.str (.ofString "/claim/cut.py") 1068)]), #[]⟩
noncomputable def o627 (P : Params) : Obj := ⟨(.type "function"), none, (.func ⟨(.ofString "_check_arg_types"), (.ofString "_check_arg_types"), (fnAt 18).1, .stmts (fnAt 18).2.1, (fnAt 18).2.2, 3, [], .none, .none, .none, (.str (.ofString "os.path") 1040), none, (.ref 626), .none, 0⟩), #[]⟩
noncomputable def o628 (P : Params) : Obj := ⟨(.type "tuple"), none, (.seq #[] 0), #[]⟩
noncomputable def o629 (P : Params) : Obj := ⟨.none, none, (.fields #[]), #[]⟩
noncomputable def o630 (P : Params) : Obj := ⟨(.type "tuple"), none, (.seq #[(.str (.ofString "s") 1073)] 0), #[]⟩
noncomputable def o631 (P : Params) : Obj := ⟨(.type "tuple"), none, (.seq #[] 0), #[]⟩
noncomputable def o632 (P : Params) : Obj := ⟨.none, none, (.func ⟨(.ofString "isabs"), (.ofString "isabs"), (fnAt 19).1, .stmts (fnAt 19).2.1, (fnAt 19).2.2, 0, [], .none, .none, .none, .none, none, .none, .none, 0⟩), #[]⟩
noncomputable def o633 (P : Params) : Obj := ⟨(.type "code"), none, (.fields #[(.str (.ofString "isabs") 1070), (.str (.ofString "isabs") 1071), (.str (.ofString "/claim/cut.py") 1072), (.int 453 0), (.int 1 0), (.int 0 0), (.int 0 0), (.int 3 0), (.ref 628), (.bool true), (.int 318 0), (.ref 629), .none, (.ref 630), (.ref 631), (.ref 632), (.int 1074 0), (.int 453 0), (.str (.ofString "/claim/cut.py") 1075)]), #[]⟩
noncomputable def o634 (P : Params) : Obj := ⟨(.type "function"), none, (.func ⟨(.ofString "isabs"), (.ofString "isabs"), (fnAt 19).1, .stmts (fnAt 19).2.1, (fnAt 19).2.2, 3, [], .none, .none, .none, (.str (.ofString "os.path") 1040), none, (.ref 633), .none, 0⟩), #[]⟩
noncomputable def o635 (P : Params) : Obj := ⟨(.type "tuple"), none, (.seq #[] 0), #[]⟩
noncomputable def o636 (P : Params) : Obj := ⟨.none, none, (.fields #[]), #[]⟩
noncomputable def o637 (P : Params) : Obj := ⟨(.type "tuple"), none, (.seq #[(.str (.ofString "a") 1080), (.str (.ofString "p") 1081), (.str (.ofString "b") 1082), (.str (.ofString "sep") 1083), (.str (.ofString "path") 1084)] 0), #[]⟩
noncomputable def o638 (P : Params) : Obj := ⟨(.type "tuple"), none, (.seq #[] 0), #[]⟩
noncomputable def o639 (P : Params) : Obj := ⟨.none, none, (.func ⟨(.ofString "join"), (.ofString "join"), (fnAt 20).1, .stmts (fnAt 20).2.1, (fnAt 20).2.2, 0, [], .none, .none, .none, .none, none, .none, .none, 0⟩), #[]⟩
noncomputable def o640 (P : Params) : Obj := ⟨(.type "code"), none, (.fields #[(.str (.ofString "join") 1077), (.str (.ofString "join") 1078), (.str (.ofString "/claim/cut.py") 1079), (.int 456 0), (.int 1 0), (.int 0 0), (.int 0 0), (.int 7 0), (.ref 635), (.bool true), (.int 318 0), (.ref 636), .none, (.ref 637), (.ref 638), (.ref 639), (.int 1085 0), (.int 456 0), (.str (.ofString "/claim/cut.py") 1086)]), #[]⟩
noncomputable def o641 (P : Params) : Obj := ⟨(.type "function"), none, (.func ⟨(.ofString "join"), (.ofString "join"), (fnAt 20).1, .stmts (fnAt 20).2.1, (fnAt 20).2.2, 3, [], .none, .none, .none, (.str (.ofString "os.path") 1040), none, (.ref 640), .none, 0⟩), #[]⟩
noncomputable def o642 (P : Params) : Obj := ⟨(.type "tuple"), none, (.seq #[] 0), #[]⟩
noncomputable def o643 (P : Params) : Obj := ⟨.none, none, (.fields #[]), #[]⟩
noncomputable def o644 (P : Params) : Obj := ⟨(.type "tuple"), none, (.seq #[(.str (.ofString "p") 1092), (.str (.ofString "sep") 1093), (.str (.ofString "i") 1094), (.str (.ofString "head") 1095)] 0), #[]⟩
noncomputable def o645 (P : Params) : Obj := ⟨(.type "tuple"), none, (.seq #[] 0), #[]⟩
noncomputable def o646 (P : Params) : Obj := ⟨.none, none, (.func ⟨(.ofString "dirname"), (.ofString "dirname"), (fnAt 22).1, .stmts (fnAt 22).2.1, (fnAt 22).2.2, 0, [], .none, .none, .none, .none, none, .none, .none, 0⟩), #[]⟩
noncomputable def o647 (P : Params) : Obj := ⟨(.type "code"), none, (.fields #[(.str (.ofString "dirname") 1089), (.str (.ofString "dirname") 1090), (.str (.ofString "/claim/cut.py") 1091), (.int 477 0), (.int 1 0), (.int 0 0), (.int 0 0), (.int 3 0), (.ref 642), (.bool true), (.int 318 0), (.ref 643), .none, (.ref 644), (.ref 645), (.ref 646), (.int 1096 0), (.int 477 0), (.str (.ofString "/claim/cut.py") 1097)]), #[]⟩
noncomputable def o648 (P : Params) : Obj := ⟨(.type "function"), none, (.func ⟨(.ofString "dirname"), (.ofString "dirname"), (fnAt 22).1, .stmts (fnAt 22).2.1, (fnAt 22).2.2, 3, [], .none, .none, .none, (.str (.ofString "os.path") 1040), none, (.ref 647), .none, 0⟩), #[]⟩
noncomputable def o649 (P : Params) : Obj := ⟨(.type "tuple"), none, (.seq #[] 0), #[]⟩
noncomputable def o650 (P : Params) : Obj := ⟨(.type "builtin_function_or_method"), none, (.fields #[(.builtin "type.__prepare__"), (.type "type")]), #[]⟩
noncomputable def o651 (P : Params) : Obj := ⟨(.type "dict"), none, (.dict #[e P "__module__" 1108 (.str (.ofString "cpy313.shlex") 1099), e P "__qualname__" 1110 (.str (.ofString "shlex") 1109), e P "__firstlineno__" 1112 (.int 486 1111), e P "__init__" 1124 (.ref 663), e P "punctuation_chars" 1132 (.ref 671), e P "push_token" 1140 (.ref 678), e P "push_source" 1149 (.ref 686), e P "pop_source" 1156 (.ref 693), e P "get_token" 1168 (.ref 700), e P "read_token" 1179 (.ref 707), e P "sourcehook" 1187 (.ref 714), e P "error_leader" 1196 (.ref 722), e P "__iter__" 1203 (.ref 729), e P "__next__" 1211 (.ref 736), e P "__static_attributes__" 1232 (.ref 737)] 15), #[]⟩
noncomputable def o652 (P : Params) : Obj := ⟨(.type "tuple"), none, (.seq #[] 0), #[]⟩
noncomputable def o653 (P : Params) : Obj := ⟨.none, none, (.fields #[(.int 488 0), (.int 4 0), (.ref 662), (.int 530 0), (.int 4 0), (.ref 669), (.int 533 0), (.int 4 0), (.ref 677), (.int 536 0), (.int 4 0), (.ref 685), (.int 549 0), (.int 4 0), (.ref 692), (.int 556 0), (.int 4 0), (.ref 699), (.int 583 0), (.int 4 0), (.ref 706), (.int 720 0), (.int 4 0), (.ref 713), (.int 727 0), (.int 4 0), (.ref 721), (.int 730 0), (.int 4 0), (.ref 728), (.int 733 0), (.int 4 0), (.ref 735)]), #[]⟩
noncomputable def o654 (P : Params) : Obj := ⟨(.type "code"), none, (.fields #[(.str (.ofString "shlex") 1103), (.str (.ofString "shlex") 1104), (.str (.ofString "/claim/cut.py") 1105), (.int 486 0), (.int 0 0), (.int 0 0), (.int 0 0), (.int 0 0), (.ref 652), (.bool false), (.int 318 0), (.ref 653), .none, .none, .none, .none, (.int 1106 0), (.int 486 0), (.str (.ofString "/claim/cut.py") 1107)]), #[]⟩
noncomputable def o655 (P : Params) : Obj := ⟨(.type "frame"), none, .plain, #[(some (.ref 654)), (some (.ref 3)), (some (.ref 651)), none, (some (.str (.ofString "cpy313.shlex") 1099)), none, (some (.ref 0))]⟩
noncomputable def o656 (P : Params) : Obj := ⟨(.type "tuple"), none, (.seq #[.none, .none, (.bool false), (.bool false)] 0), #[]⟩
noncomputable def o657 (P : Params) : Obj := ⟨(.type "tuple"), none, (.seq #[] 0), #[]⟩
noncomputable def o658 (P : Params) : Obj := ⟨.none, none, (.fields #[]), #[]⟩
noncomputable def o659 (P : Params) : Obj := ⟨(.type "tuple"), none, (.seq #[(.str (.ofString "self") 1116), (.str (.ofString "instream") 1117), (.str (.ofString "infile") 1118), (.str (.ofString "posix") 1119), (.str (.ofString "punctuation_chars") 1120), (.str (.ofString "t") 1121)] 0), #[]⟩
noncomputable def o660 (P : Params) : Obj := ⟨(.type "tuple"), none, (.seq #[] 0), #[]⟩
noncomputable def o661 (P : Params) : Obj := ⟨.none, none, (.func ⟨(.ofString "__init__"), (.ofString "shlex.__init__"), (fnIn 24 0).1, .stmts (fnIn 24 0).2.1, (fnIn 24 0).2.2, 0, [], .none, .none, .none, .none, none, .none, .none, 0⟩), #[]⟩
noncomputable def o662 (P : Params) : Obj := ⟨(.type "code"), none, (.fields #[(.str (.ofString "__init__") 1113), (.str (.ofString "shlex.__init__") 1114), (.str (.ofString "/claim/cut.py") 1115), (.int 488 0), (.int 5 0), (.int 0 0), (.int 0 0), (.int 3 0), (.ref 657), (.bool true), (.int 318 0), (.ref 658), .none, (.ref 659), (.ref 660), (.ref 661), (.int 1122 0), (.int 488 0), (.str (.ofString "/claim/cut.py") 1123)]), #[]⟩
noncomputable def o663 (P : Params) : Obj := ⟨(.type "function"), none, (.func ⟨(.ofString "__init__"), (.ofString "shlex.__init__"), (fnIn 24 0).1, .stmts (fnIn 24 0).2.1, (fnIn 24 0).2.2, 3, [], (.ref 656), .none, .none, (.str (.ofString "cpy313.shlex") 1099), none, (.ref 662), .none, 0⟩), #[]⟩
noncomputable def o664 (P : Params) : Obj := ⟨(.type "tuple"), none, (.seq #[] 0), #[]⟩
noncomputable def o665 (P : Params) : Obj := ⟨.none, none, (.fields #[]), #[]⟩
noncomputable def o666 (P : Params) : Obj := ⟨(.type "tuple"), none, (.seq #[(.str (.ofString "self") 1128)] 0), #[]⟩
noncomputable def o667 (P : Params) : Obj := ⟨(.type "tuple"), none, (.seq #[] 0), #[]⟩
noncomputable def o668 (P : Params) : Obj := ⟨.none, none, (.func ⟨(.ofString "punctuation_chars"), (.ofString "shlex.punctuation_chars"), (fnIn 24 1).1, .stmts (fnIn 24 1).2.1, (fnIn 24 1).2.2, 0, [], .none, .none, .none, .none, none, .none, .none, 0⟩), #[]⟩
noncomputable def o669 (P : Params) : Obj := ⟨(.type "code"), none, (.fields #[(.str (.ofString "punctuation_chars") 1125), (.str (.ofString "shlex.punctuation_chars") 1126), (.str (.ofString "/claim/cut.py") 1127), (.int 529 0), (.int 1 0), (.int 0 0), (.int 0 0), (.int 3 0), (.ref 664), (.bool true), (.int 318 0), (.ref 665), .none, (.ref 666), (.ref 667), (.ref 668), (.int 1129 0), (.int 529 0), (.str (.ofString "/claim/cut.py") 1130)]), #[]⟩
noncomputable def o670 (P : Params) : Obj := ⟨(.type "function"), none, (.func ⟨(.ofString "punctuation_chars"), (.ofString "shlex.punctuation_chars"), (fnIn 24 1).1, .stmts (fnIn 24 1).2.1, (fnIn 24 1).2.2, 3, [], .none, .none, .none, (.str (.ofString "cpy313.shlex") 1099), none, (.ref 669), .none, 0⟩), #[]⟩
noncomputable def o671 (P : Params) : Obj := ⟨(.type "property"), none, (.fields #[(.ref 670), .none, .none, .none, (.str (.ofString "punctuation_chars") 1132), (.bool false)]), #[]⟩
noncomputable def o672 (P : Params) : Obj := ⟨(.type "tuple"), none, (.seq #[] 0), #[]⟩
noncomputable def o673 (P : Params) : Obj := ⟨.none, none, (.fields #[]), #[]⟩
noncomputable def o674 (P : Params) : Obj := ⟨(.type "tuple"), none, (.seq #[(.str (.ofString "self") 1136), (.str (.ofString "tok") 1137)] 0), #[]⟩
noncomputable def o675 (P : Params) : Obj := ⟨(.type "tuple"), none, (.seq #[] 0), #[]⟩
noncomputable def o676 (P : Params) : Obj := ⟨.none, none, (.func ⟨(.ofString "push_token"), (.ofString "shlex.push_token"), (fnIn 24 2).1, .stmts (fnIn 24 2).2.1, (fnIn 24 2).2.2, 0, [], .none, .none, .none, .none, none, .none, .none, 0⟩), #[]⟩
noncomputable def o677 (P : Params) : Obj := ⟨(.type "code"), none, (.fields #[(.str (.ofString "push_token") 1133), (.str (.ofString "shlex.push_token") 1134), (.str (.ofString "/claim/cut.py") 1135), (.int 533 0), (.int 2 0), (.int 0 0), (.int 0 0), (.int 3 0), (.ref 672), (.bool true), (.int 318 0), (.ref 673), .none, (.ref 674), (.ref 675), (.ref 676), (.int 1138 0), (.int 533 0), (.str (.ofString "/claim/cut.py") 1139)]), #[]⟩
noncomputable def o678 (P : Params) : Obj := ⟨(.type "function"), none, (.func ⟨(.ofString "push_token"), (.ofString "shlex.push_token"), (fnIn 24 2).1, .stmts (fnIn 24 2).2.1, (fnIn 24 2).2.2, 3, [], .none, .none, .none, (.str (.ofString "cpy313.shlex") 1099), none, (.ref 677), .none, 0⟩), #[]⟩
noncomputable def o679 (P : Params) : Obj := ⟨(.type "tuple"), none, (.seq #[.none] 0), #[]⟩
noncomputable def o680 (P : Params) : Obj := ⟨(.type "tuple"), none, (.seq #[] 0), #[]⟩
noncomputable def o681 (P : Params) : Obj := ⟨.none, none, (.fields #[]), #[]⟩
noncomputable def o682 (P : Params) : Obj := ⟨(.type "tuple"), none, (.seq #[(.str (.ofString "self") 1144), (.str (.ofString "newstream") 1145), (.str (.ofString "newfile") 1146)] 0), #[]⟩
noncomputable def o683 (P : Params) : Obj := ⟨(.type "tuple"), none, (.seq #[] 0), #[]⟩
noncomputable def o684 (P : Params) : Obj := ⟨.none, none, (.func ⟨(.ofString "push_source"), (.ofString "shlex.push_source"), (fnIn 24 3).1, .stmts (fnIn 24 3).2.1, (fnIn 24 3).2.2, 0, [], .none, .none, .none, .none, none, .none, .none, 0⟩), #[]⟩
noncomputable def o685 (P : Params) : Obj := ⟨(.type "code"), none, (.fields #[(.str (.ofString "push_source") 1141), (.str (.ofString "shlex.push_source") 1142), (.str (.ofString "/claim/cut.py") 1143), (.int 536 0), (.int 3 0), (.int 0 0), (.int 0 0), (.int 3 0), (.ref 680), (.bool true), (.int 318 0), (.ref 681), .none, (.ref 682), (.ref 683), (.ref 684), (.int 1147 0), (.int 536 0), (.str (.ofString "/claim/cut.py") 1148)]), #[]⟩
noncomputable def o686 (P : Params) : Obj := ⟨(.type "function"), none, (.func ⟨(.ofString "push_source"), (.ofString "shlex.push_source"), (fnIn 24 3).1, .stmts (fnIn 24 3).2.1, (fnIn 24 3).2.2, 3, [], (.ref 679), .none, .none, (.str (.ofString "cpy313.shlex") 1099), none, (.ref 685), .none, 0⟩), #[]⟩
noncomputable def o687 (P : Params) : Obj := ⟨(.type "tuple"), none, (.seq #[] 0), #[]⟩
noncomputable def o688 (P : Params) : Obj := ⟨.none, none, (.fields #[]), #[]⟩
noncomputable def o689 (P : Params) : Obj := ⟨(.type "tuple"), none, (.seq #[(.str (.ofString "self") 1153)] 0), #[]⟩
noncomputable def o690 (P : Params) : Obj := ⟨(.type "tuple"), none, (.seq #[] 0), #[]⟩
noncomputable def o691 (P : Params) : Obj := ⟨.none, none, (.func ⟨(.ofString "pop_source"), (.ofString "shlex.pop_source"), (fnIn 24 4).1, .stmts (fnIn 24 4).2.1, (fnIn 24 4).2.2, 0, [], .none, .none, .none, .none, none, .none, .none, 0⟩), #[]⟩
noncomputable def o692 (P : Params) : Obj := ⟨(.type "code"), none, (.fields #[(.str (.ofString "pop_source") 1150), (.str (.ofString "shlex.pop_source") 1151), (.str (.ofString "/claim/cut.py") 1152), (.int 549 0), (.int 1 0), (.int 0 0), (.int 0 0), (.int 3 0), (.ref 687), (.bool true), (.int 318 0), (.ref 688), .none, (.ref 689), (.ref 690), (.ref 691), (.int 1154 0), (.int 549 0), (.str (.ofString "/claim/cut.py") 1155)]), #[]⟩
noncomputable def o693 (P : Params) : Obj := ⟨(.type "function"), none, (.func ⟨(.ofString "pop_source"), (.ofString "shlex.pop_source"), (fnIn 24 4).1, .stmts (fnIn 24 4).2.1, (fnIn 24 4).2.2, 3, [], .none, .none, .none, (.str (.ofString "cpy313.shlex") 1099), none, (.ref 692), .none, 0⟩), #[]⟩
noncomputable def o694 (P : Params) : Obj := ⟨(.type "tuple"), none, (.seq #[] 0), #[]⟩
noncomputable def o695 (P : Params) : Obj := ⟨.none, none, (.fields #[]), #[]⟩
noncomputable def o696 (P : Params) : Obj := ⟨(.type "tuple"), none, (.seq #[(.str (.ofString "self") 1160), (.str (.ofString "tok") 1161), (.str (.ofString "raw") 1162), (.str (.ofString "spec") 1163), (.str (.ofString "newfile") 1164), (.str (.ofString "newstream") 1165)] 0), #[]⟩
noncomputable def o697 (P : Params) : Obj := ⟨(.type "tuple"), none, (.seq #[] 0), #[]⟩
noncomputable def o698 (P : Params) : Obj := ⟨.none, none, (.func ⟨(.ofString "get_token"), (.ofString "shlex.get_token"), (fnIn 24 5).1, .stmts (fnIn 24 5).2.1, (fnIn 24 5).2.2, 0, [], .none, .none, .none, .none, none, .none, .none, 0⟩), #[]⟩
noncomputable def o699 (P : Params) : Obj := ⟨(.type "code"), none, (.fields #[(.str (.ofString "get_token") 1157), (.str (.ofString "shlex.get_token") 1158), (.str (.ofString "/claim/cut.py") 1159), (.int 556 0), (.int 1 0), (.int 0 0), (.int 0 0), (.int 3 0), (.ref 694), (.bool true), (.int 318 0), (.ref 695), .none, (.ref 696), (.ref 697), (.ref 698), (.int 1166 0), (.int 556 0), (.str (.ofString "/claim/cut.py") 1167)]), #[]⟩
noncomputable def o700 (P : Params) : Obj := ⟨(.type "function"), none, (.func ⟨(.ofString "get_token"), (.ofString "shlex.get_token"), (fnIn 24 5).1, .stmts (fnIn 24 5).2.1, (fnIn 24 5).2.2, 3, [], .none, .none, .none, (.str (.ofString "cpy313.shlex") 1099), none, (.ref 699), .none, 0⟩), #[]⟩
noncomputable def o701 (P : Params) : Obj := ⟨(.type "tuple"), none, (.seq #[] 0), #[]⟩
noncomputable def o702 (P : Params) : Obj := ⟨.none, none, (.fields #[]), #[]⟩
noncomputable def o703 (P : Params) : Obj := ⟨(.type "tuple"), none, (.seq #[(.str (.ofString "self") 1172), (.str (.ofString "quoted") 1173), (.str (.ofString "escapedstate") 1174), (.str (.ofString "nextchar") 1175), (.str (.ofString "result") 1176)] 0), #[]⟩
noncomputable def o704 (P : Params) : Obj := ⟨(.type "tuple"), none, (.seq #[] 0), #[]⟩
noncomputable def o705 (P : Params) : Obj := ⟨.none, none, (.func ⟨(.ofString "read_token"), (.ofString "shlex.read_token"), (fnIn 24 6).1, .stmts (fnIn 24 6).2.1, (fnIn 24 6).2.2, 0, [], .none, .none, .none, .none, none, .none, .none, 0⟩), #[]⟩
noncomputable def o706 (P : Params) : Obj := ⟨(.type "code"), none, (.fields #[(.str (.ofString "read_token") 1169), (.str (.ofString "shlex.read_token") 1170), (.str (.ofString "/claim/cut.py") 1171), (.int 583 0), (.int 1 0), (.int 0 0), (.int 0 0), (.int 3 0), (.ref 701), (.bool true), (.int 318 0), (.ref 702), .none, (.ref 703), (.ref 704), (.ref 705), (.int 1177 0), (.int 583 0), (.str (.ofString "/claim/cut.py") 1178)]), #[]⟩
noncomputable def o707 (P : Params) : Obj := ⟨(.type "function"), none, (.func ⟨(.ofString "read_token"), (.ofString "shlex.read_token"), (fnIn 24 6).1, .stmts (fnIn 24 6).2.1, (fnIn 24 6).2.2, 3, [], .none, .none, .none, (.str (.ofString "cpy313.shlex") 1099), none, (.ref 706), .none, 0⟩), #[]⟩
noncomputable def o708 (P : Params) : Obj := ⟨(.type "tuple"), none, (.seq #[] 0), #[]⟩
noncomputable def o709 (P : Params) : Obj := ⟨.none, none, (.fields #[]), #[]⟩
noncomputable def o710 (P : Params) : Obj := ⟨(.type "tuple"), none, (.seq #[(.str (.ofString "self") 1183), (.str (.ofString "newfile") 1184)] 0), #[]⟩
noncomputable def o711 (P : Params) : Obj := ⟨(.type "tuple"), none, (.seq #[] 0), #[]⟩
noncomputable def o712 (P : Params) : Obj := ⟨.none, none, (.func ⟨(.ofString "sourcehook"), (.ofString "shlex.sourcehook"), (fnIn 24 7).1, .stmts (fnIn 24 7).2.1, (fnIn 24 7).2.2, 0, [], .none, .none, .none, .none, none, .none, .none, 0⟩), #[]⟩
noncomputable def o713 (P : Params) : Obj := ⟨(.type "code"), none, (.fields #[(.str (.ofString "sourcehook") 1180), (.str (.ofString "shlex.sourcehook") 1181), (.str (.ofString "/claim/cut.py") 1182), (.int 720 0), (.int 2 0), (.int 0 0), (.int 0 0), (.int 3 0), (.ref 708), (.bool true), (.int 318 0), (.ref 709), .none, (.ref 710), (.ref 711), (.ref 712), (.int 1185 0), (.int 720 0), (.str (.ofString "/claim/cut.py") 1186)]), #[]⟩
noncomputable def o714 (P : Params) : Obj := ⟨(.type "function"), none, (.func ⟨(.ofString "sourcehook"), (.ofString "shlex.sourcehook"), (fnIn 24 7).1, .stmts (fnIn 24 7).2.1, (fnIn 24 7).2.2, 3, [], .none, .none, .none, (.str (.ofString "cpy313.shlex") 1099), none, (.ref 713), .none, 0⟩), #[]⟩
noncomputable def o715 (P : Params) : Obj := ⟨(.type "tuple"), none, (.seq #[.none, .none] 0), #[]⟩
noncomputable def o716 (P : Params) : Obj := ⟨(.type "tuple"), none, (.seq #[] 0), #[]⟩
noncomputable def o717 (P : Params) : Obj := ⟨.none, none, (.fields #[]), #[]⟩
noncomputable def o718 (P : Params) : Obj := ⟨(.type "tuple"), none, (.seq #[(.str (.ofString "self") 1191), (.str (.ofString "infile") 1192), (.str (.ofString "lineno") 1193)] 0), #[]⟩
noncomputable def o719 (P : Params) : Obj := ⟨(.type "tuple"), none, (.seq #[] 0), #[]⟩
noncomputable def o720 (P : Params) : Obj := ⟨.none, none, (.func ⟨(.ofString "error_leader"), (.ofString "shlex.error_leader"), (fnIn 24 8).1, .stmts (fnIn 24 8).2.1, (fnIn 24 8).2.2, 0, [], .none, .none, .none, .none, none, .none, .none, 0⟩), #[]⟩
noncomputable def o721 (P : Params) : Obj := ⟨(.type "code"), none, (.fields #[(.str (.ofString "error_leader") 1188), (.str (.ofString "shlex.error_leader") 1189), (.str (.ofString "/claim/cut.py") 1190), (.int 727 0), (.int 3 0), (.int 0 0), (.int 0 0), (.int 3 0), (.ref 716), (.bool true), (.int 318 0), (.ref 717), .none, (.ref 718), (.ref 719), (.ref 720), (.int 1194 0), (.int 727 0), (.str (.ofString "/claim/cut.py") 1195)]), #[]⟩
noncomputable def o722 (P : Params) : Obj := ⟨(.type "function"), none, (.func ⟨(.ofString "error_leader"), (.ofString "shlex.error_leader"), (fnIn 24 8).1, .stmts (fnIn 24 8).2.1, (fnIn 24 8).2.2, 3, [], (.ref 715), .none, .none, (.str (.ofString "cpy313.shlex") 1099), none, (.ref 721), .none, 0⟩), #[]⟩
noncomputable def o723 (P : Params) : Obj := ⟨(.type "tuple"), none, (.seq #[] 0), #[]⟩
noncomputable def o724 (P : Params) : Obj := ⟨.none, none, (.fields #[]), #[]⟩
noncomputable def o725 (P : Params) : Obj := ⟨(.type "tuple"), none, (.seq #[(.str (.ofString "self") 1200)] 0), #[]⟩
noncomputable def o726 (P : Params) : Obj := ⟨(.type "tuple"), none, (.seq #[] 0), #[]⟩
noncomputable def o727 (P : Params) : Obj := ⟨.none, none, (.func ⟨(.ofString "__iter__"), (.ofString "shlex.__iter__"), (fnIn 24 9).1, .stmts (fnIn 24 9).2.1, (fnIn 24 9).2.2, 0, [], .none, .none, .none, .none, none, .none, .none, 0⟩), #[]⟩
noncomputable def o728 (P : Params) : Obj := ⟨(.type "code"), none, (.fields #[(.str (.ofString "__iter__") 1197), (.str (.ofString "shlex.__iter__") 1198), (.str (.ofString "/claim/cut.py") 1199), (.int 730 0), (.int 1 0), (.int 0 0), (.int 0 0), (.int 3 0), (.ref 723), (.bool true), (.int 318 0), (.ref 724), .none, (.ref 725), (.ref 726), (.ref 727), (.int 1201 0), (.int 730 0), (.str (.ofString "/claim/cut.py") 1202)]), #[]⟩
noncomputable def o729 (P : Params) : Obj := ⟨(.type "function"), none, (.func ⟨(.ofString "__iter__"), (.ofString "shlex.__iter__"), (fnIn 24 9).1, .stmts (fnIn 24 9).2.1, (fnIn 24 9).2.2, 3, [], .none, .none, .none, (.str (.ofString "cpy313.shlex") 1099), none, (.ref 728), .none, 0⟩), #[]⟩
noncomputable def o730 (P : Params) : Obj := ⟨(.type "tuple"), none, (.seq #[] 0), #[]⟩
noncomputable def o731 (P : Params) : Obj := ⟨.none, none, (.fields #[]), #[]⟩
noncomputable def o732 (P : Params) : Obj := ⟨(.type "tuple"), none, (.seq #[(.str (.ofString "self") 1207), (.str (.ofString "token") 1208)] 0), #[]⟩
noncomputable def o733 (P : Params) : Obj := ⟨(.type "tuple"), none, (.seq #[] 0), #[]⟩
noncomputable def o734 (P : Params) : Obj := ⟨.none, none, (.func ⟨(.ofString "__next__"), (.ofString "shlex.__next__"), (fnIn 24 10).1, .stmts (fnIn 24 10).2.1, (fnIn 24 10).2.2, 0, [], .none, .none, .none, .none, none, .none, .none, 0⟩), #[]⟩
noncomputable def o735 (P : Params) : Obj := ⟨(.type "code"), none, (.fields #[(.str (.ofString "__next__") 1204), (.str (.ofString "shlex.__next__") 1205), (.str (.ofString "/claim/cut.py") 1206), (.int 733 0), (.int 1 0), (.int 0 0), (.int 0 0), (.int 3 0), (.ref 730), (.bool true), (.int 318 0), (.ref 731), .none, (.ref 732), (.ref 733), (.ref 734), (.int 1209 0), (.int 733 0), (.str (.ofString "/claim/cut.py") 1210)]), #[]⟩
noncomputable def o736 (P : Params) : Obj := ⟨(.type "function"), none, (.func ⟨(.ofString "__next__"), (.ofString "shlex.__next__"), (fnIn 24 10).1, .stmts (fnIn 24 10).2.1, (fnIn 24 10).2.2, 3, [], .none, .none, .none, (.str (.ofString "cpy313.shlex") 1099), none, (.ref 735), .none, 0⟩), #[]⟩
noncomputable def o737 (P : Params) : Obj := ⟨(.type "tuple"), none, (.seq #[(.str (.ofString "_punctuation_chars") 1212), (.str (.ofString "_pushback_chars") 1213), (.str (.ofString "commenters") 1214), (.str (.ofString "debug") 1215), (.str (.ofString "eof") 1216), (.str (.ofString "escape") 1217), (.str (.ofString "escapedquotes") 1218), (.str (.ofString "filestack") 1219), (.str (.ofString "infile") 1220), (.str (.ofString "instream") 1221), (.str (.ofString "lineno") 1222), (.str (.ofString "posix") 1223), (.str (.ofString "pushback") 1224), (.str (.ofString "quotes") 1225), (.str (.ofString "source") 1226), (.str (.ofString "state") 1227), (.str (.ofString "token") 1228), (.str (.ofString "whitespace") 1229), (.str (.ofString "whitespace_split") 1230), (.str (.ofString "wordchars") 1231)] 0), #[]⟩
noncomputable def o738 (P : Params) : Obj := ⟨(.type "dict"), none, (.dict #[e P "__module__" 1108 (.str (.ofString "cpy313.shlex") 1099), e P "__firstlineno__" 1112 (.int 486 1111), e P "__init__" 1124 (.ref 663), e P "punctuation_chars" 1132 (.ref 671), e P "push_token" 1140 (.ref 678), e P "push_source" 1149 (.ref 686), e P "pop_source" 1156 (.ref 693), e P "get_token" 1168 (.ref 700), e P "read_token" 1179 (.ref 707), e P "sourcehook" 1187 (.ref 714), e P "error_leader" 1196 (.ref 722), e P "__iter__" 1203 (.ref 729), e P "__next__" 1211 (.ref 736), e P "__static_attributes__" 1232 (.ref 737), e P "__dict__" 1234 (.ref 740), e P "__weakref__" 1236 (.ref 741), e P "__doc__" 1237 .none] 4), #[]⟩
noncomputable def o739 (P : Params) : Obj := ⟨(.type "type"), none, (.cls ⟨(.ofString "shlex"), [(.type "object")], [(.ref 739), (.type "object")], 738, (.ofString "shlex"), true, [], [], false, none, false⟩), #[none, none, (some (.str (.ofString "shlex") 1101)), (some (.str (.ofString "shlex") 1109)), (some (.builtin "object.__new__")), (some (.bool true))]⟩
noncomputable def o740 (P : Params) : Obj := ⟨(.type "getset_descriptor"), none, (.fields #[(.str (.ofString "__dict__") 1233), (.ref 739), (.builtin "function.__dict__"), (.builtin "function.__dict__#set")]), #[]⟩
noncomputable def o741 (P : Params) : Obj := ⟨(.type "getset_descriptor"), none, (.fields #[(.str (.ofString "__weakref__") 1235), (.ref 739), (.builtin "ExceptionGroup.__weakref__"), .none]), #[]⟩
noncomputable def o742 (P : Params) : Obj := ⟨(.type "super"), none, (.fields #[(.ref 739), (.ref 739), (.ref 739)]), #[]⟩
noncomputable def o743 (P : Params) : Obj := ⟨(.type "builtin_function_or_method"), none, (.fields #[(.builtin "object.__init_subclass__"), (.ref 739)]), #[]⟩
noncomputable def t3 (P : Params) : BT := (.node (o0 P) (.node (o1 P) (.node (o3v4 P) (.node (o7 P) (.node (o15 P) (.node (o31 P) (.node (o63 P) (.node (o127v1 P) (.node (o255 P) (.node (o511 P) .nil .nil) .nil) (.node (o383 P) (.node (o639 P) .nil .nil) .nil)) (.node (o191 P) (.node (o319 P) (.node (o575 P) .nil .nil) .nil) (.node (o447 P) (.node (o703 P) .nil .nil) .nil))) (.node (o95 P) (.node (o159 P) (.node (o287 P) (.node (o543 P) .nil .nil) .nil) (.node (o415 P) (.node (o671 P) .nil .nil) .nil)) (.node (o223 P) (.node (o351 P) (.node (o607 P) .nil .nil) .nil) (.node (o479 P) (.node (o735 P) .nil .nil) .nil)))) (.node (o47 P) (.node (o79 P) (.node (o143 P) (.node (o271 P) (.node (o527 P) .nil .nil) .nil) (.node (o399 P) (.node (o655 P) .nil .nil) .nil)) (.node (o207 P) (.node (o335 P) (.node (o591 P) .nil .nil) .nil) (.node (o463 P) (.node (o719 P) .nil .nil) .nil))) (.node (o111 P) (.node (o175 P) (.node (o303 P) (.node (o559 P) .nil .nil) .nil) (.node (o431 P) (.node (o687 P) .nil .nil) .nil)) (.node (o239 P) (.node (o367 P) (.node (o623 P) .nil .nil) .nil) (.node (o495 P) .nil .nil))))) (.node (o23 P) (.node (o39 P) (.node (o71 P) (.node (o135 P) (.node (o263 P) (.node (o519 P) .nil .nil) .nil) (.node (o391 P) (.node (o647 P) .nil .nil) .nil)) (.node (o199 P) (.node (o327 P) (.node (o583 P) .nil .nil) .nil) (.node (o455 P) (.node (o711 P) .nil .nil) .nil))) (.node (o103 P) (.node (o167 P) (.node (o295 P) (.node (o551 P) .nil .nil) .nil) (.node (o423 P) (.node (o679 P) .nil .nil) .nil)) (.node (o231 P) (.node (o359 P) (.node (o615 P) .nil .nil) .nil) (.node (o487 P) (.node (o743 P) .nil .nil) .nil)))) (.node (o55 P) (.node (o87 P) (.node (o151 P) (.node (o279 P) (.node (o535 P) .nil .nil) .nil) (.node (o407 P) (.node (o663 P) .nil .nil) .nil)) (.node (o215 P) (.node (o343 P) (.node (o599 P) .nil .nil) .nil) (.node (o471 P) (.node (o727 P) .nil .nil) .nil))) (.node (o119 P) (.node (o183 P) (.node (o311 P) (.node (o567 P) .nil .nil) .nil) (.node (o439 P) (.node (o695 P) .nil .nil) .nil)) (.node (o247 P) (.node (o375 P) (.node (o631 P) .nil .nil) .nil) (.node (o503 P) .nil .nil)))))) (.node (o11v1 P) (.node (o19 P) (.node (o35v4 P) (.node (o67 P) (.node (o131 P) (.node (o259 P) (.node (o515 P) .nil .nil) .nil) (.node (o387 P) (.node (o643 P) .nil .nil) .nil)) (.node (o195 P) (.node (o323 P) (.node (o579 P) .nil .nil) .nil) (.node (o451 P) (.node (o707 P) .nil .nil) .nil))) (.node (o99 P) (.node (o163 P) (.node (o291 P) (.node (o547 P) .nil .nil) .nil) (.node (o419 P) (.node (o675 P) .nil .nil) .nil)) (.node (o227 P) (.node (o355 P) (.node (o611 P) .nil .nil) .nil) (.node (o483 P) (.node (o739 P) .nil .nil) .nil)))) (.node (o51 P) (.node (o83 P) (.node (o147 P) (.node (o275 P) (.node (o531 P) .nil .nil) .nil) (.node (o403 P) (.node (o659 P) .nil .nil) .nil)) (.node (o211 P) (.node (o339 P) (.node (o595 P) .nil .nil) .nil) (.node (o467 P) (.node (o723 P) .nil .nil) .nil))) (.node (o115v1 P) (.node (o179 P) (.node (o307 P) (.node (o563 P) .nil .nil) .nil) (.node (o435 P) (.node (o691 P) .nil .nil) .nil)) (.node (o243 P) (.node (o371 P) (.node (o627 P) .nil .nil) .nil) (.node (o499 P) .nil .nil))))) (.node (o27 P) (.node (o43 P) (.node (o75 P) (.node (o139 P) (.node (o267 P) (.node (o523 P) .nil .nil) .nil) (.node (o395 P) (.node (o651 P) .nil .nil) .nil)) (.node (o203 P) (.node (o331 P) (.node (o587 P) .nil .nil) .nil) (.node (o459 P) (.node (o715 P) .nil .nil) .nil))) (.node (o107 P) (.node (o171 P) (.node (o299 P) (.node (o555 P) .nil .nil) .nil) (.node (o427 P) (.node (o683 P) .nil .nil) .nil)) (.node (o235 P) (.node (o363 P) (.node (o619 P) .nil .nil) .nil) (.node (o491 P) .nil .nil)))) (.node (o59 P) (.node (o91 P) (.node (o155 P) (.node (o283 P) (.node (o539 P) .nil .nil) .nil) (.node (o411 P) (.node (o667 P) .nil .nil) .nil)) (.node (o219 P) (.node (o347 P) (.node (o603 P) .nil .nil) .nil) (.node (o475 P) (.node (o731 P) .nil .nil) .nil))) (.node (o123 P) (.node (o187 P) (.node (o315 P) (.node (o571 P) .nil .nil) .nil) (.node (o443 P) (.node (o699 P) .nil .nil) .nil)) (.node (o251 P) (.node (o379 P) (.node (o635 P) .nil .nil) .nil) (.node (o507 P) .nil .nil))))))) (.node (o5 P) (.node (o9 P) (.node (o17 P) (.node (o33 P) (.node (o65 P) (.node (o129 P) (.node (o257 P) (.node (o513 P) .nil .nil) .nil) (.node (o385 P) (.node (o641 P) .nil .nil) .nil)) (.node (o193 P) (.node (o321 P) (.node (o577 P) .nil .nil) .nil) (.node (o449 P) (.node (o705 P) .nil .nil) .nil))) (.node (o97 P) (.node (o161 P) (.node (o289 P) (.node (o545 P) .nil .nil) .nil) (.node (o417 P) (.node (o673 P) .nil .nil) .nil)) (.node (o225 P) (.node (o353 P) (.node (o609 P) .nil .nil) .nil) (.node (o481 P) (.node (o737 P) .nil .nil) .nil)))) (.node (o49 P) (.node (o81 P) (.node (o145 P) (.node (o273 P) (.node (o529 P) .nil .nil) .nil) (.node (o401 P) (.node (o657 P) .nil .nil) .nil)) (.node (o209 P) (.node (o337 P) (.node (o593 P) .nil .nil) .nil) (.node (o465 P) (.node (o721 P) .nil .nil) .nil))) (.node (o113 P) (.node (o177 P) (.node (o305 P) (.node (o561 P) .nil .nil) .nil) (.node (o433 P) (.node (o689 P) .nil .nil) .nil)) (.node (o241 P) (.node (o369 P) (.node (o625 P) .nil .nil) .nil) (.node (o497 P) .nil .nil))))) (.node (o25 P) (.node (o41 P) (.node (o73 P) (.node (o137 P) (.node (o265 P) (.node (o521 P) .nil .nil) .nil) (.node (o393 P) (.node (o649 P) .nil .nil) .nil)) (.node (o201 P) (.node (o329 P) (.node (o585 P) .nil .nil) .nil) (.node (o457 P) (.node (o713 P) .nil .nil) .nil))) (.node (o105 P) (.node (o169 P) (.node (o297 P) (.node (o553 P) .nil .nil) .nil) (.node (o425 P) (.node (o681 P) .nil .nil) .nil)) (.node (o233 P) (.node (o361 P) (.node (o617 P) .nil .nil) .nil) (.node (o489 P) .nil .nil)))) (.node (o57 P) (.node (o89 P) (.node (o153 P) (.node (o281 P) (.node (o537 P) .nil .nil) .nil) (.node (o409 P) (.node (o665 P) .nil .nil) .nil)) (.node (o217 P) (.node (o345 P) (.node (o601 P) .nil .nil) .nil) (.node (o473 P) (.node (o729 P) .nil .nil) .nil))) (.node (o121 P) (.node (o185 P) (.node (o313 P) (.node (o569 P) .nil .nil) .nil) (.node (o441 P) (.node (o697 P) .nil .nil) .nil)) (.node (o249 P) (.node (o377 P) (.node (o633 P) .nil .nil) .nil) (.node (o505 P) .nil .nil)))))) (.node (o13 P) (.node (o21 P) (.node (o37 P) (.node (o69 P) (.node (o133 P) (.node (o261 P) (.node (o517 P) .nil .nil) .nil) (.node (o389 P) (.node (o645 P) .nil .nil) .nil)) (.node (o197 P) (.node (o325 P) (.node (o581 P) .nil .nil) .nil) (.node (o453 P) (.node (o709 P) .nil .nil) .nil))) (.node (o101 P) (.node (o165 P) (.node (o293 P) (.node (o549 P) .nil .nil) .nil) (.node (o421 P) (.node (o677 P) .nil .nil) .nil)) (.node (o229 P) (.node (o357 P) (.node (o613 P) .nil .nil) .nil) (.node (o485 P) (.node (o741 P) .nil .nil) .nil)))) (.node (o53 P) (.node (o85 P) (.node (o149 P) (.node (o277 P) (.node (o533 P) .nil .nil) .nil) (.node (o405 P) (.node (o661 P) .nil .nil) .nil)) (.node (o213 P) (.node (o341 P) (.node (o597 P) .nil .nil) .nil) (.node (o469 P) (.node (o725 P) .nil .nil) .nil))) (.node (o117 P) (.node (o181 P) (.node (o309 P) (.node (o565 P) .nil .nil) .nil) (.node (o437 P) (.node (o693 P) .nil .nil) .nil)) (.node (o245 P) (.node (o373 P) (.node (o629 P) .nil .nil) .nil) (.node (o501 P) .nil .nil))))) (.node (o29v1 P) (.node (o45 P) (.node (o77 P) (.node (o141 P) (.node (o269 P) (.node (o525 P) .nil .nil) .nil) (.node (o397 P) (.node (o653 P) .nil .nil) .nil)) (.node (o205 P) (.node (o333 P) (.node (o589 P) .nil .nil) .nil) (.node (o461 P) (.node (o717 P) .nil .nil) .nil))) (.node (o109 P) (.node (o173 P) (.node (o301 P) (.node (o557 P) .nil .nil) .nil) (.node (o429 P) (.node (o685 P) .nil .nil) .nil)) (.node (o237 P) (.node (o365 P) (.node (o621 P) .nil .nil) .nil) (.node (o493 P) .nil .nil)))) (.node (o61 P) (.node (o93 P) (.node (o157 P) (.node (o285 P) (.node (o541 P) .nil .nil) .nil) (.node (o413 P) (.node (o669 P) .nil .nil) .nil)) (.node (o221 P) (.node (o349 P) (.node (o605 P) .nil .nil) .nil) (.node (o477 P) (.node (o733 P) .nil .nil) .nil))) (.node (o125 P) (.node (o189 P) (.node (o317 P) (.node (o573 P) .nil .nil) .nil) (.node (o445 P) (.node (o701 P) .nil .nil) .nil)) (.node (o253 P) (.node (o381 P) (.node (o637 P) .nil .nil) .nil) (.node (o509 P) .nil .nil)))))))) (.node (o2v1 P) (.node (o4 P) (.node (o8 P) (.node (o16 P) (.node (o32 P) (.node (o64 P) (.node (o128 P) (.node (o256 P) (.node (o512 P) .nil .nil) .nil) (.node (o384 P) (.node (o640 P) .nil .nil) .nil)) (.node (o192 P) (.node (o320 P) (.node (o576 P) .nil .nil) .nil) (.node (o448 P) (.node (o704 P) .nil .nil) .nil))) (.node (o96 P) (.node (o160 P) (.node (o288 P) (.node (o544 P) .nil .nil) .nil) (.node (o416 P) (.node (o672 P) .nil .nil) .nil)) (.node (o224 P) (.node (o352 P) (.node (o608 P) .nil .nil) .nil) (.node (o480 P) (.node (o736 P) .nil .nil) .nil)))) (.node (o48 P) (.node (o80 P) (.node (o144 P) (.node (o272 P) (.node (o528 P) .nil .nil) .nil) (.node (o400 P) (.node (o656 P) .nil .nil) .nil)) (.node (o208 P) (.node (o336 P) (.node (o592 P) .nil .nil) .nil) (.node (o464 P) (.node (o720 P) .nil .nil) .nil))) (.node (o112 P) (.node (o176 P) (.node (o304 P) (.node (o560 P) .nil .nil) .nil) (.node (o432 P) (.node (o688 P) .nil .nil) .nil)) (.node (o240 P) (.node (o368 P) (.node (o624 P) .nil .nil) .nil) (.node (o496 P) .nil .nil))))) (.node (o24 P) (.node (o40 P) (.node (o72 P) (.node (o136 P) (.node (o264 P) (.node (o520 P) .nil .nil) .nil) (.node (o392 P) (.node (o648 P) .nil .nil) .nil)) (.node (o200 P) (.node (o328 P) (.node (o584 P) .nil .nil) .nil) (.node (o456 P) (.node (o712 P) .nil .nil) .nil))) (.node (o104 P) (.node (o168 P) (.node (o296 P) (.node (o552 P) .nil .nil) .nil) (.node (o424 P) (.node (o680 P) .nil .nil) .nil)) (.node (o232 P) (.node (o360 P) (.node (o616 P) .nil .nil) .nil) (.node (o488 P) .nil .nil)))) (.node (o56 P) (.node (o88 P) (.node (o152 P) (.node (o280 P) (.node (o536 P) .nil .nil) .nil) (.node (o408 P) (.node (o664 P) .nil .nil) .nil)) (.node (o216 P) (.node (o344 P) (.node (o600 P) .nil .nil) .nil) (.node (o472 P) (.node (o728 P) .nil .nil) .nil))) (.node (o120 P) (.node (o184 P) (.node (o312 P) (.node (o568 P) .nil .nil) .nil) (.node (o440 P) (.node (o696 P) .nil .nil) .nil)) (.node (o248 P) (.node (o376 P) (.node (o632 P) .nil .nil) .nil) (.node (o504 P) .nil .nil)))))) (.node (o12 P) (.node (o20 P) (.node (o36 P) (.node (o68 P) (.node (o132 P) (.node (o260 P) (.node (o516 P) .nil .nil) .nil) (.node (o388 P) (.node (o644 P) .nil .nil) .nil)) (.node (o196 P) (.node (o324 P) (.node (o580 P) .nil .nil) .nil) (.node (o452 P) (.node (o708 P) .nil .nil) .nil))) (.node (o100 P) (.node (o164 P) (.node (o292 P) (.node (o548 P) .nil .nil) .nil) (.node (o420 P) (.node (o676 P) .nil .nil) .nil)) (.node (o228 P) (.node (o356 P) (.node (o612 P) .nil .nil) .nil) (.node (o484 P) (.node (o740 P) .nil .nil) .nil)))) (.node (o52 P) (.node (o84 P) (.node (o148 P) (.node (o276 P) (.node (o532 P) .nil .nil) .nil) (.node (o404 P) (.node (o660 P) .nil .nil) .nil)) (.node (o212 P) (.node (o340 P) (.node (o596 P) .nil .nil) .nil) (.node (o468 P) (.node (o724 P) .nil .nil) .nil))) (.node (o116 P) (.node (o180 P) (.node (o308 P) (.node (o564 P) .nil .nil) .nil) (.node (o436 P) (.node (o692 P) .nil .nil) .nil)) (.node (o244 P) (.node (o372 P) (.node (o628 P) .nil .nil) .nil) (.node (o500 P) .nil .nil))))) (.node (o28 P) (.node (o44 P) (.node (o76 P) (.node (o140 P) (.node (o268 P) (.node (o524 P) .nil .nil) .nil) (.node (o396 P) (.node (o652 P) .nil .nil) .nil)) (.node (o204 P) (.node (o332 P) (.node (o588 P) .nil .nil) .nil) (.node (o460 P) (.node (o716 P) .nil .nil) .nil))) (.node (o108 P) (.node (o172 P) (.node (o300 P) (.node (o556 P) .nil .nil) .nil) (.node (o428 P) (.node (o684 P) .nil .nil) .nil)) (.node (o236 P) (.node (o364 P) (.node (o620 P) .nil .nil) .nil) (.node (o492 P) .nil .nil)))) (.node (o60 P) (.node (o92 P) (.node (o156 P) (.node (o284 P) (.node (o540 P) .nil .nil) .nil) (.node (o412 P) (.node (o668 P) .nil .nil) .nil)) (.node (o220 P) (.node (o348 P) (.node (o604 P) .nil .nil) .nil) (.node (o476 P) (.node (o732 P) .nil .nil) .nil))) (.node (o124 P) (.node (o188 P) (.node (o316 P) (.node (o572 P) .nil .nil) .nil) (.node (o444 P) (.node (o700 P) .nil .nil) .nil)) (.node (o252 P) (.node (o380 P) (.node (o636 P) .nil .nil) .nil) (.node (o508 P) .nil .nil))))))) (.node (o6 P) (.node (o10 P) (.node (o18 P) (.node (o34 P) (.node (o66 P) (.node (o130 P) (.node (o258 P) (.node (o514 P) .nil .nil) .nil) (.node (o386 P) (.node (o642 P) .nil .nil) .nil)) (.node (o194 P) (.node (o322 P) (.node (o578 P) .nil .nil) .nil) (.node (o450 P) (.node (o706 P) .nil .nil) .nil))) (.node (o98 P) (.node (o162 P) (.node (o290 P) (.node (o546 P) .nil .nil) .nil) (.node (o418 P) (.node (o674 P) .nil .nil) .nil)) (.node (o226 P) (.node (o354 P) (.node (o610 P) .nil .nil) .nil) (.node (o482 P) (.node (o738 P) .nil .nil) .nil)))) (.node (o50 P) (.node (o82 P) (.node (o146 P) (.node (o274 P) (.node (o530 P) .nil .nil) .nil) (.node (o402 P) (.node (o658 P) .nil .nil) .nil)) (.node (o210 P) (.node (o338 P) (.node (o594 P) .nil .nil) .nil) (.node (o466 P) (.node (o722 P) .nil .nil) .nil))) (.node (o114 P) (.node (o178 P) (.node (o306 P) (.node (o562 P) .nil .nil) .nil) (.node (o434 P) (.node (o690 P) .nil .nil) .nil)) (.node (o242 P) (.node (o370 P) (.node (o626 P) .nil .nil) .nil) (.node (o498 P) .nil .nil))))) (.node (o26 P) (.node (o42 P) (.node (o74 P) (.node (o138 P) (.node (o266 P) (.node (o522 P) .nil .nil) .nil) (.node (o394 P) (.node (o650 P) .nil .nil) .nil)) (.node (o202 P) (.node (o330 P) (.node (o586 P) .nil .nil) .nil) (.node (o458 P) (.node (o714 P) .nil .nil) .nil))) (.node (o106 P) (.node (o170 P) (.node (o298 P) (.node (o554 P) .nil .nil) .nil) (.node (o426 P) (.node (o682 P) .nil .nil) .nil)) (.node (o234 P) (.node (o362 P) (.node (o618 P) .nil .nil) .nil) (.node (o490 P) .nil .nil)))) (.node (o58 P) (.node (o90 P) (.node (o154 P) (.node (o282 P) (.node (o538 P) .nil .nil) .nil) (.node (o410 P) (.node (o666 P) .nil .nil) .nil)) (.node (o218 P) (.node (o346 P) (.node (o602 P) .nil .nil) .nil) (.node (o474 P) (.node (o730 P) .nil .nil) .nil))) (.node (o122 P) (.node (o186 P) (.node (o314 P) (.node (o570 P) .nil .nil) .nil) (.node (o442 P) (.node (o698 P) .nil .nil) .nil)) (.node (o250 P) (.node (o378 P) (.node (o634 P) .nil .nil) .nil) (.node (o506 P) .nil .nil)))))) (.node (o14 P) (.node (o22 P) (.node (o38 P) (.node (o70 P) (.node (o134 P) (.node (o262 P) (.node (o518 P) .nil .nil) .nil) (.node (o390 P) (.node (o646 P) .nil .nil) .nil)) (.node (o198 P) (.node (o326 P) (.node (o582 P) .nil .nil) .nil) (.node (o454 P) (.node (o710 P) .nil .nil) .nil))) (.node (o102 P) (.node (o166 P) (.node (o294 P) (.node (o550 P) .nil .nil) .nil) (.node (o422 P) (.node (o678 P) .nil .nil) .nil)) (.node (o230 P) (.node (o358 P) (.node (o614 P) .nil .nil) .nil) (.node (o486 P) (.node (o742 P) .nil .nil) .nil)))) (.node (o54 P) (.node (o86 P) (.node (o150 P) (.node (o278 P) (.node (o534 P) .nil .nil) .nil) (.node (o406 P) (.node (o662 P) .nil .nil) .nil)) (.node (o214 P) (.node (o342 P) (.node (o598 P) .nil .nil) .nil) (.node (o470 P) (.node (o726 P) .nil .nil) .nil))) (.node (o118 P) (.node (o182 P) (.node (o310 P) (.node (o566 P) .nil .nil) .nil) (.node (o438 P) (.node (o694 P) .nil .nil) .nil)) (.node (o246 P) (.node (o374 P) (.node (o630 P) .nil .nil) .nil) (.node (o502 P) .nil .nil))))) (.node (o30 P) (.node (o46 P) (.node (o78 P) (.node (o142 P) (.node (o270 P) (.node (o526 P) .nil .nil) .nil) (.node (o398 P) (.node (o654 P) .nil .nil) .nil)) (.node (o206 P) (.node (o334 P) (.node (o590 P) .nil .nil) .nil) (.node (o462 P) (.node (o718 P) .nil .nil) .nil))) (.node (o110 P) (.node (o174 P) (.node (o302 P) (.node (o558 P) .nil .nil) .nil) (.node (o430 P) (.node (o686 P) .nil .nil) .nil)) (.node (o238 P) (.node (o366 P) (.node (o622 P) .nil .nil) .nil) (.node (o494 P) .nil .nil)))) (.node (o62 P) (.node (o94 P) (.node (o158 P) (.node (o286 P) (.node (o542 P) .nil .nil) .nil) (.node (o414 P) (.node (o670 P) .nil .nil) .nil)) (.node (o222 P) (.node (o350 P) (.node (o606 P) .nil .nil) .nil) (.node (o478 P) (.node (o734 P) .nil .nil) .nil))) (.node (o126 P) (.node (o190 P) (.node (o318 P) (.node (o574 P) .nil .nil) .nil) (.node (o446 P) (.node (o702 P) .nil .nil) .nil)) (.node (o254 P) (.node (o382 P) (.node (o638 P) .nil .nil) .nil) (.node (o510 P) .nil .nil)))))))))
noncomputable def o3v5 (P : Params) : Obj := ⟨(.type "dict"), none, (.dict #[e P "__name__" 165 (.str (.ofString "law_mq0393_01") 1267), e P "__doc__" 166 .none, e P "__package__" 167 .none, e P "__loader__" 168 (.builtin "__main__.__loader__#opaque"), e P "__spec__" 169 .none, e P "__annotations__" 170 (.ref 6), e P "__builtins__" 171 (.ref 4), e P "__file__" 173 (.str (.ofString "/claim/cut.py") 172), e P "__cached__" 174 .none, e P "_sre" 275 (.ref 12), e P "deque" 317 (.type "collections.deque"), e P "_wall" 330 (.ref 44), e P "_strip_exception_details" 342 (.ref 51), e P "_twin_re_1" 382 (.ref 56), e P "_whence" 392 (.ref 63), e P "_index" 400 (.ref 70), e P "UnsupportedOperation" 422 (.ref 80), e P "IOBase" 454 (.ref 100), e P "BufferedIOBase" 472 (.ref 115), e P "TextIOBase" 490 (.ref 127), e P "BytesIO" 752 (.ref 357), e P "StringIO" 1039 (.ref 604), e P "_kind" 1050 (.ref 613), e P "_fspath" 1059 (.ref 620), e P "_check_arg_types" 1069 (.ref 627), e P "isabs" 1076 (.ref 634), e P "join" 1087 (.ref 758), e P "join_path" 1088 (.ref 641), e P "dirname" 1098 (.ref 648), e P "shlex" 1239 (.ref 739), e P "split" 1249 (.ref 751), e P "join_shlex" 1257 (.ref 758), e P "_find_unsafe" 1259 (.ref 759), e P "quote" 1266 (.ref 766), e P "_law_sign" 1276 (.ref 773), e P "_law_bare" 1282 (.ref 778), e P "_law_cuts" 1292 (.ref 785), e P "_law_parts" 1307 (.ref 792), e P "_law_spelled" 1313 (.ref 797), e P "law" 1319 (.ref 802)] 40), #[]⟩
noncomputable def o35v5 (P : Params) : Obj := ⟨.none, none, (.fields #[(.int 3 0), (.int 0 0), (.ref 43), (.int 7 0), (.int 0 0), (.ref 50), (.int 21 0), (.int 0 0), (.ref 62), (.int 26 0), (.int 0 0), (.ref 69), (.int 33 0), (.int 0 0), (.ref 76), (.int 35 0), (.int 0 0), (.ref 89), (.int 42 0), (.int 0 0), (.ref 111), (.int 44 0), (.int 0 0), (.ref 123), (.int 46 0), (.int 0 0), (.ref 135), (.int 216 0), (.int 0 0), (.ref 365), (.int 422 0), (.int 0 0), (.ref 612), (.int 443 0), (.int 0 0), (.ref 619), (.int 448 0), (.int 0 0), (.ref 626), (.int 453 0), (.int 0 0), (.ref 633), (.int 456 0), (.int 0 0), (.ref 640), (.int 477 0), (.int 0 0), (.ref 647), (.int 486 0), (.int 0 0), (.ref 654), (.int 738 0), (.int 0 0), (.ref 750), (.int 746 0), (.int 0 0), (.ref 757), (.int 750 0), (.int 0 0), (.ref 765), (.int 757 0), (.int 0 0), (.ref 772), (.int 764 0), (.int 0 0), (.ref 777), (.int 767 0), (.int 0 0), (.ref 784), (.int 776 0), (.int 0 0), (.ref 791), (.int 787 0), (.int 0 0), (.ref 796), (.int 791 0), (.int 0 0), (.ref 801)]), #[]⟩
noncomputable def o744 (P : Params) : Obj := ⟨(.type "tuple"), none, (.seq #[(.bool false), (.bool true)] 0), #[]⟩
noncomputable def o745 (P : Params) : Obj := ⟨(.type "tuple"), none, (.seq #[] 0), #[]⟩
noncomputable def o746 (P : Params) : Obj := ⟨.none, none, (.fields #[]), #[]⟩
noncomputable def o747 (P : Params) : Obj := ⟨(.type "tuple"), none, (.seq #[(.str (.ofString "s") 1243), (.str (.ofString "comments") 1244), (.str (.ofString "posix") 1245), (.str (.ofString "lex") 1246)] 0), #[]⟩
noncomputable def o748 (P : Params) : Obj := ⟨(.type "tuple"), none, (.seq #[] 0), #[]⟩
noncomputable def o749 (P : Params) : Obj := ⟨.none, none, (.func ⟨(.ofString "split"), (.ofString "split"), (fnAt 25).1, .stmts (fnAt 25).2.1, (fnAt 25).2.2, 0, [], .none, .none, .none, .none, none, .none, .none, 0⟩), #[]⟩
noncomputable def o750 (P : Params) : Obj := ⟨(.type "code"), none, (.fields #[(.str (.ofString "split") 1240), (.str (.ofString "split") 1241), (.str (.ofString "/claim/cut.py") 1242), (.int 738 0), (.int 3 0), (.int 0 0), (.int 0 0), (.int 3 0), (.ref 745), (.bool true), (.int 318 0), (.ref 746), .none, (.ref 747), (.ref 748), (.ref 749), (.int 1247 0), (.int 738 0), (.str (.ofString "/claim/cut.py") 1248)]), #[]⟩
noncomputable def o751 (P : Params) : Obj := ⟨(.type "function"), none, (.func ⟨(.ofString "split"), (.ofString "split"), (fnAt 25).1, .stmts (fnAt 25).2.1, (fnAt 25).2.2, 3, [], (.ref 744), .none, .none, (.str (.ofString "cpy313.shlex") 1099), none, (.ref 750), .none, 0⟩), #[]⟩
noncomputable def o752 (P : Params) : Obj := ⟨(.type "tuple"), none, (.seq #[] 0), #[]⟩
noncomputable def o753 (P : Params) : Obj := ⟨.none, none, (.fields #[]), #[]⟩
noncomputable def o754 (P : Params) : Obj := ⟨(.type "tuple"), none, (.seq #[(.str (.ofString "split_command") 1253)] 0), #[]⟩
noncomputable def o755 (P : Params) : Obj := ⟨(.type "tuple"), none, (.seq #[] 0), #[]⟩
noncomputable def o756 (P : Params) : Obj := ⟨.none, none, (.func ⟨(.ofString "join"), (.ofString "join"), (fnAt 26).1, .stmts (fnAt 26).2.1, (fnAt 26).2.2, 0, [], .none, .none, .none, .none, none, .none, .none, 0⟩), #[]⟩
noncomputable def o757 (P : Params) : Obj := ⟨(.type "code"), none, (.fields #[(.str (.ofString "join") 1250), (.str (.ofString "join") 1251), (.str (.ofString "/claim/cut.py") 1252), (.int 746 0), (.int 1 0), (.int 0 0), (.int 0 0), (.int 3 0), (.ref 752), (.bool true), (.int 318 0), (.ref 753), .none, (.ref 754), (.ref 755), (.ref 756), (.int 1254 0), (.int 746 0), (.str (.ofString "/claim/cut.py") 1255)]), #[]⟩
noncomputable def o758 (P : Params) : Obj := ⟨(.type "function"), none, (.func ⟨(.ofString "join"), (.ofString "join"), (fnAt 26).1, .stmts (fnAt 26).2.1, (fnAt 26).2.2, 3, [], .none, .none, .none, (.str (.ofString "cpy313.shlex") 1099), none, (.ref 757), .none, 0⟩), #[]⟩
noncomputable def o759 (P : Params) : Obj := ⟨(.type "builtin_function_or_method"), none, (.fields #[(.builtin "re.Pattern.search"), (.ref 56)]), #[]⟩
noncomputable def o760 (P : Params) : Obj := ⟨(.type "tuple"), none, (.seq #[] 0), #[]⟩
noncomputable def o761 (P : Params) : Obj := ⟨.none, none, (.fields #[]), #[]⟩
noncomputable def o762 (P : Params) : Obj := ⟨(.type "tuple"), none, (.seq #[(.str (.ofString "s") 1263)] 0), #[]⟩
noncomputable def o763 (P : Params) : Obj := ⟨(.type "tuple"), none, (.seq #[] 0), #[]⟩
noncomputable def o764 (P : Params) : Obj := ⟨.none, none, (.func ⟨(.ofString "quote"), (.ofString "quote"), (fnAt 29).1, .stmts (fnAt 29).2.1, (fnAt 29).2.2, 0, [], .none, .none, .none, .none, none, .none, .none, 0⟩), #[]⟩
noncomputable def o765 (P : Params) : Obj := ⟨(.type "code"), none, (.fields #[(.str (.ofString "quote") 1260), (.str (.ofString "quote") 1261), (.str (.ofString "/claim/cut.py") 1262), (.int 750 0), (.int 1 0), (.int 0 0), (.int 0 0), (.int 3 0), (.ref 760), (.bool true), (.int 318 0), (.ref 761), .none, (.ref 762), (.ref 763), (.ref 764), (.int 1264 0), (.int 750 0), (.str (.ofString "/claim/cut.py") 1265)]), #[]⟩
noncomputable def o766 (P : Params) : Obj := ⟨(.type "function"), none, (.func ⟨(.ofString "quote"), (.ofString "quote"), (fnAt 29).1, .stmts (fnAt 29).2.1, (fnAt 29).2.2, 3, [], .none, .none, .none, (.str (.ofString "cpy313.shlex") 1099), none, (.ref 765), .none, 0⟩), #[]⟩
noncomputable def o767 (P : Params) : Obj := ⟨(.type "tuple"), none, (.seq #[] 0), #[]⟩
noncomputable def o768 (P : Params) : Obj := ⟨.none, none, (.fields #[]), #[]⟩
noncomputable def o769 (P : Params) : Obj := ⟨(.type "tuple"), none, (.seq #[(.str (.ofString "n") 1272), (.str (.ofString "code") 1273)] 0), #[]⟩
noncomputable def o770 (P : Params) : Obj := ⟨(.type "tuple"), none, (.seq #[] 0), #[]⟩
noncomputable def o771 (P : Params) : Obj := ⟨.none, none, (.func ⟨(.ofString "_law_sign"), (.ofString "_law_sign"), (fnAt 31).1, .stmts (fnAt 31).2.1, (fnAt 31).2.2, 0, [], .none, .none, .none, .none, none, .none, .none, 0⟩), #[]⟩
noncomputable def o772 (P : Params) : Obj := ⟨(.type "code"), none, (.fields #[(.str (.ofString "_law_sign") 1269), (.str (.ofString "_law_sign") 1270), (.str (.ofString "/claim/cut.py") 1271), (.int 757 0), (.int 1 0), (.int 0 0), (.int 0 0), (.int 3 0), (.ref 767), (.bool true), (.int 318 0), (.ref 768), .none, (.ref 769), (.ref 770), (.ref 771), (.int 1274 0), (.int 757 0), (.str (.ofString "/claim/cut.py") 1275)]), #[]⟩
noncomputable def o773 (P : Params) : Obj := ⟨(.type "function"), none, (.func ⟨(.ofString "_law_sign"), (.ofString "_law_sign"), (fnAt 31).1, .stmts (fnAt 31).2.1, (fnAt 31).2.2, 3, [], .none, .none, .none, (.str (.ofString "law_mq0393_01") 1267), none, (.ref 772), .none, 0⟩), #[]⟩
noncomputable def o774 (P : Params) : Obj := ⟨(.type "tuple"), none, (.seq #[] 0), #[]⟩
noncomputable def o775 (P : Params) : Obj := ⟨.none, none, (.fields #[]), #[]⟩
noncomputable def o776 (P : Params) : Obj := ⟨.none, none, (.func ⟨(.ofString "_law_bare"), (.ofString "_law_bare"), (fnAt 32).1, .stmts (fnAt 32).2.1, (fnAt 32).2.2, 0, [], .none, .none, .none, .none, none, .none, .none, 0⟩), #[]⟩
noncomputable def o777 (P : Params) : Obj := ⟨(.type "code"), none, (.fields #[(.str (.ofString "_law_bare") 1277), (.str (.ofString "_law_bare") 1278), (.str (.ofString "/claim/cut.py") 1279), (.int 764 0), (.int 1 0), (.int 0 0), (.int 0 0), (.int 3 0), (.ref 774), (.bool true), (.int 318 0), (.ref 775), .none, .none, .none, (.ref 776), (.int 1280 0), (.int 764 0), (.str (.ofString "/claim/cut.py") 1281)]), #[]⟩
noncomputable def o778 (P : Params) : Obj := ⟨(.type "function"), none, (.func ⟨(.ofString "_law_bare"), (.ofString "_law_bare"), (fnAt 32).1, .stmts (fnAt 32).2.1, (fnAt 32).2.2, 3, [], .none, .none, .none, (.str (.ofString "law_mq0393_01") 1267), none, (.ref 777), .none, 0⟩), #[]⟩
noncomputable def o779 (P : Params) : Obj := ⟨(.type "tuple"), none, (.seq #[] 0), #[]⟩
noncomputable def o780 (P : Params) : Obj := ⟨.none, none, (.fields #[]), #[]⟩
noncomputable def o781 (P : Params) : Obj := ⟨(.type "tuple"), none, (.seq #[(.str (.ofString "row") 1286), (.str (.ofString "behind") 1287), (.str (.ofString "i") 1288), (.str (.ofString "k") 1289)] 0), #[]⟩
noncomputable def o782 (P : Params) : Obj := ⟨(.type "tuple"), none, (.seq #[] 0), #[]⟩
noncomputable def o783 (P : Params) : Obj := ⟨.none, none, (.func ⟨(.ofString "_law_cuts"), (.ofString "_law_cuts"), (fnAt 33).1, .stmts (fnAt 33).2.1, (fnAt 33).2.2, 0, [], .none, .none, .none, .none, none, .none, .none, 0⟩), #[]⟩
noncomputable def o784 (P : Params) : Obj := ⟨(.type "code"), none, (.fields #[(.str (.ofString "_law_cuts") 1283), (.str (.ofString "_law_cuts") 1284), (.str (.ofString "/claim/cut.py") 1285), (.int 767 0), (.int 1 0), (.int 0 0), (.int 0 0), (.int 3 0), (.ref 779), (.bool true), (.int 318 0), (.ref 780), .none, (.ref 781), (.ref 782), (.ref 783), (.int 1290 0), (.int 767 0), (.str (.ofString "/claim/cut.py") 1291)]), #[]⟩
noncomputable def o785 (P : Params) : Obj := ⟨(.type "function"), none, (.func ⟨(.ofString "_law_cuts"), (.ofString "_law_cuts"), (fnAt 33).1, .stmts (fnAt 33).2.1, (fnAt 33).2.2, 3, [], .none, .none, .none, (.str (.ofString "law_mq0393_01") 1267), none, (.ref 784), .none, 0⟩), #[]⟩
noncomputable def o786 (P : Params) : Obj := ⟨(.type "tuple"), none, (.seq #[] 0), #[]⟩
noncomputable def o787 (P : Params) : Obj := ⟨.none, none, (.fields #[]), #[]⟩
noncomputable def o788 (P : Params) : Obj := ⟨(.type "tuple"), none, (.seq #[(.str (.ofString "row") 1296), (.str (.ofString "behind") 1297), (.str (.ofString "stop") 1298), (.str (.ofString "parts") 1299), (.str (.ofString "i") 1300), (.str (.ofString "start") 1301), (.str (.ofString "end") 1302), (.str (.ofString "front") 1303), (.str (.ofString "back") 1304)] 0), #[]⟩
noncomputable def o789 (P : Params) : Obj := ⟨(.type "tuple"), none, (.seq #[] 0), #[]⟩
noncomputable def o790 (P : Params) : Obj := ⟨.none, none, (.func ⟨(.ofString "_law_parts"), (.ofString "_law_parts"), (fnAt 34).1, .stmts (fnAt 34).2.1, (fnAt 34).2.2, 0, [], .none, .none, .none, .none, none, .none, .none, 0⟩), #[]⟩
noncomputable def o791 (P : Params) : Obj := ⟨(.type "code"), none, (.fields #[(.str (.ofString "_law_parts") 1293), (.str (.ofString "_law_parts") 1294), (.str (.ofString "/claim/cut.py") 1295), (.int 776 0), (.int 1 0), (.int 0 0), (.int 0 0), (.int 3 0), (.ref 786), (.bool true), (.int 318 0), (.ref 787), .none, (.ref 788), (.ref 789), (.ref 790), (.int 1305 0), (.int 776 0), (.str (.ofString "/claim/cut.py") 1306)]), #[]⟩
noncomputable def o792 (P : Params) : Obj := ⟨(.type "function"), none, (.func ⟨(.ofString "_law_parts"), (.ofString "_law_parts"), (fnAt 34).1, .stmts (fnAt 34).2.1, (fnAt 34).2.2, 3, [], .none, .none, .none, (.str (.ofString "law_mq0393_01") 1267), none, (.ref 791), .none, 0⟩), #[]⟩
noncomputable def o793 (P : Params) : Obj := ⟨(.type "tuple"), none, (.seq #[] 0), #[]⟩
noncomputable def o794 (P : Params) : Obj := ⟨.none, none, (.fields #[]), #[]⟩
noncomputable def o795 (P : Params) : Obj := ⟨.none, none, (.func ⟨(.ofString "_law_spelled"), (.ofString "_law_spelled"), (fnAt 35).1, .stmts (fnAt 35).2.1, (fnAt 35).2.2, 0, [], .none, .none, .none, .none, none, .none, .none, 0⟩), #[]⟩
noncomputable def o796 (P : Params) : Obj := ⟨(.type "code"), none, (.fields #[(.str (.ofString "_law_spelled") 1308), (.str (.ofString "_law_spelled") 1309), (.str (.ofString "/claim/cut.py") 1310), (.int 787 0), (.int 2 0), (.int 0 0), (.int 0 0), (.int 3 0), (.ref 793), (.bool true), (.int 318 0), (.ref 794), .none, .none, .none, (.ref 795), (.int 1311 0), (.int 787 0), (.str (.ofString "/claim/cut.py") 1312)]), #[]⟩
noncomputable def o797 (P : Params) : Obj := ⟨(.type "function"), none, (.func ⟨(.ofString "_law_spelled"), (.ofString "_law_spelled"), (fnAt 35).1, .stmts (fnAt 35).2.1, (fnAt 35).2.2, 3, [], .none, .none, .none, (.str (.ofString "law_mq0393_01") 1267), none, (.ref 796), .none, 0⟩), #[]⟩
noncomputable def o798 (P : Params) : Obj := ⟨(.type "tuple"), none, (.seq #[] 0), #[]⟩
noncomputable def o799 (P : Params) : Obj := ⟨.none, none, (.fields #[]), #[]⟩
noncomputable def o800 (P : Params) : Obj := ⟨.none, none, (.func ⟨(.ofString "law"), (.ofString "law"), (fnAt 36).1, .stmts (fnAt 36).2.1, (fnAt 36).2.2, 0, [], .none, .none, .none, .none, none, .none, .none, 0⟩), #[]⟩
noncomputable def o801 (P : Params) : Obj := ⟨(.type "code"), none, (.fields #[(.str (.ofString "law") 1314), (.str (.ofString "law") 1315), (.str (.ofString "/claim/cut.py") 1316), (.int 791 0), (.int 1 0), (.int 0 0), (.int 0 0), (.int 3 0), (.ref 798), (.bool true), (.int 318 0), (.ref 799), .none, .none, .none, (.ref 800), (.int 1317 0), (.int 791 0), (.str (.ofString "/claim/cut.py") 1318)]), #[]⟩
noncomputable def o802 (P : Params) : Obj := ⟨(.type "function"), none, (.func ⟨(.ofString "law"), (.ofString "law"), (fnAt 36).1, .stmts (fnAt 36).2.1, (fnAt 36).2.2, 3, [], .none, .none, .none, (.str (.ofString "law_mq0393_01") 1267), none, (.ref 801), .none, 0⟩), #[]⟩
noncomputable def t4 (P : Params) : BT := (.node (o0 P) (.node (o1 P) (.node (o3v5 P) (.node (o7 P) (.node (o15 P) (.node (o31 P) (.node (o63 P) (.node (o127v1 P) (.node (o255 P) (.node (o511 P) .nil .nil) (.node (o767 P) .nil .nil)) (.node (o383 P) (.node (o639 P) .nil .nil) .nil)) (.node (o191 P) (.node (o319 P) (.node (o575 P) .nil .nil) .nil) (.node (o447 P) (.node (o703 P) .nil .nil) .nil))) (.node (o95 P) (.node (o159 P) (.node (o287 P) (.node (o543 P) .nil .nil) (.node (o799 P) .nil .nil)) (.node (o415 P) (.node (o671 P) .nil .nil) .nil)) (.node (o223 P) (.node (o351 P) (.node (o607 P) .nil .nil) .nil) (.node (o479 P) (.node (o735 P) .nil .nil) .nil)))) (.node (o47 P) (.node (o79 P) (.node (o143 P) (.node (o271 P) (.node (o527 P) .nil .nil) (.node (o783 P) .nil .nil)) (.node (o399 P) (.node (o655 P) .nil .nil) .nil)) (.node (o207 P) (.node (o335 P) (.node (o591 P) .nil .nil) .nil) (.node (o463 P) (.node (o719 P) .nil .nil) .nil))) (.node (o111 P) (.node (o175 P) (.node (o303 P) (.node (o559 P) .nil .nil) .nil) (.node (o431 P) (.node (o687 P) .nil .nil) .nil)) (.node (o239 P) (.node (o367 P) (.node (o623 P) .nil .nil) .nil) (.node (o495 P) (.node (o751 P) .nil .nil) .nil))))) (.node (o23 P) (.node (o39 P) (.node (o71 P) (.node (o135 P) (.node (o263 P) (.node (o519 P) .nil .nil) (.node (o775 P) .nil .nil)) (.node (o391 P) (.node (o647 P) .nil .nil) .nil)) (.node (o199 P) (.node (o327 P) (.node (o583 P) .nil .nil) .nil) (.node (o455 P) (.node (o711 P) .nil .nil) .nil))) (.node (o103 P) (.node (o167 P) (.node (o295 P) (.node (o551 P) .nil .nil) .nil) (.node (o423 P) (.node (o679 P) .nil .nil) .nil)) (.node (o231 P) (.node (o359 P) (.node (o615 P) .nil .nil) .nil) (.node (o487 P) (.node (o743 P) .nil .nil) .nil)))) (.node (o55 P) (.node (o87 P) (.node (o151 P) (.node (o279 P) (.node (o535 P) .nil .nil) (.node (o791 P) .nil .nil)) (.node (o407 P) (.node (o663 P) .nil .nil) .nil)) (.node (o215 P) (.node (o343 P) (.node (o599 P) .nil .nil) .nil) (.node (o471 P) (.node (o727 P) .nil .nil) .nil))) (.node (o119 P) (.node (o183 P) (.node (o311 P) (.node (o567 P) .nil .nil) .nil) (.node (o439 P) (.node (o695 P) .nil .nil) .nil)) (.node (o247 P) (.node (o375 P) (.node (o631 P) .nil .nil) .nil) (.node (o503 P) (.node (o759 P) .nil .nil) .nil)))))) (.node (o11v1 P) (.node (o19 P) (.node (o35v5 P) (.node (o67 P) (.node (o131 P) (.node (o259 P) (.node (o515 P) .nil .nil) (.node (o771 P) .nil .nil)) (.node (o387 P) (.node (o643 P) .nil .nil) .nil)) (.node (o195 P) (.node (o323 P) (.node (o579 P) .nil .nil) .nil) (.node (o451 P) (.node (o707 P) .nil .nil) .nil))) (.node (o99 P) (.node (o163 P) (.node (o291 P) (.node (o547 P) .nil .nil) .nil) (.node (o419 P) (.node (o675 P) .nil .nil) .nil)) (.node (o227 P) (.node (o355 P) (.node (o611 P) .nil .nil) .nil) (.node (o483 P) (.node (o739 P) .nil .nil) .nil)))) (.node (o51 P) (.node (o83 P) (.node (o147 P) (.node (o275 P) (.node (o531 P) .nil .nil) (.node (o787 P) .nil .nil)) (.node (o403 P) (.node (o659 P) .nil .nil) .nil)) (.node (o211 P) (.node (o339 P) (.node (o595 P) .nil .nil) .nil) (.node (o467 P) (.node (o723 P) .nil .nil) .nil))) (.node (o115v1 P) (.node (o179 P) (.node (o307 P) (.node (o563 P) .nil .nil) .nil) (.node (o435 P) (.node (o691 P) .nil .nil) .nil)) (.node (o243 P) (.node (o371 P) (.node (o627 P) .nil .nil) .nil) (.node (o499 P) (.node (o755 P) .nil .nil) .nil))))) (.node (o27 P) (.node (o43 P) (.node (o75 P) (.node (o139 P) (.node (o267 P) (.node (o523 P) .nil .nil) (.node (o779 P) .nil .nil)) (.node (o395 P) (.node (o651 P) .nil .nil) .nil)) (.node (o203 P) (.node (o331 P) (.node (o587 P) .nil .nil) .nil) (.node (o459 P) (.node (o715 P) .nil .nil) .nil))) (.node (o107 P) (.node (o171 P) (.node (o299 P) (.node (o555 P) .nil .nil) .nil) (.node (o427 P) (.node (o683 P) .nil .nil) .nil)) (.node (o235 P) (.node (o363 P) (.node (o619 P) .nil .nil) .nil) (.node (o491 P) (.node (o747 P) .nil .nil) .nil)))) (.node (o59 P) (.node (o91 P) (.node (o155 P) (.node (o283 P) (.node (o539 P) .nil .nil) (.node (o795 P) .nil .nil)) (.node (o411 P) (.node (o667 P) .nil .nil) .nil)) (.node (o219 P) (.node (o347 P) (.node (o603 P) .nil .nil) .nil) (.node (o475 P) (.node (o731 P) .nil .nil) .nil))) (.node (o123 P) (.node (o187 P) (.node (o315 P) (.node (o571 P) .nil .nil) .nil) (.node (o443 P) (.node (o699 P) .nil .nil) .nil)) (.node (o251 P) (.node (o379 P) (.node (o635 P) .nil .nil) .nil) (.node (o507 P) (.node (o763 P) .nil .nil) .nil))))))) (.node (o5 P) (.node (o9 P) (.node (o17 P) (.node (o33 P) (.node (o65 P) (.node (o129 P) (.node (o257 P) (.node (o513 P) .nil .nil) (.node (o769 P) .nil .nil)) (.node (o385 P) (.node (o641 P) .nil .nil) .nil)) (.node (o193 P) (.node (o321 P) (.node (o577 P) .nil .nil) .nil) (.node (o449 P) (.node (o705 P) .nil .nil) .nil))) (.node (o97 P) (.node (o161 P) (.node (o289 P) (.node (o545 P) .nil .nil) (.node (o801 P) .nil .nil)) (.node (o417 P) (.node (o673 P) .nil .nil) .nil)) (.node (o225 P) (.node (o353 P) (.node (o609 P) .nil .nil) .nil) (.node (o481 P) (.node (o737 P) .nil .nil) .nil)))) (.node (o49 P) (.node (o81 P) (.node (o145 P) (.node (o273 P) (.node (o529 P) .nil .nil) (.node (o785 P) .nil .nil)) (.node (o401 P) (.node (o657 P) .nil .nil) .nil)) (.node (o209 P) (.node (o337 P) (.node (o593 P) .nil .nil) .nil) (.node (o465 P) (.node (o721 P) .nil .nil) .nil))) (.node (o113 P) (.node (o177 P) (.node (o305 P) (.node (o561 P) .nil .nil) .nil) (.node (o433 P) (.node (o689 P) .nil .nil) .nil)) (.node (o241 P) (.node (o369 P) (.node (o625 P) .nil .nil) .nil) (.node (o497 P) (.node (o753 P) .nil .nil) .nil))))) (.node (o25 P) (.node (o41 P) (.node (o73 P) (.node (o137 P) (.node (o265 P) (.node (o521 P) .nil .nil) (.node (o777 P) .nil .nil)) (.node (o393 P) (.node (o649 P) .nil .nil) .nil)) (.node (o201 P) (.node (o329 P) (.node (o585 P) .nil .nil) .nil) (.node (o457 P) (.node (o713 P) .nil .nil) .nil))) (.node (o105 P) (.node (o169 P) (.node (o297 P) (.node (o553 P) .nil .nil) .nil) (.node (o425 P) (.node (o681 P) .nil .nil) .nil)) (.node (o233 P) (.node (o361 P) (.node (o617 P) .nil .nil) .nil) (.node (o489 P) (.node (o745 P) .nil .nil) .nil)))) (.node (o57 P) (.node (o89 P) (.node (o153 P) (.node (o281 P) (.node (o537 P) .nil .nil) (.node (o793 P) .nil .nil)) (.node (o409 P) (.node (o665 P) .nil .nil) .nil)) (.node (o217 P) (.node (o345 P) (.node (o601 P) .nil .nil) .nil) (.node (o473 P) (.node (o729 P) .nil .nil) .nil))) (.node (o121 P) (.node (o185 P) (.node (o313 P) (.node (o569 P) .nil .nil) .nil) (.node (o441 P) (.node (o697 P) .nil .nil) .nil)) (.node (o249 P) (.node (o377 P) (.node (o633 P) .nil .nil) .nil) (.node (o505 P) (.node (o761 P) .nil .nil) .nil)))))) (.node (o13 P) (.node (o21 P) (.node (o37 P) (.node (o69 P) (.node (o133 P) (.node (o261 P) (.node (o517 P) .nil .nil) (.node (o773 P) .nil .nil)) (.node (o389 P) (.node (o645 P) .nil .nil) .nil)) (.node (o197 P) (.node (o325 P) (.node (o581 P) .nil .nil) .nil) (.node (o453 P) (.node (o709 P) .nil .nil) .nil))) (.node (o101 P) (.node (o165 P) (.node (o293 P) (.node (o549 P) .nil .nil) .nil) (.node (o421 P) (.node (o677 P) .nil .nil) .nil)) (.node (o229 P) (.node (o357 P) (.node (o613 P) .nil .nil) .nil) (.node (o485 P) (.node (o741 P) .nil .nil) .nil)))) (.node (o53 P) (.node (o85 P) (.node (o149 P) (.node (o277 P) (.node (o533 P) .nil .nil) (.node (o789 P) .nil .nil)) (.node (o405 P) (.node (o661 P) .nil .nil) .nil)) (.node (o213 P) (.node (o341 P) (.node (o597 P) .nil .nil) .nil) (.node (o469 P) (.node (o725 P) .nil .nil) .nil))) (.node (o117 P) (.node (o181 P) (.node (o309 P) (.node (o565 P) .nil .nil) .nil) (.node (o437 P) (.node (o693 P) .nil .nil) .nil)) (.node (o245 P) (.node (o373 P) (.node (o629 P) .nil .nil) .nil) (.node (o501 P) (.node (o757 P) .nil .nil) .nil))))) (.node (o29v1 P) (.node (o45 P) (.node (o77 P) (.node (o141 P) (.node (o269 P) (.node (o525 P) .nil .nil) (.node (o781 P) .nil .nil)) (.node (o397 P) (.node (o653 P) .nil .nil) .nil)) (.node (o205 P) (.node (o333 P) (.node (o589 P) .nil .nil) .nil) (.node (o461 P) (.node (o717 P) .nil .nil) .nil))) (.node (o109 P) (.node (o173 P) (.node (o301 P) (.node (o557 P) .nil .nil) .nil) (.node (o429 P) (.node (o685 P) .nil .nil) .nil)) (.node (o237 P) (.node (o365 P) (.node (o621 P) .nil .nil) .nil) (.node (o493 P) (.node (o749 P) .nil .nil) .nil)))) (.node (o61 P) (.node (o93 P) (.node (o157 P) (.node (o285 P) (.node (o541 P) .nil .nil) (.node (o797 P) .nil .nil)) (.node (o413 P) (.node (o669 P) .nil .nil) .nil)) (.node (o221 P) (.node (o349 P) (.node (o605 P) .nil .nil) .nil) (.node (o477 P) (.node (o733 P) .nil .nil) .nil))) (.node (o125 P) (.node (o189 P) (.node (o317 P) (.node (o573 P) .nil .nil) .nil) (.node (o445 P) (.node (o701 P) .nil .nil) .nil)) (.node (o253 P) (.node (o381 P) (.node (o637 P) .nil .nil) .nil) (.node (o509 P) (.node (o765 P) .nil .nil) .nil)))))))) (.node (o2v1 P) (.node (o4 P) (.node (o8 P) (.node (o16 P) (.node (o32 P) (.node (o64 P) (.node (o128 P) (.node (o256 P) (.node (o512 P) .nil .nil) (.node (o768 P) .nil .nil)) (.node (o384 P) (.node (o640 P) .nil .nil) .nil)) (.node (o192 P) (.node (o320 P) (.node (o576 P) .nil .nil) .nil) (.node (o448 P) (.node (o704 P) .nil .nil) .nil))) (.node (o96 P) (.node (o160 P) (.node (o288 P) (.node (o544 P) .nil .nil) (.node (o800 P) .nil .nil)) (.node (o416 P) (.node (o672 P) .nil .nil) .nil)) (.node (o224 P) (.node (o352 P) (.node (o608 P) .nil .nil) .nil) (.node (o480 P) (.node (o736 P) .nil .nil) .nil)))) (.node (o48 P) (.node (o80 P) (.node (o144 P) (.node (o272 P) (.node (o528 P) .nil .nil) (.node (o784 P) .nil .nil)) (.node (o400 P) (.node (o656 P) .nil .nil) .nil)) (.node (o208 P) (.node (o336 P) (.node (o592 P) .nil .nil) .nil) (.node (o464 P) (.node (o720 P) .nil .nil) .nil))) (.node (o112 P) (.node (o176 P) (.node (o304 P) (.node (o560 P) .nil .nil) .nil) (.node (o432 P) (.node (o688 P) .nil .nil) .nil)) (.node (o240 P) (.node (o368 P) (.node (o624 P) .nil .nil) .nil) (.node (o496 P) (.node (o752 P) .nil .nil) .nil))))) (.node (o24 P) (.node (o40 P) (.node (o72 P) (.node (o136 P) (.node (o264 P) (.node (o520 P) .nil .nil) (.node (o776 P) .nil .nil)) (.node (o392 P) (.node (o648 P) .nil .nil) .nil)) (.node (o200 P) (.node (o328 P) (.node (o584 P) .nil .nil) .nil) (.node (o456 P) (.node (o712 P) .nil .nil) .nil))) (.node (o104 P) (.node (o168 P) (.node (o296 P) (.node (o552 P) .nil .nil) .nil) (.node (o424 P) (.node (o680 P) .nil .nil) .nil)) (.node (o232 P) (.node (o360 P) (.node (o616 P) .nil .nil) .nil) (.node (o488 P) (.node (o744 P) .nil .nil) .nil)))) (.node (o56 P) (.node (o88 P) (.node (o152 P) (.node (o280 P) (.node (o536 P) .nil .nil) (.node (o792 P) .nil .nil)) (.node (o408 P) (.node (o664 P) .nil .nil) .nil)) (.node (o216 P) (.node (o344 P) (.node (o600 P) .nil .nil) .nil) (.node (o472 P) (.node (o728 P) .nil .nil) .nil))) (.node (o120 P) (.node (o184 P) (.node (o312 P) (.node (o568 P) .nil .nil) .nil) (.node (o440 P) (.node (o696 P) .nil .nil) .nil)) (.node (o248 P) (.node (o376 P) (.node (o632 P) .nil .nil) .nil) (.node (o504 P) (.node (o760 P) .nil .nil) .nil)))))) (.node (o12 P) (.node (o20 P) (.node (o36 P) (.node (o68 P) (.node (o132 P) (.node (o260 P) (.node (o516 P) .nil .nil) (.node (o772 P) .nil .nil)) (.node (o388 P) (.node (o644 P) .nil .nil) .nil)) (.node (o196 P) (.node (o324 P) (.node (o580 P) .nil .nil) .nil) (.node (o452 P) (.node (o708 P) .nil .nil) .nil))) (.node (o100 P) (.node (o164 P) (.node (o292 P) (.node (o548 P) .nil .nil) .nil) (.node (o420 P) (.node (o676 P) .nil .nil) .nil)) (.node (o228 P) (.node (o356 P) (.node (o612 P) .nil .nil) .nil) (.node (o484 P) (.node (o740 P) .nil .nil) .nil)))) (.node (o52 P) (.node (o84 P) (.node (o148 P) (.node (o276 P) (.node (o532 P) .nil .nil) (.node (o788 P) .nil .nil)) (.node (o404 P) (.node (o660 P) .nil .nil) .nil)) (.node (o212 P) (.node (o340 P) (.node (o596 P) .nil .nil) .nil) (.node (o468 P) (.node (o724 P) .nil .nil) .nil))) (.node (o116 P) (.node (o180 P) (.node (o308 P) (.node (o564 P) .nil .nil) .nil) (.node (o436 P) (.node (o692 P) .nil .nil) .nil)) (.node (o244 P) (.node (o372 P) (.node (o628 P) .nil .nil) .nil) (.node (o500 P) (.node (o756 P) .nil .nil) .nil))))) (.node (o28 P) (.node (o44 P) (.node (o76 P) (.node (o140 P) (.node (o268 P) (.node (o524 P) .nil .nil) (.node (o780 P) .nil .nil)) (.node (o396 P) (.node (o652 P) .nil .nil) .nil)) (.node (o204 P) (.node (o332 P) (.node (o588 P) .nil .nil) .nil) (.node (o460 P) (.node (o716 P) .nil .nil) .nil))) (.node (o108 P) (.node (o172 P) (.node (o300 P) (.node (o556 P) .nil .nil) .nil) (.node (o428 P) (.node (o684 P) .nil .nil) .nil)) (.node (o236 P) (.node (o364 P) (.node (o620 P) .nil .nil) .nil) (.node (o492 P) (.node (o748 P) .nil .nil) .nil)))) (.node (o60 P) (.node (o92 P) (.node (o156 P) (.node (o284 P) (.node (o540 P) .nil .nil) (.node (o796 P) .nil .nil)) (.node (o412 P) (.node (o668 P) .nil .nil) .nil)) (.node (o220 P) (.node (o348 P) (.node (o604 P) .nil .nil) .nil) (.node (o476 P) (.node (o732 P) .nil .nil) .nil))) (.node (o124 P) (.node (o188 P) (.node (o316 P) (.node (o572 P) .nil .nil) .nil) (.node (o444 P) (.node (o700 P) .nil .nil) .nil)) (.node (o252 P) (.node (o380 P) (.node (o636 P) .nil .nil) .nil) (.node (o508 P) (.node (o764 P) .nil .nil) .nil))))))) (.node (o6 P) (.node (o10 P) (.node (o18 P) (.node (o34 P) (.node (o66 P) (.node (o130 P) (.node (o258 P) (.node (o514 P) .nil .nil) (.node (o770 P) .nil .nil)) (.node (o386 P) (.node (o642 P) .nil .nil) .nil)) (.node (o194 P) (.node (o322 P) (.node (o578 P) .nil .nil) .nil) (.node (o450 P) (.node (o706 P) .nil .nil) .nil))) (.node (o98 P) (.node (o162 P) (.node (o290 P) (.node (o546 P) .nil .nil) (.node (o802 P) .nil .nil)) (.node (o418 P) (.node (o674 P) .nil .nil) .nil)) (.node (o226 P) (.node (o354 P) (.node (o610 P) .nil .nil) .nil) (.node (o482 P) (.node (o738 P) .nil .nil) .nil)))) (.node (o50 P) (.node (o82 P) (.node (o146 P) (.node (o274 P) (.node (o530 P) .nil .nil) (.node (o786 P) .nil .nil)) (.node (o402 P) (.node (o658 P) .nil .nil) .nil)) (.node (o210 P) (.node (o338 P) (.node (o594 P) .nil .nil) .nil) (.node (o466 P) (.node (o722 P) .nil .nil) .nil))) (.node (o114 P) (.node (o178 P) (.node (o306 P) (.node (o562 P) .nil .nil) .nil) (.node (o434 P) (.node (o690 P) .nil .nil) .nil)) (.node (o242 P) (.node (o370 P) (.node (o626 P) .nil .nil) .nil) (.node (o498 P) (.node (o754 P) .nil .nil) .nil))))) (.node (o26 P) (.node (o42 P) (.node (o74 P) (.node (o138 P) (.node (o266 P) (.node (o522 P) .nil .nil) (.node (o778 P) .nil .nil)) (.node (o394 P) (.node (o650 P) .nil .nil) .nil)) (.node (o202 P) (.node (o330 P) (.node (o586 P) .nil .nil) .nil) (.node (o458 P) (.node (o714 P) .nil .nil) .nil))) (.node (o106 P) (.node (o170 P) (.node (o298 P) (.node (o554 P) .nil .nil) .nil) (.node (o426 P) (.node (o682 P) .nil .nil) .nil)) (.node (o234 P) (.node (o362 P) (.node (o618 P) .nil .nil) .nil) (.node (o490 P) (.node (o746 P) .nil .nil) .nil)))) (.node (o58 P) (.node (o90 P) (.node (o154 P) (.node (o282 P) (.node (o538 P) .nil .nil) (.node (o794 P) .nil .nil)) (.node (o410 P) (.node (o666 P) .nil .nil) .nil)) (.node (o218 P) (.node (o346 P) (.node (o602 P) .nil .nil) .nil) (.node (o474 P) (.node (o730 P) .nil .nil) .nil))) (.node (o122 P) (.node (o186 P) (.node (o314 P) (.node (o570 P) .nil .nil) .nil) (.node (o442 P) (.node (o698 P) .nil .nil) .nil)) (.node (o250 P) (.node (o378 P) (.node (o634 P) .nil .nil) .nil) (.node (o506 P) (.node (o762 P) .nil .nil) .nil)))))) (.node (o14 P) (.node (o22 P) (.node (o38 P) (.node (o70 P) (.node (o134 P) (.node (o262 P) (.node (o518 P) .nil .nil) (.node (o774 P) .nil .nil)) (.node (o390 P) (.node (o646 P) .nil .nil) .nil)) (.node (o198 P) (.node (o326 P) (.node (o582 P) .nil .nil) .nil) (.node (o454 P) (.node (o710 P) .nil .nil) .nil))) (.node (o102 P) (.node (o166 P) (.node (o294 P) (.node (o550 P) .nil .nil) .nil) (.node (o422 P) (.node (o678 P) .nil .nil) .nil)) (.node (o230 P) (.node (o358 P) (.node (o614 P) .nil .nil) .nil) (.node (o486 P) (.node (o742 P) .nil .nil) .nil)))) (.node (o54 P) (.node (o86 P) (.node (o150 P) (.node (o278 P) (.node (o534 P) .nil .nil) (.node (o790 P) .nil .nil)) (.node (o406 P) (.node (o662 P) .nil .nil) .nil)) (.node (o214 P) (.node (o342 P) (.node (o598 P) .nil .nil) .nil) (.node (o470 P) (.node (o726 P) .nil .nil) .nil))) (.node (o118 P) (.node (o182 P) (.node (o310 P) (.node (o566 P) .nil .nil) .nil) (.node (o438 P) (.node (o694 P) .nil .nil) .nil)) (.node (o246 P) (.node (o374 P) (.node (o630 P) .nil .nil) .nil) (.node (o502 P) (.node (o758 P) .nil .nil) .nil))))) (.node (o30 P) (.node (o46 P) (.node (o78 P) (.node (o142 P) (.node (o270 P) (.node (o526 P) .nil .nil) (.node (o782 P) .nil .nil)) (.node (o398 P) (.node (o654 P) .nil .nil) .nil)) (.node (o206 P) (.node (o334 P) (.node (o590 P) .nil .nil) .nil) (.node (o462 P) (.node (o718 P) .nil .nil) .nil))) (.node (o110 P) (.node (o174 P) (.node (o302 P) (.node (o558 P) .nil .nil) .nil) (.node (o430 P) (.node (o686 P) .nil .nil) .nil)) (.node (o238 P) (.node (o366 P) (.node (o622 P) .nil .nil) .nil) (.node (o494 P) (.node (o750 P) .nil .nil) .nil)))) (.node (o62 P) (.node (o94 P) (.node (o158 P) (.node (o286 P) (.node (o542 P) .nil .nil) (.node (o798 P) .nil .nil)) (.node (o414 P) (.node (o670 P) .nil .nil) .nil)) (.node (o222 P) (.node (o350 P) (.node (o606 P) .nil .nil) .nil) (.node (o478 P) (.node (o734 P) .nil .nil) .nil))) (.node (o126 P) (.node (o190 P) (.node (o318 P) (.node (o574 P) .nil .nil) .nil) (.node (o446 P) (.node (o702 P) .nil .nil) .nil)) (.node (o254 P) (.node (o382 P) (.node (o638 P) .nil .nil) .nil) (.node (o510 P) (.node (o766 P) .nil .nil) .nil)))))))))
noncomputable def h1 (P : Params) : Heap := ⟨⟨[o0 P, o1 P, o2v1 P, o3v5 P, o4 P, o5 P, o6 P, o7 P, o8 P, o9 P, o10 P, o11v1 P, o12 P, o13 P, o14 P, o15 P, o16 P, o17 P, o18 P, o19 P, o20 P, o21 P, o22 P, o23 P, o24 P, o25 P, o26 P, o27 P, o28 P, o29v1 P, o30 P, o31 P, o32 P, o33 P, o34 P, o35v5 P, o36 P, o37 P, o38 P, o39 P, o40 P, o41 P, o42 P, o43 P, o44 P, o45 P, o46 P, o47 P, o48 P, o49 P, o50 P, o51 P, o52 P, o53 P, o54 P, o55 P, o56 P, o57 P, o58 P, o59 P, o60 P, o61 P, o62 P, o63 P, o64 P, o65 P, o66 P, o67 P, o68 P, o69 P, o70 P, o71 P, o72 P, o73 P, o74 P, o75 P, o76 P, o77 P, o78 P, o79 P, o80 P, o81 P, o82 P, o83 P, o84 P, o85 P, o86 P, o87 P, o88 P, o89 P, o90 P, o91 P, o92 P, o93 P, o94 P, o95 P, o96 P, o97 P, o98 P, o99 P, o100 P, o101 P, o102 P, o103 P, o104 P, o105 P, o106 P, o107 P, o108 P, o109 P, o110 P, o111 P, o112 P, o113 P, o114 P, o115v1 P, o116 P, o117 P, o118 P, o119 P, o120 P, o121 P, o122 P, o123 P, o124 P, o125 P, o126 P, o127v1 P, o128 P, o129 P, o130 P, o131 P, o132 P, o133 P, o134 P, o135 P, o136 P, o137 P, o138 P, o139 P, o140 P, o141 P, o142 P, o143 P, o144 P, o145 P, o146 P, o147 P, o148 P, o149 P, o150 P, o151 P, o152 P, o153 P, o154 P, o155 P, o156 P, o157 P, o158 P, o159 P, o160 P, o161 P, o162 P, o163 P, o164 P, o165 P, o166 P, o167 P, o168 P, o169 P, o170 P, o171 P, o172 P, o173 P, o174 P, o175 P, o176 P, o177 P, o178 P, o179 P, o180 P, o181 P, o182 P, o183 P, o184 P, o185 P, o186 P, o187 P, o188 P, o189 P, o190 P, o191 P, o192 P, o193 P, o194 P, o195 P, o196 P, o197 P, o198 P, o199 P, o200 P, o201 P, o202 P, o203 P, o204 P, o205 P, o206 P, o207 P, o208 P, o209 P, o210 P, o211 P, o212 P, o213 P, o214 P, o215 P, o216 P, o217 P, o218 P, o219 P, o220 P, o221 P, o222 P, o223 P, o224 P, o225 P, o226 P, o227 P, o228 P, o229 P, o230 P, o231 P, o232 P, o233 P, o234 P, o235 P, o236 P, o237 P, o238 P, o239 P, o240 P, o241 P, o242 P, o243 P, o244 P, o245 P, o246 P, o247 P, o248 P, o249 P, o250 P, o251 P, o252 P, o253 P, o254 P, o255 P, o256 P, o257 P, o258 P, o259 P, o260 P, o261 P, o262 P, o263 P, o264 P, o265 P, o266 P, o267 P, o268 P, o269 P, o270 P, o271 P, o272 P, o273 P, o274 P, o275 P, o276 P, o277 P, o278 P, o279 P, o280 P, o281 P, o282 P, o283 P, o284 P, o285 P, o286 P, o287 P, o288 P, o289 P, o290 P, o291 P, o292 P, o293 P, o294 P, o295 P, o296 P, o297 P, o298 P, o299 P, o300 P, o301 P, o302 P, o303 P, o304 P, o305 P, o306 P, o307 P, o308 P, o309 P, o310 P, o311 P, o312 P, o313 P, o314 P, o315 P, o316 P, o317 P, o318 P, o319 P, o320 P, o321 P, o322 P, o323 P, o324 P, o325 P, o326 P, o327 P, o328 P, o329 P, o330 P, o331 P, o332 P, o333 P, o334 P, o335 P, o336 P, o337 P, o338 P, o339 P, o340 P, o341 P, o342 P, o343 P, o344 P, o345 P, o346 P, o347 P, o348 P, o349 P, o350 P, o351 P, o352 P, o353 P, o354 P, o355 P, o356 P, o357 P, o358 P, o359 P, o360 P, o361 P, o362 P, o363 P, o364 P, o365 P, o366 P, o367 P, o368 P, o369 P, o370 P, o371 P, o372 P, o373 P, o374 P, o375 P, o376 P, o377 P, o378 P, o379 P, o380 P, o381 P, o382 P, o383 P, o384 P, o385 P, o386 P, o387 P, o388 P, o389 P, o390 P, o391 P, o392 P, o393 P, o394 P, o395 P, o396 P, o397 P, o398 P, o399 P, o400 P, o401 P, o402 P, o403 P, o404 P, o405 P, o406 P, o407 P, o408 P, o409 P, o410 P, o411 P, o412 P, o413 P, o414 P, o415 P, o416 P, o417 P, o418 P, o419 P, o420 P, o421 P, o422 P, o423 P, o424 P, o425 P, o426 P, o427 P, o428 P, o429 P, o430 P, o431 P, o432 P, o433 P, o434 P, o435 P, o436 P, o437 P, o438 P, o439 P, o440 P, o441 P, o442 P, o443 P, o444 P, o445 P, o446 P, o447 P, o448 P, o449 P, o450 P, o451 P, o452 P, o453 P, o454 P, o455 P, o456 P, o457 P, o458 P, o459 P, o460 P, o461 P, o462 P, o463 P, o464 P, o465 P, o466 P, o467 P, o468 P, o469 P, o470 P, o471 P, o472 P, o473 P, o474 P, o475 P, o476 P, o477 P, o478 P, o479 P, o480 P, o481 P, o482 P, o483 P, o484 P, o485 P, o486 P, o487 P, o488 P, o489 P, o490 P, o491 P, o492 P, o493 P, o494 P, o495 P, o496 P, o497 P, o498 P, o499 P, o500 P, o501 P, o502 P, o503 P, o504 P, o505 P, o506 P, o507 P, o508 P, o509 P, o510 P, o511 P, o512 P, o513 P, o514 P, o515 P, o516 P, o517 P, o518 P, o519 P, o520 P, o521 P, o522 P, o523 P, o524 P, o525 P, o526 P, o527 P, o528 P, o529 P, o530 P, o531 P, o532 P, o533 P, o534 P, o535 P, o536 P, o537 P, o538 P, o539 P, o540 P, o541 P, o542 P, o543 P, o544 P, o545 P, o546 P, o547 P, o548 P, o549 P, o550 P, o551 P, o552 P, o553 P, o554 P, o555 P, o556 P, o557 P, o558 P, o559 P, o560 P, o561 P, o562 P, o563 P, o564 P, o565 P, o566 P, o567 P, o568 P, o569 P, o570 P, o571 P, o572 P, o573 P, o574 P, o575 P, o576 P, o577 P, o578 P, o579 P, o580 P, o581 P, o582 P, o583 P, o584 P, o585 P, o586 P, o587 P, o588 P, o589 P, o590 P, o591 P, o592 P, o593 P, o594 P, o595 P, o596 P, o597 P, o598 P, o599 P, o600 P, o601 P, o602 P, o603 P, o604 P, o605 P, o606 P, o607 P, o608 P, o609 P, o610 P, o611 P, o612 P, o613 P, o614 P, o615 P, o616 P, o617 P, o618 P, o619 P, o620 P, o621 P, o622 P, o623 P, o624 P, o625 P, o626 P, o627 P, o628 P, o629 P, o630 P, o631 P, o632 P, o633 P, o634 P, o635 P, o636 P, o637 P, o638 P, o639 P, o640 P, o641 P, o642 P, o643 P, o644 P, o645 P, o646 P, o647 P, o648 P, o649 P, o650 P, o651 P, o652 P, o653 P, o654 P, o655 P, o656 P, o657 P, o658 P, o659 P, o660 P, o661 P, o662 P, o663 P, o664 P, o665 P, o666 P, o667 P, o668 P, o669 P, o670 P, o671 P, o672 P, o673 P, o674 P, o675 P, o676 P, o677 P, o678 P, o679 P, o680 P, o681 P, o682 P, o683 P, o684 P, o685 P, o686 P, o687 P, o688 P, o689 P, o690 P, o691 P, o692 P, o693 P, o694 P, o695 P, o696 P, o697 P, o698 P, o699 P, o700 P, o701 P, o702 P, o703 P, o704 P, o705 P, o706 P, o707 P, o708 P, o709 P, o710 P, o711 P, o712 P, o713 P, o714 P, o715 P, o716 P, o717 P, o718 P, o719 P, o720 P, o721 P, o722 P, o723 P, o724 P, o725 P, o726 P, o727 P, o728 P, o729 P, o730 P, o731 P, o732 P, o733 P, o734 P, o735 P, o736 P, o737 P, o738 P, o739 P, o740 P, o741 P, o742 P, o743 P, o744 P, o745 P, o746 P, o747 P, o748 P, o749 P, o750 P, o751 P, o752 P, o753 P, o754 P, o755 P, o756 P, o757 P, o758 P, o759 P, o760 P, o761 P, o762 P, o763 P, o764 P, o765 P, o766 P, o767 P, o768 P, o769 P, o770 P, o771 P, o772 P, o773 P, o774 P, o775 P, o776 P, o777 P, o778 P, o779 P, o780 P, o781 P, o782 P, o783 P, o784 P, o785 P, o786 P, o787 P, o788 P, o789 P, o790 P, o791 P, o792 P, o793 P, o794 P, o795 P, o796 P, o797 P, o798 P, o799 P, o800 P, o801 P, o802 P]⟩, life⟩
noncomputable def env : Env := { scope := pg.main.scope, locals := mainNs, globals := mainNs, cells := [], code := .ref 36, frame := some 37 }
noncomputable def bd : List Stmt := behindTheImports pg
noncomputable def cE : Code := .body (behindTheImports pg) env
noncomputable abbrev ann : Option Value := some (.ref 6)
noncomputable abbrev dr : Drawn := ⟨0, 0, 0, 0⟩
noncomputable abbrev fp : Pos := ⟨0, 0, 0, 0⟩
noncomputable def impEndT (tb : String → Option Builtin) (p : Program) (w : World) : Nat → SharedT → Thread → Option SharedT
  | 0, _, _ => none
  | n + 1, s, t => match t.atExitBegin with
    | some [] => some s
    | some (_ :: _) => none
    | none => match stepT (denote tb) p w s t with
      | some (s', t') => impEndT tb p w n s' t'
      | none => none
theorem impEndT_of {tb : String → Option Builtin} {p : Program} {w : World} : ∀ {n : Nat} {s s' : SharedT} {t : Thread}, impEndT tb p w n s t = some s' → importEnds tb p w n s.abs t = some s'.abs
  | 0, _, _, _, h => by cases h
  | n + 1, s, s', t, h => by
    unfold impEndT at h
    unfold importEnds
    cases he : t.atExitBegin with
    | some x =>
      rw [he] at h
      cases x with
      | nil => cases h; rfl
      | cons => cases h
    | none =>
      rw [he] at h
      cases hs : stepT (denote tb) p w s t with
      | none => rw [hs] at h; cases h
      | some r =>
        obtain ⟨s₂, t₂⟩ := r
        rw [hs] at h
        dsimp only
        rw [stepT_spec hs]
        exact impEndT_of h
theorem starts (w : World) : (start (opening pg)).1 = (SharedT.mk (tS w.params) 0 life #[] dr 1 (start (opening pg)).1.os).abs := by kernel_rfl
theorem opensT (w : World) (os : OsState) : impEndT treeTable (opening pg) w 1086 ⟨tS w.params, 0, life, #[], dr, 1, os⟩ (start (opening pg)).2 = some ⟨tI w.params, 34, life, #[], dr, 318, os⟩ := by kernel_rfl
theorem opens (w : World) : importEnds treeTable (opening pg) w 1086 (start (opening pg)).1 (start (opening pg)).2 = some ⟨hI w.params, #[], dr, 318, (start (opening pg)).1.os⟩ :=
  (congrArg (fun s => importEnds treeTable (opening pg) w 1086 s (start (opening pg)).2) (starts w)).trans (impEndT_of (opensT w (start (opening pg)).1.os))
theorem fenced (w : World) : (fun os => (fenceModules? pg ⟨hI w.params, #[], dr, 318, os⟩).map (fun s => (s.heap, s.gens, s.drawn, s.toks))) = fun _ => some (h0 w.params, #[], dr, 318) := by kernel_rfl
theorem sized (w : World) : ((h0 w.params).isNs mainGlobals && (#[] : Array GenState).size == 0, (h0 w.params).objs.size, (h0 w.params).nsMap mainGlobals "__annotations__") = (true, 34, ann) := by kernel_rfl
theorem pre (w : World) (os : OsState) : topGo treeTable pg w 34 ann 12 ⟨h0 w.params, #[], dr, 318, os⟩ (topStub pg) = some (⟨hA w.params, #[], dr, 324, os⟩, ⟨denote treeTable cE, cE, (⟨0, 0, 0, 0⟩ : Pos), [topFrame fp]⟩) := by kernel_rfl
theorem block (w : World) (os : OsState) : segRun treeTable pg w 34 ann 1 1 ⟨hA w.params, #[], dr, 324, os⟩ (blockOf bd env cE (⟨0, 0, 0, 0⟩ : Pos) [topFrame fp]) = some (.next, (SharedT.mk (tB w.params) 38 life #[] dr 324 os).abs, cE, (⟨0, 0, 0, 0⟩ : Pos)) := by kernel_rfl
theorem g0 (w : World) (os : OsState) : segRunT treeTable pg w 34 ann 1 1116 ⟨tB w.params, 38, life, #[], dr, 324, os⟩ (piecesOf ((bd).take 11) env cE (⟨0, 0, 0, 0⟩ : Pos) [topFrame fp]) = some (.next, ⟨t0 w.params, 130, life, #[], dr, 491, os⟩, cE, (⟨44, 0, 45, 21⟩ : Pos)) := by kernel_rfl
theorem g1 (w : World) (os : OsState) : segRunT treeTable pg w 34 ann 1 1278 ⟨t0 w.params, 130, life, #[], dr, 491, os⟩ (piecesOf (((bd).drop 11).take 1) env cE (⟨44, 0, 45, 21⟩ : Pos) [topFrame fp]) = some (.next, ⟨t1 w.params, 360, life, #[], dr, 753, os⟩, cE, (⟨46, 0, 215, 17⟩ : Pos)) := by kernel_rfl
theorem g2 (w : World) (os : OsState) : segRunT treeTable pg w 34 ann 1 1578 ⟨t1 w.params, 360, life, #[], dr, 753, os⟩ (piecesOf ((((bd).drop 11).drop 1).take 1) env cE (⟨46, 0, 215, 17⟩ : Pos) [topFrame fp]) = some (.next, ⟨t2 w.params, 607, life, #[], dr, 1040, os⟩, cE, (⟨216, 0, 420, 17⟩ : Pos)) := by kernel_rfl
theorem g3 (w : World) (os : OsState) : segRunT treeTable pg w 34 ann 1 849 ⟨t2 w.params, 607, life, #[], dr, 1040, os⟩ (piecesOf (((((bd).drop 11).drop 1).drop 1).take 10) env cE (⟨216, 0, 420, 17⟩ : Pos) [topFrame fp]) = some (.next, ⟨t3 w.params, 744, life, #[], dr, 1240, os⟩, cE, (⟨486, 0, 737, 20⟩ : Pos)) := by kernel_rfl
theorem g4 (w : World) (os : OsState) : segRunT treeTable pg w 34 ann 1 315 ⟨t3 w.params, 744, life, #[], dr, 1240, os⟩ (piecesOf ((((((bd).drop 11).drop 1).drop 1).drop 10).take 12) env cE (⟨486, 0, 737, 20⟩ : Pos) [topFrame fp]) = some (.next, ⟨t4 w.params, 803, life, #[], dr, 1320, os⟩, cE, (⟨791, 0, 802, 15⟩ : Pos)) := by kernel_rfl
theorem fin (w : World) (os : OsState) : topRun treeTable pg w 34 ann 2 (SharedT.mk (t4 w.params) 803 life #[] dr 1320 os).abs ⟨doneF .next, cE, (⟨791, 0, 802, 15⟩ : Pos), [topFrame fp]⟩ = some ⟨h1 w.params, #[], dr, 1320, os⟩ := by kernel_rfl
theorem over : (((((bd).drop 11).drop 1).drop 1).drop 10).drop 12 = [] := by kernel_rfl
theorem runs (w : World) (os : OsState) : topRun treeTable pg w 34 ann (12 + (1 + (1116 + (1278 + (1578 + (849 + (315 + 2))))))) ⟨h0 w.params, #[], dr, 318, os⟩ (topStub pg) = some ⟨h1 w.params, #[], dr, 1320, os⟩ := by
  refine go_top (pre w os) (piece_block (b := bd) (block w os) ?_)
  rw [← List.take_append_drop 11 (bd)]
  refine piece_app (segRun_of (g0 w os)) ?_
  rw [← List.take_append_drop 1 ((bd).drop 11)]
  refine piece_app (segRun_of (g1 w os)) ?_
  rw [← List.take_append_drop 1 (((bd).drop 11).drop 1)]
  refine piece_app (segRun_of (g2 w os)) ?_
  rw [← List.take_append_drop 10 ((((bd).drop 11).drop 1).drop 1)]
  refine piece_app (segRun_of (g3 w os)) ?_
  rw [← List.take_append_drop 12 (((((bd).drop 11).drop 1).drop 1).drop 10)]
  refine piece_app (segRun_of (g4 w os)) ?_
  rw [over]
  exact piece_nil (fin w os)
theorem opened (w : World) : (fencedOpening treeTable pg w 20000).map (fun s => (s.heap, s.gens, s.drawn, s.toks)) = some (h0 w.params, #[], dr, 318) :=
  open_cut (He := hI) (M := 1086) opens (by decide) fenced w
noncomputable def K (P : Params) : Frag := (nat_lit 2, o2v1 P) :: (nat_lit 3, o3v5 P) :: (nat_lit 38, o38 P) :: (nat_lit 40, o40 P) :: (nat_lit 41, o41 P) :: (nat_lit 43, o43 P) :: (nat_lit 44, o44 P) :: (nat_lit 45, o45 P) :: (nat_lit 47, o47 P) :: (nat_lit 48, o48 P) :: (nat_lit 50, o50 P) :: (nat_lit 51, o51 P) :: (nat_lit 55, o55 P) :: (nat_lit 56, o56 P) :: (nat_lit 57, o57 P) :: (nat_lit 59, o59 P) :: (nat_lit 60, o60 P) :: (nat_lit 62, o62 P) :: (nat_lit 63, o63 P) :: (nat_lit 64, o64 P) :: (nat_lit 66, o66 P) :: (nat_lit 67, o67 P) :: (nat_lit 69, o69 P) :: (nat_lit 70, o70 P) :: (nat_lit 71, o71 P) :: (nat_lit 78, o78 P) :: (nat_lit 79, o79 P) :: (nat_lit 80, o80 P) :: (nat_lit 81, o81 P) :: (nat_lit 91, o91 P) :: (nat_lit 93, o93 P) :: (nat_lit 94, o94 P) :: (nat_lit 96, o96 P) :: (nat_lit 97, o97 P) :: (nat_lit 98, o98 P) :: (nat_lit 99, o99 P) :: (nat_lit 100, o100 P) :: (nat_lit 101, o101 P) :: (nat_lit 102, o102 P) :: (nat_lit 103, o103 P) :: (nat_lit 106, o106 P) :: (nat_lit 113, o113 P) :: (nat_lit 114, o114 P) :: (nat_lit 115, o115v1 P) :: (nat_lit 118, o118 P) :: (nat_lit 125, o125 P) :: (nat_lit 126, o126 P) :: (nat_lit 127, o127v1 P) :: (nat_lit 130, o130 P) :: (nat_lit 137, o137 P) :: (nat_lit 138, o138 P) :: (nat_lit 140, o140 P) :: (nat_lit 141, o141 P) :: (nat_lit 143, o143 P) :: (nat_lit 144, o144 P) :: (nat_lit 145, o145 P) :: (nat_lit 147, o147 P) :: (nat_lit 148, o148 P) :: (nat_lit 150, o150 P) :: (nat_lit 151, o151 P) :: (nat_lit 152, o152 P) :: (nat_lit 154, o154 P) :: (nat_lit 155, o155 P) :: (nat_lit 157, o157 P) :: (nat_lit 158, o158 P) :: (nat_lit 159, o159 P) :: (nat_lit 161, o161 P) :: (nat_lit 162, o162 P) :: (nat_lit 164, o164 P) :: (nat_lit 165, o165 P) :: (nat_lit 166, o166 P) :: (nat_lit 167, o167 P) :: (nat_lit 169, o169 P) :: (nat_lit 170, o170 P) :: (nat_lit 172, o172 P) :: (nat_lit 173, o173 P) :: (nat_lit 174, o174 P) :: (nat_lit 176, o176 P) :: (nat_lit 177, o177 P) :: (nat_lit 179, o179 P) :: (nat_lit 180, o180 P) :: (nat_lit 181, o181 P) :: (nat_lit 183, o183 P) :: (nat_lit 184, o184 P) :: (nat_lit 186, o186 P) :: (nat_lit 187, o187 P) :: (nat_lit 188, o188 P) :: (nat_lit 190, o190 P) :: (nat_lit 191, o191 P) :: (nat_lit 193, o193 P) :: (nat_lit 194, o194 P) :: (nat_lit 195, o195 P) :: (nat_lit 197, o197 P) :: (nat_lit 198, o198 P) :: (nat_lit 200, o200 P) :: (nat_lit 201, o201 P) :: (nat_lit 202, o202 P) :: (nat_lit 204, o204 P) :: (nat_lit 205, o205 P) :: (nat_lit 207, o207 P) :: (nat_lit 208, o208 P) :: (nat_lit 209, o209 P) :: (nat_lit 211, o211 P) :: (nat_lit 212, o212 P) :: (nat_lit 214, o214 P) :: (nat_lit 215, o215 P) :: (nat_lit 216, o216 P) :: (nat_lit 218, o218 P) :: (nat_lit 219, o219 P) :: (nat_lit 221, o221 P) :: (nat_lit 222, o222 P) :: (nat_lit 223, o223 P) :: (nat_lit 225, o225 P) :: (nat_lit 226, o226 P) :: (nat_lit 228, o228 P) :: (nat_lit 229, o229 P) :: (nat_lit 230, o230 P) :: (nat_lit 232, o232 P) :: (nat_lit 233, o233 P) :: (nat_lit 235, o235 P) :: (nat_lit 236, o236 P) :: (nat_lit 237, o237 P) :: (nat_lit 239, o239 P) :: (nat_lit 240, o240 P) :: (nat_lit 242, o242 P) :: (nat_lit 243, o243 P) :: (nat_lit 244, o244 P) :: (nat_lit 246, o246 P) :: (nat_lit 247, o247 P) :: (nat_lit 249, o249 P) :: (nat_lit 250, o250 P) :: (nat_lit 251, o251 P) :: (nat_lit 253, o253 P) :: (nat_lit 254, o254 P) :: (nat_lit 256, o256 P) :: (nat_lit 257, o257 P) :: (nat_lit 258, o258 P) :: (nat_lit 259, o259 P) :: (nat_lit 261, o261 P) :: (nat_lit 262, o262 P) :: (nat_lit 264, o264 P) :: (nat_lit 265, o265 P) :: (nat_lit 266, o266 P) :: (nat_lit 267, o267 P) :: (nat_lit 269, o269 P) :: (nat_lit 270, o270 P) :: (nat_lit 272, o272 P) :: (nat_lit 273, o273 P) :: (nat_lit 274, o274 P) :: (nat_lit 275, o275 P) :: (nat_lit 277, o277 P) :: (nat_lit 278, o278 P) :: (nat_lit 280, o280 P) :: (nat_lit 281, o281 P) :: (nat_lit 282, o282 P) :: (nat_lit 283, o283 P) :: (nat_lit 285, o285 P) :: (nat_lit 286, o286 P) :: (nat_lit 288, o288 P) :: (nat_lit 289, o289 P) :: (nat_lit 290, o290 P) :: (nat_lit 292, o292 P) :: (nat_lit 293, o293 P) :: (nat_lit 295, o295 P) :: (nat_lit 296, o296 P) :: (nat_lit 297, o297 P) :: (nat_lit 299, o299 P) :: (nat_lit 300, o300 P) :: (nat_lit 302, o302 P) :: (nat_lit 303, o303 P) :: (nat_lit 304, o304 P) :: (nat_lit 305, o305 P) :: (nat_lit 307, o307 P) :: (nat_lit 308, o308 P) :: (nat_lit 310, o310 P) :: (nat_lit 311, o311 P) :: (nat_lit 312, o312 P) :: (nat_lit 313, o313 P) :: (nat_lit 315, o315 P) :: (nat_lit 316, o316 P) :: (nat_lit 318, o318 P) :: (nat_lit 319, o319 P) :: (nat_lit 320, o320 P) :: (nat_lit 322, o322 P) :: (nat_lit 323, o323 P) :: (nat_lit 325, o325 P) :: (nat_lit 326, o326 P) :: (nat_lit 327, o327 P) :: (nat_lit 329, o329 P) :: (nat_lit 330, o330 P) :: (nat_lit 332, o332 P) :: (nat_lit 333, o333 P) :: (nat_lit 334, o334 P) :: (nat_lit 336, o336 P) :: (nat_lit 337, o337 P) :: (nat_lit 339, o339 P) :: (nat_lit 340, o340 P) :: (nat_lit 341, o341 P) :: (nat_lit 343, o343 P) :: (nat_lit 344, o344 P) :: (nat_lit 346, o346 P) :: (nat_lit 347, o347 P) :: (nat_lit 348, o348 P) :: (nat_lit 350, o350 P) :: (nat_lit 351, o351 P) :: (nat_lit 353, o353 P) :: (nat_lit 354, o354 P) :: (nat_lit 355, o355 P) :: (nat_lit 356, o356 P) :: (nat_lit 357, o357 P) :: (nat_lit 360, o360 P) :: (nat_lit 367, o367 P) :: (nat_lit 368, o368 P) :: (nat_lit 370, o370 P) :: (nat_lit 371, o371 P) :: (nat_lit 373, o373 P) :: (nat_lit 374, o374 P) :: (nat_lit 375, o375 P) :: (nat_lit 377, o377 P) :: (nat_lit 378, o378 P) :: (nat_lit 380, o380 P) :: (nat_lit 381, o381 P) :: (nat_lit 382, o382 P) :: (nat_lit 384, o384 P) :: (nat_lit 385, o385 P) :: (nat_lit 387, o387 P) :: (nat_lit 388, o388 P) :: (nat_lit 389, o389 P) :: (nat_lit 391, o391 P) :: (nat_lit 392, o392 P) :: (nat_lit 394, o394 P) :: (nat_lit 395, o395 P) :: (nat_lit 396, o396 P) :: (nat_lit 398, o398 P) :: (nat_lit 399, o399 P) :: (nat_lit 401, o401 P) :: (nat_lit 402, o402 P) :: (nat_lit 403, o403 P) :: (nat_lit 405, o405 P) :: (nat_lit 406, o406 P) :: (nat_lit 408, o408 P) :: (nat_lit 409, o409 P) :: (nat_lit 410, o410 P) :: (nat_lit 411, o411 P) :: (nat_lit 413, o413 P) :: (nat_lit 414, o414 P) :: (nat_lit 416, o416 P) :: (nat_lit 417, o417 P) :: (nat_lit 418, o418 P) :: (nat_lit 419, o419 P) :: (nat_lit 421, o421 P) :: (nat_lit 422, o422 P) :: (nat_lit 424, o424 P) :: (nat_lit 425, o425 P) :: (nat_lit 426, o426 P) :: (nat_lit 427, o427 P) :: (nat_lit 429, o429 P) :: (nat_lit 430, o430 P) :: (nat_lit 432, o432 P) :: (nat_lit 433, o433 P) :: (nat_lit 434, o434 P) :: (nat_lit 435, o435 P) :: (nat_lit 437, o437 P) :: (nat_lit 438, o438 P) :: (nat_lit 440, o440 P) :: (nat_lit 441, o441 P) :: (nat_lit 442, o442 P) :: (nat_lit 443, o443 P) :: (nat_lit 445, o445 P) :: (nat_lit 446, o446 P) :: (nat_lit 448, o448 P) :: (nat_lit 449, o449 P) :: (nat_lit 450, o450 P) :: (nat_lit 452, o452 P) :: (nat_lit 453, o453 P) :: (nat_lit 455, o455 P) :: (nat_lit 456, o456 P) :: (nat_lit 457, o457 P) :: (nat_lit 459, o459 P) :: (nat_lit 460, o460 P) :: (nat_lit 462, o462 P) :: (nat_lit 463, o463 P) :: (nat_lit 464, o464 P) :: (nat_lit 466, o466 P) :: (nat_lit 467, o467 P) :: (nat_lit 469, o469 P) :: (nat_lit 470, o470 P) :: (nat_lit 471, o471 P) :: (nat_lit 473, o473 P) :: (nat_lit 474, o474 P) :: (nat_lit 476, o476 P) :: (nat_lit 477, o477 P) :: (nat_lit 478, o478 P) :: (nat_lit 480, o480 P) :: (nat_lit 481, o481 P) :: (nat_lit 483, o483 P) :: (nat_lit 484, o484 P) :: (nat_lit 485, o485 P) :: (nat_lit 487, o487 P) :: (nat_lit 488, o488 P) :: (nat_lit 490, o490 P) :: (nat_lit 491, o491 P) :: (nat_lit 492, o492 P) :: (nat_lit 494, o494 P) :: (nat_lit 495, o495 P) :: (nat_lit 497, o497 P) :: (nat_lit 498, o498 P) :: (nat_lit 499, o499 P) :: (nat_lit 501, o501 P) :: (nat_lit 502, o502 P) :: (nat_lit 504, o504 P) :: (nat_lit 505, o505 P) :: (nat_lit 506, o506 P) :: (nat_lit 508, o508 P) :: (nat_lit 509, o509 P) :: (nat_lit 511, o511 P) :: (nat_lit 512, o512 P) :: (nat_lit 513, o513 P) :: (nat_lit 515, o515 P) :: (nat_lit 516, o516 P) :: (nat_lit 518, o518 P) :: (nat_lit 519, o519 P) :: (nat_lit 520, o520 P) :: (nat_lit 522, o522 P) :: (nat_lit 523, o523 P) :: (nat_lit 525, o525 P) :: (nat_lit 526, o526 P) :: (nat_lit 527, o527 P) :: (nat_lit 528, o528 P) :: (nat_lit 530, o530 P) :: (nat_lit 531, o531 P) :: (nat_lit 533, o533 P) :: (nat_lit 534, o534 P) :: (nat_lit 535, o535 P) :: (nat_lit 536, o536 P) :: (nat_lit 538, o538 P) :: (nat_lit 539, o539 P) :: (nat_lit 541, o541 P) :: (nat_lit 542, o542 P) :: (nat_lit 543, o543 P) :: (nat_lit 544, o544 P) :: (nat_lit 546, o546 P) :: (nat_lit 547, o547 P) :: (nat_lit 549, o549 P) :: (nat_lit 550, o550 P) :: (nat_lit 551, o551 P) :: (nat_lit 552, o552 P) :: (nat_lit 554, o554 P) :: (nat_lit 555, o555 P) :: (nat_lit 557, o557 P) :: (nat_lit 558, o558 P) :: (nat_lit 559, o559 P) :: (nat_lit 560, o560 P) :: (nat_lit 562, o562 P) :: (nat_lit 563, o563 P) :: (nat_lit 565, o565 P) :: (nat_lit 566, o566 P) :: (nat_lit 567, o567 P) :: (nat_lit 569, o569 P) :: (nat_lit 570, o570 P) :: (nat_lit 572, o572 P) :: (nat_lit 573, o573 P) :: (nat_lit 574, o574 P) :: (nat_lit 576, o576 P) :: (nat_lit 577, o577 P) :: (nat_lit 579, o579 P) :: (nat_lit 580, o580 P) :: (nat_lit 581, o581 P) :: (nat_lit 583, o583 P) :: (nat_lit 584, o584 P) :: (nat_lit 586, o586 P) :: (nat_lit 587, o587 P) :: (nat_lit 588, o588 P) :: (nat_lit 590, o590 P) :: (nat_lit 591, o591 P) :: (nat_lit 593, o593 P) :: (nat_lit 594, o594 P) :: (nat_lit 595, o595 P) :: (nat_lit 597, o597 P) :: (nat_lit 598, o598 P) :: (nat_lit 600, o600 P) :: (nat_lit 601, o601 P) :: (nat_lit 602, o602 P) :: (nat_lit 603, o603 P) :: (nat_lit 604, o604 P) :: (nat_lit 607, o607 P) :: (nat_lit 609, o609 P) :: (nat_lit 610, o610 P) :: (nat_lit 612, o612 P) :: (nat_lit 613, o613 P) :: (nat_lit 614, o614 P) :: (nat_lit 616, o616 P) :: (nat_lit 617, o617 P) :: (nat_lit 619, o619 P) :: (nat_lit 620, o620 P) :: (nat_lit 621, o621 P) :: (nat_lit 623, o623 P) :: (nat_lit 624, o624 P) :: (nat_lit 626, o626 P) :: (nat_lit 627, o627 P) :: (nat_lit 628, o628 P) :: (nat_lit 630, o630 P) :: (nat_lit 631, o631 P) :: (nat_lit 633, o633 P) :: (nat_lit 634, o634 P) :: (nat_lit 635, o635 P) :: (nat_lit 637, o637 P) :: (nat_lit 638, o638 P) :: (nat_lit 640, o640 P) :: (nat_lit 641, o641 P) :: (nat_lit 642, o642 P) :: (nat_lit 644, o644 P) :: (nat_lit 645, o645 P) :: (nat_lit 647, o647 P) :: (nat_lit 648, o648 P) :: (nat_lit 656, o656 P) :: (nat_lit 657, o657 P) :: (nat_lit 659, o659 P) :: (nat_lit 660, o660 P) :: (nat_lit 662, o662 P) :: (nat_lit 663, o663 P) :: (nat_lit 664, o664 P) :: (nat_lit 666, o666 P) :: (nat_lit 667, o667 P) :: (nat_lit 669, o669 P) :: (nat_lit 670, o670 P) :: (nat_lit 671, o671 P) :: (nat_lit 672, o672 P) :: (nat_lit 674, o674 P) :: (nat_lit 675, o675 P) :: (nat_lit 677, o677 P) :: (nat_lit 678, o678 P) :: (nat_lit 679, o679 P) :: (nat_lit 680, o680 P) :: (nat_lit 682, o682 P) :: (nat_lit 683, o683 P) :: (nat_lit 685, o685 P) :: (nat_lit 686, o686 P) :: (nat_lit 687, o687 P) :: (nat_lit 689, o689 P) :: (nat_lit 690, o690 P) :: (nat_lit 692, o692 P) :: (nat_lit 693, o693 P) :: (nat_lit 694, o694 P) :: (nat_lit 696, o696 P) :: (nat_lit 697, o697 P) :: (nat_lit 699, o699 P) :: (nat_lit 700, o700 P) :: (nat_lit 701, o701 P) :: (nat_lit 703, o703 P) :: (nat_lit 704, o704 P) :: (nat_lit 706, o706 P) :: (nat_lit 707, o707 P) :: (nat_lit 708, o708 P) :: (nat_lit 710, o710 P) :: (nat_lit 711, o711 P) :: (nat_lit 713, o713 P) :: (nat_lit 714, o714 P) :: (nat_lit 715, o715 P) :: (nat_lit 716, o716 P) :: (nat_lit 718, o718 P) :: (nat_lit 719, o719 P) :: (nat_lit 721, o721 P) :: (nat_lit 722, o722 P) :: (nat_lit 723, o723 P) :: (nat_lit 725, o725 P) :: (nat_lit 726, o726 P) :: (nat_lit 728, o728 P) :: (nat_lit 729, o729 P) :: (nat_lit 730, o730 P) :: (nat_lit 732, o732 P) :: (nat_lit 733, o733 P) :: (nat_lit 735, o735 P) :: (nat_lit 736, o736 P) :: (nat_lit 737, o737 P) :: (nat_lit 738, o738 P) :: (nat_lit 739, o739 P) :: (nat_lit 740, o740 P) :: (nat_lit 741, o741 P) :: (nat_lit 744, o744 P) :: (nat_lit 745, o745 P) :: (nat_lit 747, o747 P) :: (nat_lit 748, o748 P) :: (nat_lit 750, o750 P) :: (nat_lit 751, o751 P) :: (nat_lit 752, o752 P) :: (nat_lit 754, o754 P) :: (nat_lit 755, o755 P) :: (nat_lit 757, o757 P) :: (nat_lit 758, o758 P) :: (nat_lit 759, o759 P) :: (nat_lit 760, o760 P) :: (nat_lit 762, o762 P) :: (nat_lit 763, o763 P) :: (nat_lit 765, o765 P) :: (nat_lit 766, o766 P) :: (nat_lit 767, o767 P) :: (nat_lit 769, o769 P) :: (nat_lit 770, o770 P) :: (nat_lit 772, o772 P) :: (nat_lit 773, o773 P) :: (nat_lit 774, o774 P) :: (nat_lit 777, o777 P) :: (nat_lit 778, o778 P) :: (nat_lit 779, o779 P) :: (nat_lit 781, o781 P) :: (nat_lit 782, o782 P) :: (nat_lit 784, o784 P) :: (nat_lit 785, o785 P) :: (nat_lit 786, o786 P) :: (nat_lit 788, o788 P) :: (nat_lit 789, o789 P) :: (nat_lit 791, o791 P) :: (nat_lit 792, o792 P) :: (nat_lit 793, o793 P) :: (nat_lit 796, o796 P) :: (nat_lit 797, o797 P) :: (nat_lit 798, o798 P) :: (nat_lit 801, o801 P) :: (nat_lit 802, o802 P) :: []
noncomputable def addrs : List Addr := [2, 3, 38, 40, 41, 43, 44, 45, 47, 48, 50, 51, 55, 56, 57, 59, 60, 62, 63, 64, 66, 67, 69, 70, 71, 78, 79, 80, 81, 91, 93, 94, 96, 97, 98, 99, 100, 101, 102, 103, 106, 113, 114, 115, 118, 125, 126, 127, 130, 137, 138, 140, 141, 143, 144, 145, 147, 148, 150, 151, 152, 154, 155, 157, 158, 159, 161, 162, 164, 165, 166, 167, 169, 170, 172, 173, 174, 176, 177, 179, 180, 181, 183, 184, 186, 187, 188, 190, 191, 193, 194, 195, 197, 198, 200, 201, 202, 204, 205, 207, 208, 209, 211, 212, 214, 215, 216, 218, 219, 221, 222, 223, 225, 226, 228, 229, 230, 232, 233, 235, 236, 237, 239, 240, 242, 243, 244, 246, 247, 249, 250, 251, 253, 254, 256, 257, 258, 259, 261, 262, 264, 265, 266, 267, 269, 270, 272, 273, 274, 275, 277, 278, 280, 281, 282, 283, 285, 286, 288, 289, 290, 292, 293, 295, 296, 297, 299, 300, 302, 303, 304, 305, 307, 308, 310, 311, 312, 313, 315, 316, 318, 319, 320, 322, 323, 325, 326, 327, 329, 330, 332, 333, 334, 336, 337, 339, 340, 341, 343, 344, 346, 347, 348, 350, 351, 353, 354, 355, 356, 357, 360, 367, 368, 370, 371, 373, 374, 375, 377, 378, 380, 381, 382, 384, 385, 387, 388, 389, 391, 392, 394, 395, 396, 398, 399, 401, 402, 403, 405, 406, 408, 409, 410, 411, 413, 414, 416, 417, 418, 419, 421, 422, 424, 425, 426, 427, 429, 430, 432, 433, 434, 435, 437, 438, 440, 441, 442, 443, 445, 446, 448, 449, 450, 452, 453, 455, 456, 457, 459, 460, 462, 463, 464, 466, 467, 469, 470, 471, 473, 474, 476, 477, 478, 480, 481, 483, 484, 485, 487, 488, 490, 491, 492, 494, 495, 497, 498, 499, 501, 502, 504, 505, 506, 508, 509, 511, 512, 513, 515, 516, 518, 519, 520, 522, 523, 525, 526, 527, 528, 530, 531, 533, 534, 535, 536, 538, 539, 541, 542, 543, 544, 546, 547, 549, 550, 551, 552, 554, 555, 557, 558, 559, 560, 562, 563, 565, 566, 567, 569, 570, 572, 573, 574, 576, 577, 579, 580, 581, 583, 584, 586, 587, 588, 590, 591, 593, 594, 595, 597, 598, 600, 601, 602, 603, 604, 607, 609, 610, 612, 613, 614, 616, 617, 619, 620, 621, 623, 624, 626, 627, 628, 630, 631, 633, 634, 635, 637, 638, 640, 641, 642, 644, 645, 647, 648, 656, 657, 659, 660, 662, 663, 664, 666, 667, 669, 670, 671, 672, 674, 675, 677, 678, 679, 680, 682, 683, 685, 686, 687, 689, 690, 692, 693, 694, 696, 697, 699, 700, 701, 703, 704, 706, 707, 708, 710, 711, 713, 714, 715, 716, 718, 719, 721, 722, 723, 725, 726, 728, 729, 730, 732, 733, 735, 736, 737, 738, 739, 740, 741, 744, 745, 747, 748, 750, 751, 752, 754, 755, 757, 758, 759, 760, 762, 763, 765, 766, 767, 769, 770, 772, 773, 774, 777, 778, 779, 781, 782, 784, 785, 786, 788, 789, 791, 792, 793, 796, 797, 798, 801, 802]
theorem addrs_K (P : Params) : addrs = (K P).map (·.1) := by kernel_rfl
noncomputable abbrev hook : Hook := kmHook K addrs addrs_K [753]
noncomputable def q : Program := view pg [0, 1, 2, 4, 5, 7, 8, 9, 10, 11, 12, 13, 14, 16, 17, 18, 19, 21, 22, 24, 26, 27, 28, 29, 31, 32, 33, 34, 35, 36]
noncomputable def loose : List PySem.Str := [Str.ofString "_twin_re_1", Str.ofString "UnsupportedOperation", Str.ofString "IOBase", Str.ofString "BufferedIOBase", Str.ofString "TextIOBase", Str.ofString "BytesIO", Str.ofString "StringIO", Str.ofString "join_path", Str.ofString "shlex", Str.ofString "split", Str.ofString "join_shlex", Str.ofString "_find_unsafe"]
noncomputable abbrev rr : RowW := OpenRow.toRowW PySem.Challenge.rw_mq0393_01.row
noncomputable abbrev Xt : Shared → Bool := fun s => xlAt q [] s && recOk (RowW.records rr) s
theorem look1 (w : World) : (fun os => (staticsOk (importedModules pg.main.body) (h0 w.params) (h1 w.params) && namesBound pg (h1 w.params) && gensDone ⟨h1 w.params, #[], dr, 1320, os⟩ && laidKept (h0 w.params) (h1 w.params))) = fun _ => true := by kernel_rfl
theorem look2 (w : World) : (fun os => openSeen q loose (importedModules pg.main.body) Xt true ⟨h1 w.params, #[], dr, 1320, os⟩) = fun _ => openGood q loose := by kernel_rfl
theorem look3 (w : World) : (fun os => hook.obs ⟨h1 w.params, #[], dr, 1320, os⟩) = fun _ => hook.val w := by kernel_rfl
theorem left : LeftO PySem.Challenge.rw_mq0393_01.row.prog q loose Xt (Hook.obs hook) (Hook.val hook) 20000 :=
  LeftO.of_pieces (p := pg) (H₀ := h0) (H₁ := h1) opened (fun w => sized w) (fun w os => runs w os) (by decide +kernel) fun w => by
    have a := look1 w
    have b := look2 w
    have c := look3 w
    funext os
    exact looks_pair (congrFun a os) (looks_pair (congrFun b os) (congrFun c os))
end Mine.H
end

open PySem PySem.W PyProof.Rows PySem.Builtin PySem.Builtin.Str
-- the lines are compiled without closed terms: else the compiled file is over the limit
set_option compiler.extract_closed false
namespace Mine

/- own groundwork: entry of a def with the ledger's bound, distinctness over a ledger's open tail, str.find/rfind with two bounds -/
noncomputable def find4 (x y : Str) (i j : Int) : Int := match occurrences x y (fromIndex x.length i) (min (fromIndex x.length j) x.length) 1 with | k :: _ => (k : Int) | [] => -1
noncomputable def rfind4 (x y : Str) (i j : Int) : Int := match lastOccurrence x y (fromIndex x.length i) (min (fromIndex x.length j) x.length) with | some k => (k : Int) | none => -1
theorem gives_find4 (x y : Str) (i j : Int) (t u v v' : Tok) : Gives (Builtin.«str.find» ⟨[.str x t, .str y u, .int i v, .int j v'], []⟩) (.int (find4 x y i j)) := by
  unfold find4
  show Gives (match occurrences x y (fromIndex x.length i) (min (fromIndex x.length j) x.length) 1 with | k :: _ => retInt k | [] => (do rule "str.find.not-found"; retInt (-1))) _
  cases occurrences x y (fromIndex x.length i) (min (fromIndex x.length j) x.length) 1 with
  | nil => exact .rule (.of_eq rfl)
  | cons k _ => exact .of_eq rfl
theorem gives_rfind4 (x y : Str) (i j : Int) (t u v v' : Tok) : Gives (Builtin.«str.rfind» ⟨[.str x t, .str y u, .int i v, .int j v'], []⟩) (.int (rfind4 x y i j)) := by
  unfold rfind4
  show Gives (match lastOccurrence x y (fromIndex x.length i) (min (fromIndex x.length j) x.length) with | some k => retInt k | none => (do rule "str.rfind.not-found"; retInt (-1))) _
  cases lastOccurrence x y (fromIndex x.length i) (min (fromIndex x.length j) x.length) with
  | none => exact .rule (.of_eq rfl)
  | some k => exact .of_eq rfl
section
variable {prog : Program} {w : World} {A : Around} {E : Value → Shared → Prop} {s : Shared} {x y : Str} {t u v v' : Tok} {i j : Int} {Q : Value → Shared → Prop}
theorem call_find4 (hq : Q (.int (find4 x y i j) s.toks) { s with toks := s.toks + 1 }) : wpAny (model prog w) A (call (.builtin "str.find") [.str x t, .str y u, .int i v, .int j v']) Q E s :=
  call_gives F.slot_str_find (typeIs_str _ _ _) F.entry_str_find (F.args_str_find_4 _ _ _ _) (gives_find4 x y i j t u v v') hq
theorem call_rfind4 (hq : Q (.int (rfind4 x y i j) s.toks) { s with toks := s.toks + 1 }) : wpAny (model prog w) A (call (.builtin "str.rfind") [.str x t, .str y u, .int i v, .int j v']) Q E s :=
  call_gives F.slot_str_rfind (typeIs_str _ _ _) F.entry_str_rfind (F.args_str_rfind_4 _ _ _ _) (gives_rfind4 x y i j t u v v') hq
end

/-- every address of the ledger lies below N -/
noncomputable def NB (N : Nat) (news : List (Addr × Obj)) : Prop := ∀ p ∈ news, p.1 < N
theorem NB.ne {N d : Nat} {news : List (Addr × Obj)} (h : NB N news) (hd : N ≤ d) : ∀ p ∈ news, p.1 ≠ d := fun p hp => Nat.ne_of_lt (Nat.lt_of_lt_of_le (h p hp) hd)
theorem nb_of {N : Nat} {news : List (Addr × Obj)} (h : ∀ p ∈ news, p.1 < N) : NB N news := h

section
variable {prog : Program} {w : World} {A A₀ : Around} {s : Shared} {K : Frag} {L : Addr} {h₀ base : Heap} {m mg mb : Str → Option Value} {news : List (Addr × Obj)} {p : Program} {loose : List Str} {mean : ExcName → Option Value}
theorem enter_plain {env : Env} {outer : List Env} {R : Result → Shared → Prop} {name qual : Str} {params : Arguments} {body : List Stmt} {scope : Scope} {dV kV doc pm cdv ct oc : Value} {an od : Option Addr} {osl : Array (Option Value)} {f : Addr} {args : Args} {binds : List (Str × Value)}
    (B : Below A₀ base outer h₀) (F : Fr h₀ L s.heap m) (X₀ : K.In h₀) (N : News h₀ L s.heap news) (T : Top p loose mean mg mb h₀) (hA : A.frames = some (env :: outer)) (hf : env.frame = some L) (hke : env.scope.kind = .function)
    (ho : K.lookup f = some ⟨oc, od, .func (fnOf name qual params body scope dV kV doc pm an cdv ct), osl⟩) (hcd : codeIn K cdv qual = true) (hroom : A.depth < recursionLimit)
    (hbind : BindsTo s (fnOf name qual params body scope dV kV doc pm an cdv ct) args binds) (hloc : ∀ y ∈ binds, scope.names.lookup y.1 = some .local)
    (h : ∀ g L' h₁, Fr h₀ L g m → Fr g L' h₁ (fun y => binds.reverse.lookup y) → News g L' h₁ news → Below A base (env :: outer) g → K.In g → Top p loose mean mg mb g → NB L' news →
      wpAny (model prog w) (A.deeper (envOf qual scope L' f cdv)) (execs body (envOf qual scope L' f cdv))
        (fun fl s' => LeaveK h₀ L m g R (match fl with | .ret v => v | _ => .none) s')
        (fun e s' => wpAny (model prog w) (A.deeper (envOf qual scope L' f cdv)) (leaving (envOf qual scope L' f cdv) e) (fun _ s'' => R (.error e) s'') (fun e' s'' => R (.error e') s'') s')
        { s with heap := h₁, toks := s.toks + binds.length })
    (hco : scope.isCoroutine = false) (hgen : scope.isGenerator = false) (hk : scope.kind = .function)
    (hcell : ∀ x ∈ scope.names, x.2 ≠ .cell) : codeAny (model prog w) A (.call (.ref f) args) R s :=
  callX_plain (cl := []) B F N T.nolimit hA hf hke ((X₀.keeps F.keep) _ _ ho) rfl (codeRec_of (X₀.keeps F.keep) hcd) hroom hbind hloc (fun g L' h₁ FG F' N' B' st l => h g L' h₁ FG F' N' B' (X₀.keeps st) (T.keeps st) l) hcell hco hgen hk
end

section
variable {prog : Program} {w : World} {A : Around} {E : Value → Shared → Prop} {s : Shared} {h₀ : Heap} {L : Addr} {m : Str → Option Value} {news : List (Addr × Obj)}
/-- a list comprehension over a text's signs, with closures -/
theorem listComp_signs {env : Env} {elt iter : Expr} {x : Str} {px : Pos} {ifs : List Expr} {scope : Scope} {cl : List (Str × Addr)} {pos : Pos} {Q : Value → Shared → Prop} {y : Str} {t : Tok} {pz : Str → Bool} {d : Str → PyData}
    (hh : A.handled = none) (F : Fr h₀ L s.heap m) (N : News h₀ L s.heap news) (hclos : closureFor scope env = pure cl) (hcell : ∀ y ∈ scope.names, y.2 ≠ .cell) (hkind : scope.kind = .function)
    (hnames : ∀ y ∈ scope.names, y.2 = .local → scope.names.lookup y.1 = some .local) (hx : scope.names.lookup x = some .local)
    (hiter : ∀ Q' : Value → Shared → Prop, Q' (.str y t) s → wpAny (model prog w) A (eval iter env) Q' E s)
    (g1 : ∀ C a v s₂ m₂ E', ItemKind.str.is a v → s₂.heap.Ns C m₂ → m₂ x = some v → (∀ b o, s.heap.get? b = some o → s₂.heap.get? b = some o) →
        wpAny (model prog w) A (forIn ifs true fun c r => if r = true then do let ok ← isTrue c (compEnvC scope cl C env) (eval c (compEnvC scope cl C env)); pure (ForInStep.yield ok) else pure (ForInStep.yield r))
          (fun ok s₃ => ok = pz a ∧ Keeps s₂ s₃) E' s₂)
    (g2 : ∀ C a v s₂ m₂ E', ItemKind.str.is a v → pz a = true → s₂.heap.Ns C m₂ → m₂ x = some v → (∀ b o, s.heap.get? b = some o → s₂.heap.get? b = some o) →
        wpAny (model prog w) A (eval elt (compEnvC scope cl C env)) (fun r s₃ => Carried r (d a) ∧ Keeps s₂ s₃) E' s₂)
    (g3 : ∀ D (ys : List Value) h' tk, Fr h₀ L h' m → News h₀ L h' news → h₀.get? D = none → h'.IsList D ys.toArray → NewPlain h' news D ys.toArray → CarriedAll ys (((signs y).filter pz).map d) → Q (.ref D) { s with heap := h', toks := tk })
    (hsz : y.length ≤ sizeLine) (hs : ∀ x, foldedSetIterable iter env x = pure x := by intro _; rfl) :
    wpAny (model prog w) A (eval (.ListComp elt [⟨.Name x px, iter, ifs, 0⟩] scope pos) env) Q E s := by
  refine wpAny_ListComp_free (ItemKind.str.lift pz) (fun v r => ∃ a, ItemKind.str.is a v ∧ Carried r (d a)) hclos hcell hkind hnames hx (hiter _ ?_) hs
  refine wpAny_pyIter_str fun o St W hst => ?_
  have up : ∀ (h' : Heap), (∀ b o', b ∉ [s.heap.objs.size] → (s.heap.push o).get? b = some o' → h'.get? b = some o') → ∀ b o', s.heap.get? b = some o' → h'.get? b = some o' :=
    fun h' hk b o' e => hk b o' (old_not_new e) (Heap.get?_push_of_some _ e)
  refine ⟨s.heap.objs.size, [s.heap.objs.size], [s.heap.objs.size], y.cps.size, SignAt y, St, rfl, W A hh, hsz, hst, ?_, ⟨?_, ?_⟩, ?_⟩
  · intro b hb
    show b < (s.heap.push o).objs.size
    rw [Heap.size_push, List.mem_singleton.mp hb]
    exact Nat.lt_succ_self _
  · intro C i v s₃ m₃ E' _ hP hn hm hk _
    obtain ⟨c, u, _, rfl⟩ := hP
    have ha : ItemKind.str.is ⟨#[c]⟩ (.str ⟨#[c]⟩ u) := ⟨u, rfl⟩
    rw [ItemKind.lift_is ha]
    exact g1 C _ _ s₃ m₃ E' ha hn hm (up _ hk)
  · intro C i v s₃ m₃ E' _ hP hp hn hm hk _
    obtain ⟨c, u, _, rfl⟩ := hP
    have ha : ItemKind.str.is ⟨#[c]⟩ (.str ⟨#[c]⟩ u) := ⟨u, rfl⟩
    rw [ItemKind.lift_is ha] at hp
    exact wpAny_mono (g2 C _ _ s₃ m₃ E' ha hp hn hm (up _ hk)) (fun r s₄ h₄ => ⟨⟨_, ha, h₄.1⟩, h₄.2⟩) fun _ _ e => e
  · intro D h' tk ys vs hnew hlD hplD hlen hP hF hk
    refine g3 D ys.toList h' tk (F.keeps (up h' hk)) (N.grown (up h' hk)) ?_ (by rw [Array.toArray_toList]; exact hlD) ⟨by rw [Array.toArray_toList]; exact hplD, fun p hp e => by rw [← e, Heap.get?_push_of_some _ (N p hp).1] at hnew; cases hnew⟩ ((areOf_signs hlen hP).paired pz d _ hF)
    cases e : h₀.get? D with
    | none => rfl
    | some o' => rw [Heap.get?_push_of_some _ (F.keep _ _ e)] at hnew; cases hnew
end

theorem Keeps.rfl' (s : Shared) : Keeps s s := ⟨s.heap, s.toks, rfl, fun _ _ e => e⟩
/-- what _law_bare's comprehension leaves -/
noncomputable def notBare (a : Str) : Bool := !Txt.contains (Str.ofString "abcdefghijklmnopqrstuvwxyzABCDEFGHIJKLMNOPQRSTUVWXYZ0123456789_@%+=:,./-") a
noncomputable abbrev scopeBareComp : Scope := { kind := .function, names := [(Str.ofString ".0", .local), (Str.ofString "sign", .local), (Str.ofString "bare", .free)], isGenerator := false, isCoroutine := false, more := [] }
section
variable {prog : Program} {w : World} {A : Around} {E : Value → Shared → Prop} {s : Shared} {h₀ : Heap} {L : Addr} {m : Str → Option Value} {news : List (Addr × Obj)}
theorem comp_bare {cn : Str} {cs : Scope} {a c : Addr} {ccd : Value} {cl : List (Str × Addr)} {o : Obj} {p1 p2 p3 p4 p5 p6 pos : Pos} {y : Str} {t tb : Tok} {Q : Value → Shared → Prop}
    (hh : A.handled = none) (F : Fr h₀ L s.heap m) (N : News h₀ L s.heap news) (hm : m (Str.ofString "word") = some (.str y t)) (hc : (c, o) ∈ news)
    (hd : o.data = .cell (some (.str (Str.ofString "abcdefghijklmnopqrstuvwxyzABCDEFGHIJKLMNOPQRSTUVWXYZ0123456789_@%+=:,./-") tb)))
    (hclos : closureFor scopeBareComp (envX cn cs L a ccd cl) = pure [(Str.ofString "bare", c)]) (hk : cs.kind = .function) (hw : (envX cn cs L a ccd cl).kindOf (Str.ofString "word") = some .local) (hb : (envX cn cs L a ccd cl).kindOf (Str.ofString "bare") = some .cell)
    (g3 : ∀ D (ys : List Value) h' tk, Fr h₀ L h' m → News h₀ L h' news → h₀.get? D = none → h'.IsList D ys.toArray → NewPlain h' news D ys.toArray → CarriedAll ys (((signs y).filter notBare).map PyData.str) → Q (.ref D) { s with heap := h', toks := tk })
    (hsz : y.length ≤ sizeLine) :
    wpAny (model prog w) A (eval (.ListComp (.Name (Str.ofString "sign") p1) [⟨.Name (Str.ofString "sign") p2, .Name (Str.ofString "word") p3, [.Compare (.Name (Str.ofString "sign") p4) [.NotIn] [.Name (Str.ofString "bare") p5] p6], 0⟩] scopeBareComp pos) (envX cn cs L a ccd cl)) Q E s := by
  have hcell : s.heap.IsCell c (some (.str (Str.ofString "abcdefghijklmnopqrstuvwxyzABCDEFGHIJKLMNOPQRSTUVWXYZ0123456789_@%+=:,./-") tb)) := ⟨o, N.get hc, hd⟩
  refine listComp_signs (pz := notBare) (d := PyData.str) hh F N hclos (by decide) rfl (by decide) rfl (fun Q' hq => wpAny_Name (wpAny_loadName_local hk hw F.ns hm hq) (by decide)) ?_ ?_ g3 hsz
  · intro C b v s₂ m₂ E' hbv hn hmv hup
    obtain ⟨u, rfl⟩ := hbv
    have hcell2 : s₂.heap.IsCell c (some (.str (Str.ofString "abcdefghijklmnopqrstuvwxyzABCDEFGHIJKLMNOPQRSTUVWXYZ0123456789_@%+=:,./-") tb)) := ⟨o, hup _ _ (N.get hc), hd⟩
    have kS : (compEnvC scopeBareComp [(Str.ofString "bare", c)] C (envX cn cs L a ccd cl)).kindOf (Str.ofString "sign") = some .local := rfl
    have kB : (compEnvC scopeBareComp [(Str.ofString "bare", c)] C (envX cn cs L a ccd cl)).kindOf (Str.ofString "bare") = some .cell := by
      simp only [compEnvC, relabel, Env.kindOf] at hb ⊢
      simp [hk, hb]
      rfl
    refine wpAny_tests_one (wpAny_isTrue_Compare1 (ldVarK hn hmv (ldCellK rfl hcell2 (SB.notContains (wpAny_truthy_bool ⟨rfl, Keeps.rfl' _⟩)) rfl kB)))
  · intro C b v s₂ m₂ E' hbv _ hn hmv hup
    obtain ⟨u, rfl⟩ := hbv
    exact ldVarK hn hmv ⟨.str _ _, Keeps.rfl' _⟩
end

theorem okSigns {x : Str} (h : PyData.strOk x = true) (p : Str → Bool) : ∀ y ∈ (signs x).filter p, PyData.strOk y = true := fun y hy => by
  obtain ⟨n, hn, rfl⟩ := List.mem_map.mp (List.mem_filter.mp hy).1
  have := (Array.all_eq_true'.mp h) n (Array.mem_toList_iff.mp hn)
  simpa [PyData.strOk] using this
theorem canLayStrs : ∀ ss : List Str, (∀ x ∈ ss, PyData.strOk x = true) → PyData.canLayAll0 (ss.map PyData.str) = true
  | [], _ => rfl
  | x :: r, h => by simp [PyData.canLayAll0, PyData.canLay0, canLayStrs r (fun y hy => h y (.tail _ hy)), h x (.head _)]
theorem depthStrs : ∀ ss : List Str, PyData.depthAll (ss.map PyData.str) = 0
  | [] => rfl
  | _ :: r => by simp [PyData.depthAll, PyData.depth, depthStrs r]
theorem shapedStrs (ss : List Str) (h : ∀ x ∈ ss, PyData.strOk x = true) : SeqAt.shaped (.list (ss.map PyData.str)) = true := by
  simp [SeqAt.shaped, PyData.canLay0, PyData.depth, canLayStrs ss h, depthStrs]
theorem sameStrs : ∀ ns ms : List Str, PySem.Spec.sameAll (ns.map PyData.str) (ms.map PyData.str) = decide (ns = ms)
  | [], [] => by simp [PySem.Spec.sameAll]
  | [], _ :: _ => by simp [PySem.Spec.sameAll]
  | _ :: _, [] => by simp [PySem.Spec.sameAll]
  | a :: r, b :: t => by
    simp only [List.map_cons, PySem.Spec.sameAll, PySem.Spec.same, sameStrs r t]
    by_cases h : a = b <;> by_cases h' : r = t <;> simp [h, h']
theorem sameStrL (ns ms : List Str) : PySem.Spec.same (.list (ns.map PyData.str)) (.list (ms.map PyData.str)) = decide (ns = ms) := by
  simp only [PySem.Spec.same]; exact sameStrs ns ms
section
variable {prog : Program} {w : World} {A : Around} {E : Value → Shared → Prop} {s : Shared} {a b : Addr} {xs ys : List Value} {ns ms : List Str} {Q : Value → Shared → Prop}
theorem eq_strs (ha : s.heap.IsList a xs.toArray) (hb : s.heap.IsList b ys.toArray) (hi : CarriedAll xs (ns.map PyData.str)) (hj : CarriedAll ys (ms.map PyData.str)) (hns : ∀ x ∈ ns, PyData.strOk x = true) (hms : ∀ x ∈ ms, PyData.strOk x = true) (hu : A.units + 64 < cLine) (h : Q (.bool (decide (ns = ms))) s) :
    wpAny (model prog w) A (compareOp .Eq (.ref a) (.ref b)) Q E s :=
  eq_dataH_same (reads_newData ha hi) (reads_newData hb hj) (shapedStrs _ hns) (shapedStrs _ hms) hu (SeqAt.noMix_of_shape (.list .str) rfl _ _ (list_map_has fun _ => rfl) (list_map_has fun _ => rfl)) (by rw [sameStrL]; exact h)
theorem ne_strs (ha : s.heap.IsList a xs.toArray) (hb : s.heap.IsList b ys.toArray) (hi : CarriedAll xs (ns.map PyData.str)) (hj : CarriedAll ys (ms.map PyData.str)) (hns : ∀ x ∈ ns, PyData.strOk x = true) (hms : ∀ x ∈ ms, PyData.strOk x = true) (hu : A.units + 64 < cLine) (h : Q (.bool (!decide (ns = ms))) s) :
    wpAny (model prog w) A (compareOp .NotEq (.ref a) (.ref b)) Q E s :=
  ne_dataH_same (reads_newData ha hi) (reads_newData hb hj) (shapedStrs _ hns) (shapedStrs _ hms) hu (SeqAt.noMix_of_shape (.list .str) rfl _ _ (list_map_has fun _ => rfl) (list_map_has fun _ => rfl)) (by rw [sameStrL]; exact h)
theorem eq_strs_nil (ha : s.heap.IsList a xs.toArray) (hb : s.heap.IsList b ([] : List Value).toArray) (hi : CarriedAll xs (ns.map PyData.str)) (hns : ∀ x ∈ ns, PyData.strOk x = true) (hu : A.units + 64 < cLine) (h : Q (.bool (decide (ns = []))) s) :
    wpAny (model prog w) A (compareOp .Eq (.ref a) (.ref b)) Q E s := eq_strs (ms := []) ha hb hi .nil hns (fun _ h => nomatch h) hu h
end
theorem news_tl {h₀ h : Heap} {L : Addr} {a : Addr × Obj} {news : List (Addr × Obj)} (N : News h₀ L h (a :: news)) : News h₀ L h news := fun p hp => N p (.tail _ hp)
noncomputable def bareF (x : Str) : Bool := decide (x ≠ Str.ofString "") && decide ((signs x).filter notBare = [])
theorem bareF_yes {x : Str} (h : (x != Str.ofString "") = true) : Value.bool (decide ((signs x).filter notBare = [])) = .bool (bareF x) := by
  simp only [bne_iff_ne] at h
  simp [bareF, h]
theorem bareF_no {x : Str} (h : (x != Str.ofString "") = false) : Value.bool (x != Str.ofString "") = .bool (bareF x) := by
  rw [h]
  simp only [bne_eq_false_iff_eq] at h
  simp [bareF, h]
theorem small_sign {i : Int} (h0 : 0 ≤ i) (h1 : i < 10) : (Txt.charAt (Str.ofString "a.:b' \n\"\\.") i).getD 0 < 1114112 := by
  have : i = 0 ∨ i = 1 ∨ i = 2 ∨ i = 3 ∨ i = 4 ∨ i = 5 ∨ i = 6 ∨ i = 7 ∨ i = 8 ∨ i = 9 := by omega
  rcases this with rfl | rfl | rfl | rfl | rfl | rfl | rfl | rfl | rfl | rfl <;> decide +kernel
theorem fm_pos (n : Int) {k : Int} (hk : 0 < k) : 0 ≤ n.fmod k ∧ n.fmod k < k := ⟨Int.fmod_nonneg_of_pos n hk, Int.fmod_lt_of_pos n hk⟩

/- _strip_exception_details -/
noncomputable def e1F (x : Str) : Int := if 0 ≤ Txt.find x (Str.ofString "\n") then Txt.find x (Str.ofString "\n") else x.length
noncomputable def e2F (x : Str) : Int := if 0 ≤ find4 x (Str.ofString ":") 0 (e1F x) then find4 x (Str.ofString ":") 0 (e1F x) else e1F x
noncomputable def b2F (x : Str) : Int := if 0 ≤ rfind4 x (Str.ofString ".") 0 (e2F x) then rfind4 x (Str.ofString ".") 0 (e2F x) + 1 else 0
noncomputable def stripF (x : Str) : Str := Txt.slice x (some (b2F x)) (some (e2F x))
section
variable {x : Str} {r : Int} {t : Tok}
theorem e1_of (hr : 0 ≤ Txt.find x (Str.ofString "\n") ∧ r = Txt.find x (Str.ofString "\n") ∨ ¬0 ≤ Txt.find x (Str.ofString "\n") ∧ r = x.length) : r = e1F x := by
  unfold e1F
  rcases hr with ⟨h, e⟩ | ⟨h, e⟩ <;> simp [h, e]
theorem strip_yy (hr : 0 ≤ Txt.find x (Str.ofString "\n") ∧ r = Txt.find x (Str.ofString "\n") ∨ ¬0 ≤ Txt.find x (Str.ofString "\n") ∧ r = x.length) (h1 : 0 ≤ find4 x (Str.ofString ":") 0 r)
    (h2 : 0 ≤ rfind4 x (Str.ofString ".") 0 (find4 x (Str.ofString ":") 0 r)) :
    Value.str (Txt.slice x (some (rfind4 x (Str.ofString ".") 0 (find4 x (Str.ofString ":") 0 r) + 1)) (some (find4 x (Str.ofString ":") 0 r))) t = .str (stripF x) t := by
  obtain rfl := e1_of hr
  simp only [stripF, b2F, e2F, if_pos h1, if_pos h2]
theorem strip_yn (hr : 0 ≤ Txt.find x (Str.ofString "\n") ∧ r = Txt.find x (Str.ofString "\n") ∨ ¬0 ≤ Txt.find x (Str.ofString "\n") ∧ r = x.length) (h1 : 0 ≤ find4 x (Str.ofString ":") 0 r)
    (h2 : ¬ 0 ≤ rfind4 x (Str.ofString ".") 0 (find4 x (Str.ofString ":") 0 r)) :
    Value.str (Txt.slice x (some 0) (some (find4 x (Str.ofString ":") 0 r))) t = .str (stripF x) t := by
  obtain rfl := e1_of hr
  simp only [stripF, b2F, e2F, if_pos h1, if_neg h2]
theorem strip_ny (hr : 0 ≤ Txt.find x (Str.ofString "\n") ∧ r = Txt.find x (Str.ofString "\n") ∨ ¬0 ≤ Txt.find x (Str.ofString "\n") ∧ r = x.length) (h1 : ¬ 0 ≤ find4 x (Str.ofString ":") 0 r)
    (h2 : 0 ≤ rfind4 x (Str.ofString ".") 0 r) :
    Value.str (Txt.slice x (some (rfind4 x (Str.ofString ".") 0 r + 1)) (some r)) t = .str (stripF x) t := by
  obtain rfl := e1_of hr
  simp only [stripF, b2F, e2F, if_neg h1, if_pos h2]
theorem strip_nn (hr : 0 ≤ Txt.find x (Str.ofString "\n") ∧ r = Txt.find x (Str.ofString "\n") ∨ ¬0 ≤ Txt.find x (Str.ofString "\n") ∧ r = x.length) (h1 : ¬ 0 ≤ find4 x (Str.ofString ":") 0 r)
    (h2 : ¬ 0 ≤ rfind4 x (Str.ofString ".") 0 r) :
    Value.str (Txt.slice x (some 0) (some r)) t = .str (stripF x) t := by
  obtain rfl := e1_of hr
  simp only [stripF, b2F, e2F, if_neg h1, if_neg h2]
end

/- _law_spelled -/
noncomputable def spellC (a : Str) : Str := if (a == Str.ofString "'") = true then Str.ofString "'\"'\"'" else a
noncomputable def spellJ (x : Str) : Str := Txt.join (Str.ofString "") ((signs x).map spellC)
noncomputable def spelledF (x : Str) (b : Bool) : Str := if b then x else Str.ofString "'" ++ spellJ x ++ Str.ofString "'"
theorem spellC_len {y a : Str} (h : a ∈ signs y) : (spellC a).length ≤ 5 := by
  unfold spellC
  split
  · decide +kernel
  · rw [sign_length_one y a h]; decide
theorem carried_spell {ys : List Value} {x : Str} (h : CarriedAll ys (List.map (fun a => if (a == Str.ofString "'") = true then PyData.str (Str.ofString "'\"'\"'") else PyData.str a) (List.filter (fun _ => true) (signs x)))) :
    StrsAre ys ((signs x).map spellC) := by
  refine StrsAre.of_carried ?_
  have e : List.map (fun a => if (a == Str.ofString "'") = true then PyData.str (Str.ofString "'\"'\"'") else PyData.str a) (List.filter (fun _ => true) (signs x)) = List.map PyData.str ((signs x).map spellC) := by
    rw [filter_allG, List.map_map]
    refine List.map_congr_left fun a _ => ?_
    simp only [Function.comp, spellC]
    split <;> rfl
  rw [e] at h
  exact h
theorem spell_sum (x : Str) : (((signs x).map spellC).map (·.length)).sum ≤ 5 * x.length := by
  have := sumLen_le_of_bound spellC 5 (signs x) (fun a ha => spellC_len ha)
  rwa [signs_length] at this
theorem spellJ_len (x : Str) : (spellJ x).length ≤ 5 * x.length := by
  have h1 := StrLaws.join_length_le (Str.ofString "") ((signs x).map spellC)
  have h2 := spell_sum x
  have e : (Str.ofString "").length = 0 := by decide +kernel
  rw [e, Nat.mul_zero] at h1
  unfold spellJ Txt.join
  rw [StrLaws.glued_eq_join]
  omega
section
variable {prog : Program} {w : World} {A : Around} {E : Value → Shared → Prop} {s : Shared} {x : Str} {t : Tok} {D : Addr} {ys : List Value} {Q : Value → Shared → Prop}
theorem join_spell (hl : s.heap.IsList D ys.toArray) (hc : CarriedAll ys (List.map (fun a => if (a == Str.ofString "'") = true then PyData.str (Str.ofString "'\"'\"'") else PyData.str a) (List.filter (fun _ => true) (signs x)))) (hx : x.length ≤ 1000)
    (h : ∀ z t' k, z = spellJ x → z.length ≤ 5000 → Q (.str z t') { s with toks := k }) : wpAny (model prog w) A (call (.builtin "str.join") [.str (Str.ofString "") t, .ref D]) Q E s := by
  refine join_list (items := ys.toArray) hl (by rw [List.toList_toArray]; exact carried_spell hc) ?_ fun t' k => h _ t' k rfl ?_
  · have := spell_sum x
    have e : (Str.ofString "").length = 0 := by decide +kernel
    rw [e, Nat.mul_zero]
    omega
  · have := spellJ_len x
    show (spellJ x).length ≤ 5000
    omega
end
theorem spelled_yes {x : Str} {b : Bool} {t : Tok} (h : b = true) : Value.str x t = .str (spelledF x b) t := by simp [spelledF, h]
theorem spelled_no {x z : Str} {b : Bool} {t : Tok} (h : b = false) (hz : z = spellJ x) : Value.str (Str.ofString "'" ++ z ++ Str.ofString "'") t = .str (spelledF x b) t := by simp [spelledF, h, hz]
/-- a mark at which the walk stops -/
structure Halt (P : Prop) : Prop where
  out : P

-- the regular expression of shlex.quote (its compiled words)
noncomputable def reCode : Array Nat := #[14, 17, 4, 1, 1, 21, 9, 0, 604043296, 1, 0, 0, 0, 0, 0, 8, 4, 0, 13, 14, 21, 9, 0, 604043296, 1, 0, 0, 0, 0, 0, 8, 4, 0, 1]
noncomputable def charsetB (c : Nat) : Bool := decide (c < 256) && (reCode.getD (6 + (1 + c / 32)) 0).testBit (c % 32)
noncomputable def safeC (c : Nat) : Bool := charsetB c || Sre.isWord c
theorem charset20 (c : Nat) : (decide (c < 256) && (reCode.getD (21 + (1 + c / 32)) 0).testBit (c % 32)) = charsetB c := by
  unfold charsetB
  by_cases h : c < 256
  · have : c / 32 < 8 := by omega
    have : c / 32 = 0 ∨ c / 32 = 1 ∨ c / 32 = 2 ∨ c / 32 = 3 ∨ c / 32 = 4 ∨ c / 32 = 5 ∨ c / 32 = 6 ∨ c / 32 = 7 := by omega
    rcases this with e | e | e | e | e | e | e | e <;> rw [e] <;> rfl
  · simp [h]
theorem inSet5 (c : Nat) (seen : Sre.Seen) : ∃ seen', Sre.inSet reCode c 34 5 true seen = .ok (!safeC c, seen') := by
  have e : Sre.inSet reCode c 34 5 true seen = if (decide (c < 256) && (reCode.getD (6 + (1 + c / 32)) 0).testBit (c % 32)) = true then .ok (false, (seen.add 21).add 9)
      else (if Sre.isWord c = true then .ok (false, (((seen.add 21).add 9).add 8).add 59) else .ok (true, ((((seen.add 21).add 9).add 8).add 59).add 0)) := by
    show (if (decide (c < 256) && (reCode.getD (6 + (1 + c / 32)) 0).testBit (c % 32)) = true then _ else _) = _
    congr 1
    show (do if ← Sre.category 4 c then pure _ else _) = _
    cases h : Sre.isWord c with
    | true =>
      have : Sre.category 4 c = .ok true := by simp [Sre.category, h, Except.map]
      rw [this]; rfl
    | false =>
      have : Sre.category 4 c = .ok false := by simp [Sre.category, h, Except.map]
      rw [this]; rfl
  rw [e]
  change ∃ seen', (if charsetB c = true then _ else _) = _
  unfold safeC
  cases charsetB c <;> cases Sre.isWord c <;> exact ⟨_, rfl⟩
theorem inSet20 (c : Nat) (seen : Sre.Seen) : ∃ seen', Sre.inSet reCode c 34 20 true seen = .ok (!safeC c, seen') := by
  have e : Sre.inSet reCode c 34 20 true seen = if (decide (c < 256) && (reCode.getD (21 + (1 + c / 32)) 0).testBit (c % 32)) = true then .ok (false, (seen.add 21).add 9)
      else (if Sre.isWord c = true then .ok (false, (((seen.add 21).add 9).add 8).add 59) else .ok (true, ((((seen.add 21).add 9).add 8).add 59).add 0)) := by
    show (if (decide (c < 256) && (reCode.getD (21 + (1 + c / 32)) 0).testBit (c % 32)) = true then _ else _) = _
    congr 1
    show (do if ← Sre.category 4 c then pure _ else _) = _
    cases h : Sre.isWord c with
    | true =>
      have : Sre.category 4 c = .ok true := by simp [Sre.category, h, Except.map]
      rw [this]; rfl
    | false =>
      have : Sre.category 4 c = .ok false := by simp [Sre.category, h, Except.map]
      rw [this]; rfl
  rw [e, charset20]
  unfold safeC
  cases charsetB c <;> cases Sre.isWord c <;> exact ⟨_, rfl⟩
theorem admitted_is (m : Sre.M) (hc : m.code = reCode) : ∀ (fuel s : Nat) (seen : Sre.Seen), m.lim < s + fuel →
    (∃ seen', Sre.M.admitted m fuel s seen = .ok (none, seen') ∧ ∀ i, s ≤ i → i < m.lim → safeC (m.text.getD i 0) = true) ∨
    (∃ k seen', Sre.M.admitted m fuel s seen = .ok (some k, seen') ∧ k < m.lim ∧ safeC (m.text.getD k 0) = false)
  | 0, s, seen, h => .inl ⟨seen, rfl, fun i h1 h2 => by omega⟩
  | fuel + 1, s, seen, h => by
    by_cases hs : s ≥ m.lim
    · refine .inl ⟨seen, ?_, fun i h1 h2 => by omega⟩
      unfold Sre.M.admitted
      rw [if_pos hs]
    · obtain ⟨seen', e⟩ := inSet5 (m.text.getD s 0) seen
      have e' : Sre.inSet m.code (m.text.getD s 0) m.code.size 5 true seen = .ok (!safeC (m.text.getD s 0), seen') := by rw [hc]; exact e
      unfold Sre.M.admitted
      rw [if_neg hs, e']
      cases hq : safeC (m.text.getD s 0) with
      | false => exact .inr ⟨s, seen', rfl, by omega, hq⟩
      | true =>
        rcases admitted_is m hc fuel (s + 1) seen' (by omega) with ⟨sn, a, b⟩ | ⟨k, sn, a, b⟩
        · refine .inl ⟨sn, a, fun i h1 h2 => ?_⟩
          by_cases hi : i = s
          · rw [hi]; exact hq
          · exact b i (by omega) h2
        · exact .inr ⟨k, sn, a, b⟩
noncomputable def reM (text : Array Nat) : Sre.M :=
  { code := reCode, text, lim := text.size, start := 0, pc := 18, pos := 0, handed := 0, marks := #[], mustAdvance := false, seen := ({} : Sre.Seen).add 14, lastStart := text.size }
theorem forSearch_is (text : Array Nat) (h : 0 < text.size) : Sre.forSearch reCode text 0 0 text.size false = (reM text).attemptFrom 0 true := by
  have e : Sre.forSearch reCode text 0 0 text.size false = if (decide (0 > text.size) || decide (text.size - 0 < 1)) = true then (({ reM text with lastStart := 0 }).say false) else (reM text).attemptFrom 0 true := rfl
  rw [e, if_neg (by rw [Bool.or_eq_true, decide_eq_true_eq, decide_eq_true_eq]; omega)]
theorem search_runs (text : Array Nat) (h : 0 < text.size) :
    ((∀ i, i < text.size → safeC (text.getD i 0) = true) ∧ ((Sre.forSearch reCode text 0 0 text.size false).runFor 4).outcome = some .failed) ∨
    ((∃ i, i < text.size ∧ safeC (text.getD i 0) = false) ∧ ((Sre.forSearch reCode text 0 0 text.size false).runFor 4).outcome = some .matched) := by
  rw [forSearch_is text h]
  unfold Sre.M.attemptFrom
  have hf : (reM text).hasFirstSet = true := rfl
  rw [if_neg (show ¬ ((!(reM text).hasFirstSet) = true) from by rw [hf]; decide)]
  rcases admitted_is (reM text) rfl ((reM text).lim + 1 - 0) 0 (reM text).seen (by show text.size < _; show text.size < 0 + (text.size + 1 - 0); omega) with ⟨sn, a, b⟩ | ⟨k, sn, a, b, c⟩
  · left
    refine ⟨fun i hi => b i (Nat.zero_le _) hi, ?_⟩
    rw [a]
    rfl
  · right
    refine ⟨⟨k, b, c⟩, ?_⟩
    rw [a]
    have c' : safeC (text.getD k 0) = false := c
    have b' : ¬ k ≥ text.size := Nat.not_le.mpr b
    obtain ⟨sn', e⟩ := inSet20 (text.getD k 0) (sn.add 13)
    rw [c'] at e
    have ea : Sre.accepts reCode 18 (text.getD k 0) (sn.add 13) = .ok (true, sn') := e
    let f : Sre.Frame := { wait := .nextStart, pc := 18, pos := k, outermost := true }
    let m1 : Sre.M := { reM text with mustAdvance := false, seen := sn, start := k, pos := k, lastmark := -1, lastindex := -1, frames := [f], weight := 1, pc := 18, handed := k, outermost := true }
    let m2 : Sre.M := { m1 with seen := sn', pc := 33, pos := k + 1 }
    have s1 : m1.step = m2 := by
      show (if k ≥ text.size then _ else match Sre.accepts reCode 18 (text.getD k 0) (sn.add 13) with
        | .error why => _
        | .ok (false, seen) => _
        | .ok (true, seen) => ({ m1 with seen, pc := 33, pos := k + 1 } : Sre.M)) = m2
      rw [if_neg b', ea]
    show (Sre.M.runFor 3 m1.step).outcome = _
    rw [s1]
    rfl

/- replace of the apostrophe, and the law's own spelling: the same text -/
noncomputable def escL : List Nat → List Nat := fun l => l.flatMap fun k => if k = 39 then [39, 34, 39, 34, 39] else [k]
theorem escL_app (a b : List Nat) : escL (a ++ b) = escL a ++ escL b := by simp [escL]
theorem escL_free : ∀ l : List Nat, 39 ∉ l → escL l = l
  | [], _ => rfl
  | k :: r, h => by
    have h1 : ¬ k = 39 := fun e => h (e ▸ List.mem_cons_self ..)
    have h2 : 39 ∉ r := fun q => h (List.mem_cons_of_mem _ q)
    have ih := escL_free r h2
    unfold escL at ih ⊢
    rw [List.flatMap_cons, if_neg h1, ih]; rfl
theorem escL_join : ∀ parts : List Str, (∀ p ∈ parts, 39 ∉ p.cps.toList) → escL (Str.join ⟨#[39]⟩ parts).cps.toList = (Str.join ⟨#[39, 34, 39, 34, 39]⟩ parts).cps.toList
  | [], _ => rfl
  | [p], h => escL_free _ (h p (List.mem_singleton.mpr rfl))
  | p :: q :: r, h => by
    have ih := escL_join (q :: r) fun a ha => h a (List.mem_cons_of_mem _ ha)
    show escL (p ++ ⟨#[39]⟩ ++ Str.join ⟨#[39]⟩ (q :: r)).cps.toList = (p ++ ⟨#[39, 34, 39, 34, 39]⟩ ++ Str.join ⟨#[39, 34, 39, 34, 39]⟩ (q :: r)).cps.toList
    simp only [Str.cps_append, Array.toList_append]
    rw [escL_app, escL_app, ih, escL_free _ (h p (List.mem_cons_self ..))]
    rfl
theorem quote1 : Str.ofString "'" = ⟨#[39]⟩ := by decide +kernel
theorem quote5 : Str.ofString "'\"'\"'" = ⟨#[39, 34, 39, 34, 39]⟩ := by decide +kernel
theorem replace_esc (x : Str) : (Txt.replace x (Str.ofString "'") (Str.ofString "'\"'\"'")).cps.toList = escL x.cps.toList := by
  rw [quote1, quote5, StrLaws.replace_one, ← escL_join _ (StrLaws.split_free x 39), StrLaws.join_split]
theorem join_empty : ∀ l : List Str, (Str.join (Str.ofString "") l).cps.toList = l.flatMap fun a => a.cps.toList
  | [] => rfl
  | [p] => by simp [Str.join]
  | p :: q :: r => by
    have ih := join_empty (q :: r)
    show (p ++ Str.ofString "" ++ Str.join (Str.ofString "") (q :: r)).cps.toList = _
    have e : (Str.ofString "").cps.toList = [] := by decide +kernel
    simp only [Str.cps_append, Array.toList_append, ih, e, List.append_nil, List.flatMap_cons]
theorem spellJ_esc (x : Str) : (spellJ x).cps.toList = escL x.cps.toList := by
  unfold spellJ Txt.join
  rw [StrLaws.glued_eq_join, join_empty]
  unfold signs escL
  rw [List.map_map, List.flatMap_map]
  congr 1
  funext k
  simp only [Function.comp, spellC, quote1, quote5]
  by_cases h : k = 39
  · subst h; rfl
  · have : ((⟨#[k]⟩ : Str) == ⟨#[39]⟩) = false := by
      apply Bool.eq_false_iff.mpr; intro hh; have e := eq_of_beq hh; injection e with e1; simp at e1; exact h e1
    rw [this, if_neg (by decide), if_neg h]
theorem replace_spell (x : Str) : Txt.replace x (Str.ofString "'") (Str.ofString "'\"'\"'") = spellJ x := by
  have h : (Txt.replace x (Str.ofString "'") (Str.ofString "'\"'\"'")).cps = (spellJ x).cps := Array.toList_inj.mp ((replace_esc x).trans (spellJ_esc x).symm)
  cases hx : Txt.replace x (Str.ofString "'") (Str.ofString "'\"'\"'")
  cases hy : spellJ x
  rw [hx, hy] at h
  simpa using h
section
variable {prog : Program} {w : World} {A : Around} {E : Value → Shared → Prop} {s : Shared} {x : Str} {t u v : Tok} {Q : Value → Shared → Prop}
theorem replace_q (hu : u ≠ 0) (hv : v ≠ 0) (huv : u ≠ v) (hx : x.length ≤ 1000) (hq : ∀ z t' k, z = spellJ x → z.length ≤ 5000 → Q (.str z t') { s with toks := k }) :
    wpAny (model prog w) A (call (.builtin "str.replace") [.str x t, .str (Str.ofString "'") u, .str (Str.ofString "'\"'\"'") v]) Q E s :=
  SC.replaceW hu hv huv (by decide +kernel) (by omega) (by decide +kernel) fun t' k => hq _ t' k (replace_spell x) (by rw [replace_spell]; have := spellJ_len x; omega)
end
/- a sign is bare to the law iff the pattern lets it pass -/
noncomputable def bareL : List Nat := [97, 98, 99, 100, 101, 102, 103, 104, 105, 106, 107, 108, 109, 110, 111, 112, 113, 114, 115, 116, 117, 118, 119, 120, 121, 122, 65, 66, 67, 68, 69, 70, 71, 72, 73, 74, 75, 76, 77, 78, 79, 80, 81, 82, 83, 84, 85, 86, 87, 88, 89, 90, 48, 49, 50, 51, 52, 53, 54, 55, 56, 57, 95, 64, 37, 43, 61, 58, 44, 46, 47, 45]
theorem bareL_is : (Str.ofString "abcdefghijklmnopqrstuvwxyzABCDEFGHIJKLMNOPQRSTUVWXYZ0123456789_@%+=:,./-").cps.toList = bareL := by decide +kernel
theorem safe_small : ∀ c, c < 256 → safeC c = decide (c ∈ bareL) := by decide +kernel
theorem bare_low : ∀ k ∈ bareL, k < 256 := by decide
theorem safe_iff (c : Nat) : safeC c = decide (c ∈ bareL) := by
  by_cases h : c < 256
  · exact safe_small c h
  · rw [decide_eq_false (fun q => h (bare_low c q))]
    have h1 : charsetB c = false := by unfold charsetB; rw [decide_eq_false h]; rfl
    have h2 : Sre.isWord c = false := by
      unfold Sre.isWord Sre.isDigit
      have a1 : decide (c ≤ 57) = false := decide_eq_false (by omega)
      have a2 : decide (c ≤ 90) = false := decide_eq_false (by omega)
      have a3 : decide (c ≤ 122) = false := decide_eq_false (by omega)
      have a4 : (c == 95) = false := by rw [beq_eq_false_iff_ne]; omega
      simp [a1, a2, a3, a4]
    unfold safeC
    rw [h1, h2]; rfl
theorem notBare_iff (c : Nat) : notBare ⟨#[c]⟩ = !decide (c ∈ bareL) := by
  unfold notBare
  rw [show Txt.contains (Str.ofString "abcdefghijklmnopqrstuvwxyzABCDEFGHIJKLMNOPQRSTUVWXYZ0123456789_@%+=:,./-") ⟨#[c]⟩ = decide (c ∈ (Str.ofString "abcdefghijklmnopqrstuvwxyzABCDEFGHIJKLMNOPQRSTUVWXYZ0123456789_@%+=:,./-").cps.toList) from StrLaws.found_one _ c, bareL_is]
/-- bare to the law, on the text's numbers -/
theorem bareF_iff (x : Str) : bareF x = (decide (x.cps.toList ≠ []) && x.cps.toList.all fun c => decide (c ∈ bareL)) := by
  unfold bareF
  have e1 : decide (x ≠ Str.ofString "") = decide (x.cps.toList ≠ []) := by
    have : Str.ofString "" = ⟨#[]⟩ := by decide +kernel
    rw [this]
    obtain ⟨⟨l⟩⟩ := x
    simp
  have e2 : decide ((signs x).filter notBare = []) = x.cps.toList.all fun c => decide (c ∈ bareL) := by
    unfold signs
    induction x.cps.toList with
    | nil => rfl
    | cons k r ih =>
      rw [List.map_cons, List.filter_cons, notBare_iff, List.all_cons]
      by_cases hk : k ∈ bareL
      · simpa [hk] using ih
      · simp [hk]
  rw [e1, e2]

-- the call of _find_unsafe (a bound search of the compiled pattern)
section
variable {prog : Program} {w : World} {A : Around} {E : Value → Shared → Prop} {s : Shared}
theorem looks_check (x : Str) (t : Tok) {h : Heap} (X : (Mine.H.K w.params).In h) : Looks (model prog w) h (checkBoundCall "re.Pattern.search" ⟨[.ref 56, .str x t], []⟩) () :=
  Looks.of_peek X (by kernel_rfl)
theorem looks_target (x : Str) (t : Tok) {h : Heap} (X : (Mine.H.K w.params).In h) : Looks (model prog w) h (Builtin.Re.reTarget "re.Pattern.search" "search" ⟨[.ref 56, .str x t], []⟩)
    { pattern := .ref 56, string := .str x t, code := reCode, text := x.cps, kind := 0, groups := 0, pos := min 0 x.cps.size, lim := min (9223372036854775807 : Int).toNat x.cps.size } :=
  Looks.of_peek X (by kernel_rfl)
theorem looks_keeper {h : Heap} (X : (Mine.H.K w.params).In h) : Looks (model prog w) h (keeperOf (.ref 759)) .machine := Looks.of_peek X (by kernel_rfl)
theorem wpAny_rules {f : Nat → Bool} {g : Nat → String} {Q : PUnit → Shared → Prop} (h : Q ⟨⟩ s) : ∀ l : List Nat, wpAny (model prog w) A (forIn l PUnit.unit fun i _ => do
      if f i = true then rule (g i)
      pure (ForInStep.yield PUnit.unit)) Q E s
  | [] => wpAny_pure h
  | i :: l => by
    rw [List.forIn_cons]
    refine wpAny_bind ?_
    have ih := wpAny_rules (f := f) (g := g) h l
    dsimp only
    cases f i
    · exact wpAny_pure ih
    · exact wpAny_bind (wpAny_rule (wpAny_pure ih))
theorem run_to_end {m : Sre.M} {Q : Option Sre.M → Shared → Prop} (ho : (m.runFor 4).outcome = some .failed → Q none s) (hm : (m.runFor 4).outcome = some .matched → Q (some (m.runFor 4)) s)
    (h : (m.runFor 4).outcome = some .failed ∨ (m.runFor 4).outcome = some .matched) : wpAny (model prog w) A (Builtin.Re.reRunToEnd m) Q E s := by
  unfold Builtin.Re.reRunToEnd
  have e : ∀ n, Builtin.Re.reDrive (n + 1) m = if (m.runFor 4).outcome.isSome = true then pure (m.runFor 4) else (do rule "sre.turn"; Builtin.Re.reDrive n (m.runFor 4)) := fun n => rfl
  obtain ⟨n, hn⟩ : ∃ n, (2 ^ 64 : Nat) = n + 1 := ⟨2 ^ 64 - 1, by decide⟩
  rw [hn, e]
  have hs : (m.runFor 4).outcome.isSome = true := by rcases h with h | h <;> rw [h] <;> rfl
  rw [if_pos hs]
  refine wpAny_bind (wpAny_pure (wpAny_bind (wpAny_rules ?_ _)))
  rcases h with h | h
  · rw [h]; exact wpAny_pure (ho h)
  · rw [h]; exact wpAny_pure (hm h)
theorem search_tree {x : Str} {t : Tok} {P : Fin → Shared → Prop} (X : (Mine.H.K w.params).In s.heap) (hx : 0 < x.cps.size) (hl : x.cps.size ≤ 1000)
    (h0 : (∀ i, i < x.cps.size → safeC (x.cps.getD i 0) = true) → P (.done (.ret .none)) s)
    (h1 : (∃ i, i < x.cps.size ∧ safeC (x.cps.getD i 0) = false) → ∀ a h', (∀ b o, s.heap.get? b = some o → h'.get? b = some o) → P (.done (.ret (.ref a))) { s with heap := h' }) :
    wpAny (model prog w) A (Builtin.«re.Pattern.search» ⟨[.ref 56, .str x t], []⟩) P E s := by
  unfold Builtin.«re.Pattern.search»
  refine wpAny_bind ((looks_target x t X).here ?_)
  have e1 : min 0 x.cps.size = 0 := Nat.zero_min _
  have e2 : min (9223372036854775807 : Int).toNat x.cps.size = x.cps.size := Nat.min_eq_right (by show x.cps.size ≤ 9223372036854775807; omega)
  rw [e1, e2]
  unfold Builtin.Re.reAnswer
  dsimp only
  rcases search_runs x.cps hx with ⟨hs, ho⟩ | ⟨hs, ho⟩
  · refine wpAny_bind (run_to_end (fun _ => ?_) (fun hm => by rw [ho] at hm; cases hm) (.inl ho))
    exact wpAny_pure (h0 hs)
  · refine wpAny_bind (run_to_end (fun hm => by rw [ho] at hm; cases hm) (fun _ => ?_) (.inr ho))
    dsimp only
    refine wpAny_bind ?_
    unfold Builtin.Re.reNewMatch
    simp only [List.range_zero, List.flatMap_nil, List.any_nil, Bool.false_eq_true, if_false]
    refine wpAny_bind (wpAny_newTuple ?_ (by show 2 ≤ sizeLine; decide +kernel))
    refine wpAny_newObj_type (wpAny_pure (h1 hs _ _ fun b o e => Heap.get?_push_of_some _ (Heap.get?_push_of_some _ e)))
theorem quiet_search (args : Args) : (Code.builtin "re.Pattern.search" args).quiet = true := plainId_quiet (by decide +kernel) args
theorem entry_search : entryFor table "re.Pattern.search" = some Builtin.«re.Pattern.search» := entryFor_of_tree (by kernel_rfl)
theorem search_call {x : Str} {t : Tok} {Q : Value → Shared → Prop} (X : (Mine.H.K w.params).In s.heap) (hx : 0 < x.cps.size) (hl : x.cps.size ≤ 1000)
    (h0 : (∀ i, i < x.cps.size → safeC (x.cps.getD i 0) = true) → Q .none s)
    (h1 : (∃ i, i < x.cps.size ∧ safeC (x.cps.getD i 0) = false) → ∀ a h', (∀ b o, s.heap.get? b = some o → h'.get? b = some o) → Q (.ref a) { s with heap := h' }) :
    wpAny (model prog w) A (call (.ref 759) [.str x t]) Q E s := by
  have ho : s.heap.get? 759 = some ⟨.type "builtin_function_or_method", none, .fields #[.builtin "re.Pattern.search", .ref 56], #[]⟩ := X _ _ (by kernel_rfl)
  refine wpAny_call (codeAny_of_tree ?_)
  show wpAny _ A.in1 (callAny (.ref 759) ⟨[.str x t], []⟩) _ _ s
  simp only [callAny]
  refine wpAny_bind (wpAny_load ho ?_)
  simp only [show (Value.type "builtin_function_or_method" == Value.type "method" || Value.type "builtin_function_or_method" == Value.type "builtin_function_or_method" || Value.type "builtin_function_or_method" == Value.type "method-wrapper") = true by decide, if_true]
  refine KFB.if_so (by decide) ?_
  refine wpAny_bind ((looks_check x t X).here ?_)
  refine wpAny_bind (wpAny_pure (wpAny_pure ?_))
  exact ⟨quiet_search _, codeAny_builtin entry_search (search_tree X hx hl h0 h1)⟩
end
section
variable {w : World} {A : Around} {E : Value → Shared → Prop} {s : Shared} {prog : Program} {env : Env} {pos : Pos} {first : List Value} {Q : Value → Shared → Prop} {h₀ : Heap} {L : Addr} {m : Str → Option Value} {news : List (Addr × Obj)}
theorem callWith_find {e : Expr} {rest : List Expr} (_X : (Mine.H.K w.params).In h₀)
    (h : wpAny (model prog w) A (spliced (backTo pos (starEach (e :: rest) env))) (fun vs s₁ => (Mine.H.K w.params).In s₁.heap ∧ wpAny (model prog w) A (call (.ref 759) (first ++ vs)) Q E s₁) E s)
    (he : starEach (e :: rest) env = (false, eval e env) :: starEach rest env := by rfl) (hplain : (backTo pos (starEach rest env)).any (·.1) = false := by rfl) :
    wpAny (model prog w) A (callWith pos (.ref 759) first (backTo pos (starEach (e :: rest) env)) []) Q E s := by
  rw [he] at h ⊢
  exact callWith_of (by show ((false || (backTo pos (starEach rest env)).any (·.1)) || false) = false; rw [hplain]; rfl) (fun _ X => ⟨.machine, .inr (.inl rfl), looks_keeper X⟩) (Calls.evalArgs_plain h)
theorem search_N {x : Str} {t : Tok} (F : Fr h₀ L s.heap m) (X₀ : (Mine.H.K w.params).In h₀) (N : News h₀ L s.heap news) (hx : 0 < x.length) (hl : x.length ≤ 1000)
    (h0 : (∀ i, i < x.cps.size → safeC (x.cps.getD i 0) = true) → Q .none s)
    (h1 : (∃ i, i < x.cps.size ∧ safeC (x.cps.getD i 0) = false) → ∀ a h', Fr h₀ L h' m → News h₀ L h' news → Q (.ref a) { s with heap := h' }) :
    wpAny (model prog w) A (call (.ref 759) [.str x t]) Q E s :=
  search_call (X₀.keeps F.keep) hx hl h0 fun hu a h' hk => h1 hu a h' (F.keeps hk) (N.grown hk)
end
noncomputable def allSafe (x : Str) : Bool := x.cps.toList.all safeC
theorem allSafe_yes {x : Str} (h : ∀ i, i < x.cps.size → safeC (x.cps.getD i 0) = true) : allSafe x = true := by
  unfold allSafe
  rw [List.all_eq_true]
  intro c hc
  obtain ⟨i, hi, rfl⟩ := List.getElem_of_mem hc
  have := h i (by simpa using hi)
  simpa [Array.getD, (show i < x.cps.size by simpa using hi)] using this
theorem allSafe_no {x : Str} (h : ∃ i, i < x.cps.size ∧ safeC (x.cps.getD i 0) = false) : allSafe x = false := by
  obtain ⟨i, hi, hs⟩ := h
  unfold allSafe
  rw [Bool.eq_false_iff]
  intro q
  have := List.all_eq_true.mp q (x.cps[i]) (by simp)
  rw [show x.cps.getD i 0 = x.cps[i] by simp [Array.getD, hi]] at hs
  rw [this] at hs
  cases hs
theorem allSafe_bare {x : Str} (h : x.length ≠ 0) : allSafe x = bareF x := by
  rw [bareF_iff, decide_eq_true (show x.cps.toList ≠ [] from fun e => h (by unfold Str.length; rw [← Array.length_toList, e]; rfl)), Bool.true_and]
  unfold allSafe
  congr 1
  funext c
  exact safe_iff c
section
variable {x z : Str} {t : Tok}
theorem quote_0 (h : (x.length : Int) = 0) : Value.str (Str.ofString "''") t = .str (spelledF x (bareF x)) t := by
  have hl : x.cps.toList = [] := by
    have : x.cps.size = 0 := by have : x.length = 0 := by omega
                                exact this
    exact List.eq_nil_of_length_eq_zero (by simpa using this)
  have hx : x = ⟨#[]⟩ := by obtain ⟨⟨l⟩⟩ := x; simp at hl; rw [hl]
  subst hx
  have : bareF ⟨#[]⟩ = false := by rw [bareF_iff]; rfl
  rw [this]
  congr 1
theorem quote_1 (h : (x.length : Int) ≠ 0) (hs : ∀ i, i < x.cps.size → safeC (x.cps.getD i 0) = true) : Value.str x t = .str (spelledF x (bareF x)) t := by
  rw [← allSafe_bare (by omega), allSafe_yes hs]
  rfl
theorem quote_2 (h : (x.length : Int) ≠ 0) (hs : ∃ i, i < x.cps.size ∧ safeC (x.cps.getD i 0) = false) (hz : z = spellJ x) : Value.str (Str.ofString "'" ++ z ++ Str.ofString "'") t = .str (spelledF x (bareF x)) t := by
  rw [← allSafe_bare (by omega), allSafe_no hs, hz]
  rfl
end

-- _law_cuts
noncomputable def strVs (ws : List (Str × Tok)) : List Value := ws.map fun p => .str p.1 p.2
noncomputable abbrev listO (ws : List (Str × Tok)) (n : Nat) : Obj := { cls := .type "list", data := .seq (strVs ws).toArray n }
noncomputable abbrev tupO (vs : List Value) : Obj := { cls := .type "tuple", data := .seq vs.toArray }
theorem strVs_get {ws : List (Str × Tok)} {i : Nat} {x : Str} {t : Tok} (h : ws[i]? = some (x, t)) : (strVs ws)[i]? = some (.str x t) := by
  unfold strVs; rw [List.getElem?_map, h]; rfl
theorem strVs_len (ws : List (Str × Tok)) : (strVs ws).length = ws.length := by simp [strVs]
section
variable {prog : Program} {w : World} {A : Around} {E : Value → Shared → Prop} {s : Shared} {h₀ : Heap} {L : Addr} {m : Str → Option Value} {news : List (Addr × Obj)}
theorem item_strs {value slice : Expr} {l : Addr} {ws : List (Str × Tok)} {n : Nat} {k : Int} {u : Tok} {x : Str} {t : Tok} {Q : Value → Shared → Prop}
    (N : News h₀ L s.heap news) (hm : (l, listO ws n) ∈ news) (h0 : 0 ≤ k) (hhi : k < 2 ^ 63) (hx : ws[k.toNat]? = some (x, t)) (h : Q (.str x t) s)
    (hs : subscripted slice false (.ref l) (.int k u) = operate [.ref l, .int k u] (getItem (.ref l) (.int k u)) := by with_unfolding_all rfl) :
    wpAny (model prog w) A (subscriptTail value slice (.ref l) (.int k u)) Q E s := by
  have hl : s.heap.IsList l (strVs ws).toArray := ⟨_, N.get hm, rfl, n, rfl⟩
  exact tail_any hl.typeIs F.slot_list_getitem.lookup (wpAny_getItem_list hl h0 hhi (by simpa using strVs_get hx) h) hs
end
noncomputable def cutW : Nat → Nat → List Nat → Nat × Nat → Except ((Nat × Nat) × (Nat × Nat)) (Nat × Nat)
  | _, _, [], b => .ok b
  | i, k, c :: cs, b => if c = 58 ∨ c = 10 then .error (b, (i, k)) else cutW i (k + 1) cs (if c = 46 then (i, k + 1) else b)
noncomputable def cutR : Nat → List (Str × Tok) → Nat × Nat → (Nat × Nat) × (Nat × Nat)
  | i, [], b => (b, (i, 0))
  | i, w :: ws, b => match cutW i 0 w.1.cps.toList b with
    | .error r => r
    | .ok b' => cutR (i + 1) ws b'
noncomputable def cutsF (ws : List (Str × Tok)) : (Nat × Nat) × (Nat × Nat) := cutR 0 ws (0, 0)
/-- what the scan yields from word i, sign k on -/
noncomputable def cutAt (ws : List (Str × Tok)) (i k : Nat) (cs : List Nat) (b : Nat × Nat) : (Nat × Nat) × (Nat × Nat) := match cutW i k cs b with
  | .error r => r
  | .ok b' => cutR (i + 1) (ws.drop (i + 1)) b'
theorem cutR_at {ws : List (Str × Tok)} {i : Nat} {x : Str} {t : Tok} {b : Nat × Nat} (h : ws[i]? = some (x, t)) : cutR i (ws.drop i) b = cutAt ws i 0 x.cps.toList b := by
  obtain ⟨hi, e⟩ := List.getElem?_eq_some_iff.mp h
  rw [List.drop_eq_getElem_cons hi, e]
  rfl
theorem cutAt_end {ws : List (Str × Tok)} {i k : Nat} {b : Nat × Nat} : cutAt ws i k [] b = cutR (i + 1) (ws.drop (i + 1)) b := rfl
theorem cutAt_stop {ws : List (Str × Tok)} {i k c : Nat} {cs : List Nat} {b : Nat × Nat} (h : c = 58 ∨ c = 10) : cutAt ws i k (c :: cs) b = (b, (i, k)) := by
  unfold cutAt cutW; rw [if_pos h]
theorem cutAt_dot {ws : List (Str × Tok)} {i k c : Nat} {cs : List Nat} {b : Nat × Nat} (h : ¬ (c = 58 ∨ c = 10)) (h' : c = 46) : cutAt ws i k (c :: cs) b = cutAt ws i (k + 1) cs (i, k + 1) := by
  unfold cutAt; rw [cutW, if_neg h, if_pos h']
theorem cutAt_go {ws : List (Str × Tok)} {i k c : Nat} {cs : List Nat} {b : Nat × Nat} (h : ¬ (c = 58 ∨ c = 10)) (h' : ¬ c = 46) : cutAt ws i k (c :: cs) b = cutAt ws i (k + 1) cs b := by
  unfold cutAt; rw [cutW, if_neg h, if_neg h']
section
variable {prog : Program} {w : World} {A : Around} {E : Value → Shared → Prop} {s : Shared} {h₀ : Heap} {L : Addr} {m : Str → Option Value} {news : List (Addr × Obj)}
theorem len_strs {l : Addr} {ws : List (Str × Tok)} {n : Nat} {Q : Value → Shared → Prop} (N : News h₀ L s.heap news) (hm : (l, listO ws n) ∈ news) (hw : ws.length ≤ 1000)
    (h : Q (.int (ws.length : Int) (s.toks + 1)) { s with toks := s.toks + 1 + 1 }) : wpAny (model prog w) A (call (.builtin "len") [.ref l]) Q E s := by
  have hl : s.heap.IsList l (strVs ws).toArray := ⟨_, N.get hm, rfl, n, rfl⟩
  have e : (strVs ws).toArray.size = ws.length := by simp [strVs]
  exact len_list hl (by rw [e]; omega) (by rw [e]; exact h)
end
theorem frame2 {m' : Str → Option Value} {v r : Value} (h1 : m' (Str.ofString "behind") = some v) (h2 : m' (Str.ofString "row") = some r) :
    m' = fun y => if y = Str.ofString "behind" then some v else if y = Str.ofString "row" then some r else m' y := by
  funext y
  by_cases e1 : y = Str.ofString "behind"
  · simp only [e1, if_true]; exact h1
  · by_cases e2 : y = Str.ofString "row"
    · simp only [e2, if_true]; rw [if_neg (by decide +kernel)]; exact h2
    · simp only [e1, e2, if_false]
theorem frame3 {m' : Str → Option Value} {v r i : Value} (h1 : m' (Str.ofString "behind") = some v) (h2 : m' (Str.ofString "row") = some r) (h3 : m' (Str.ofString "i") = some i) :
    m' = fun y => if y = Str.ofString "behind" then some v else if y = Str.ofString "row" then some r else if y = Str.ofString "i" then some i else m' y := by
  funext y
  by_cases e1 : y = Str.ofString "behind"
  · simp only [e1, if_true]; exact h1
  · by_cases e2 : y = Str.ofString "row"
    · simp only [e2, if_true]; rw [if_neg (by decide +kernel)]; exact h2
    · by_cases e3 : y = Str.ofString "i"
      · simp only [e3, if_true]; rw [if_neg (by decide +kernel), if_neg (by decide +kernel)]; exact h3
      · simp only [e1, e2, e3, if_false]
noncomputable def JOut (l : Addr) (ws : List (Str × Tok)) (n : Nat) (news : List (Addr × Obj)) (i : Nat) (m : Str → Option Value) (nx : List (Addr × Obj)) : Prop :=
  ∃ (A : Addr) (b : Nat × Nat) (t1 t2 : Tok) (u : Str → Option Value), nx = (A, tupO [.int (b.1 : Int) t1, .int (b.2 : Int) t2]) :: (l, listO ws n) :: news ∧
    m = (fun y => if y = Str.ofString "behind" then some (.ref A) else if y = Str.ofString "row" then some (.ref l) else u y) ∧ cutR i (ws.drop i) b = cutsF ws
noncomputable def JIn (l : Addr) (ws : List (Str × Tok)) (n : Nat) (news own : List (Addr × Obj)) (i : Nat) (ti : Tok) (x : Str) (k : Nat) (m : Str → Option Value) (nx : List (Addr × Obj)) : Prop :=
  ∃ (A : Addr) (b : Nat × Nat) (t1 t2 : Tok) (u : Str → Option Value), nx = (A, tupO [.int (b.1 : Int) t1, .int (b.2 : Int) t2]) :: (l, listO ws n) :: (news ++ own) ∧
    m = (fun y => if y = Str.ofString "behind" then some (.ref A) else if y = Str.ofString "row" then some (.ref l) else if y = Str.ofString "i" then some (.int (i : Int) ti) else u y) ∧ cutAt ws i k (x.cps.toList.drop k) b = cutsF ws ∧ ∀ p ∈ own, p.1 ≠ A
theorem rangeKs0 {n i : Nat} {k : Int} (h : (rangeKs 0 n)[i]? = some k) : k = (i : Int) ∧ i < n := by
  have hi : i < n := by
    by_cases q : i < n
    · exact q
    · rw [List.getElem?_eq_none (by rw [rangeKs_length]; omega)] at h; cases h
  simp [rangeKs, hi] at h
  exact ⟨h.symm, hi⟩
theorem small_len {N : Nat} (h : N ≤ 1000) : Builtin.Range.small 0 (N : Int) 1 = true := small_one (by decide) (by decide) (by omega) (by omega)
theorem size_len (N : Nat) : Builtin.Range.rangeSize 0 (N : Int) 1 = (N : Int) := by
  unfold Builtin.Range.rangeSize
  simp
  omega

section
variable {x : Str} {j i : Nat} {ws : List (Str × Tok)} {b : Nat × Nat} {R : (Nat × Nat) × (Nat × Nat)}
theorem item_at (hj : j < x.length) : ∃ c, Txt.item x (j : Int) = ⟨#[c]⟩ ∧ x.cps.toList.drop j = c :: x.cps.toList.drop (j + 1) := by
  have hj' : j < x.cps.size := hj
  refine ⟨x.cps[j], ?_, ?_⟩
  · unfold Txt.item Txt.charAt
    have e : seqIndex? (j : Int) x.length = some j := by
      unfold seqIndex?
      have : (j : Int) < (x.length : Int) := by exact_mod_cast hj
      simp
      omega
    rw [e]
    simp [hj']
  · rw [List.drop_eq_getElem_cons (by simpa using hj')]
    simp
theorem colon_nl (c : Nat) : (occurrences (Str.ofString ":\n") ⟨#[c]⟩ 0 (Str.ofString ":\n").length 1).isEmpty = !decide (c = 58 ∨ c = 10) := by
  have e : (Str.ofString ":\n").cps.toList = [58, 10] := by decide +kernel
  have h := StrLaws.found_one (Str.ofString ":\n") c
  rw [e] at h
  rw [← Bool.not_not (List.isEmpty _), h]
  simp
theorem dot_is (c : Nat) : ((⟨#[c]⟩ : Str) == Str.ofString ".") = decide (c = 46) := by
  have e : Str.ofString "." = ⟨#[46]⟩ := by decide +kernel
  rw [e]
  by_cases h : c = 46
  · subst h; rfl
  · rw [decide_eq_false h, beq_eq_false_iff_ne]
    intro q; injection q with q; simp at q; exact h q
theorem cut_stop (hj : j < x.length) (ho : (occurrences (Str.ofString ":\n") (Txt.item x (j : Int)) 0 (Str.ofString ":\n").length 1).isEmpty = false) (hc : cutAt ws i j (x.cps.toList.drop j) b = R) : R = (b, (i, j)) := by
  obtain ⟨c, e1, e2⟩ := item_at hj
  rw [e1, colon_nl] at ho
  rw [e2] at hc
  rw [← hc, cutAt_stop (of_decide_eq_true (by simpa only [Bool.not_eq_false'] using ho))]
theorem cut_dot (hj : j < x.length) (ho : (occurrences (Str.ofString ":\n") (Txt.item x (j : Int)) 0 (Str.ofString ":\n").length 1).isEmpty = true) (hd : (Txt.item x (j : Int) == Str.ofString ".") = true)
    (hc : cutAt ws i j (x.cps.toList.drop j) b = R) : cutAt ws i (j + 1) (x.cps.toList.drop (j + 1)) (i, j + 1) = R := by
  obtain ⟨c, e1, e2⟩ := item_at hj
  rw [e1, colon_nl] at ho
  rw [e1, dot_is] at hd
  rw [e2] at hc
  rw [← hc, cutAt_dot (by simpa using ho) (by simpa using hd)]
theorem cut_go (hj : j < x.length) (ho : (occurrences (Str.ofString ":\n") (Txt.item x (j : Int)) 0 (Str.ofString ":\n").length 1).isEmpty = true) (hd : (Txt.item x (j : Int) == Str.ofString ".") = false)
    (hc : cutAt ws i j (x.cps.toList.drop j) b = R) : cutAt ws i (j + 1) (x.cps.toList.drop (j + 1)) b = R := by
  obtain ⟨c, e1, e2⟩ := item_at hj
  rw [e1, colon_nl] at ho
  rw [e1, dot_is] at hd
  rw [e2] at hc
  rw [← hc, cutAt_go (by simpa using ho) (by simpa using hd)]
theorem cut_done (hc : cutAt ws i x.length (x.cps.toList.drop x.length) b = R) : cutR (i + 1) (ws.drop (i + 1)) b = R := by
  have : x.cps.toList.drop x.length = [] := List.drop_eq_nil_of_le (by simp [Str.length])
  rw [this] at hc
  exact hc
end
section
variable {a a2 b : Addr × Obj} {t o o2 : List (Addr × Obj)} {d : Addr}
theorem sub_new : ∀ p ∈ a :: b :: (t ++ o), p ∈ a :: a2 :: b :: (t ++ (o ++ o2)) := by
  intro p hp
  simp only [List.mem_cons, List.mem_append] at hp ⊢
  rcases hp with h | h | h | h <;> simp [h]
theorem sub_own : ∀ p ∈ o2, p ∈ a :: a2 :: b :: (t ++ (o ++ o2)) := fun p hp => by simp [hp]
theorem sub_same : ∀ p ∈ a :: b :: (t ++ o), p ∈ a :: b :: (t ++ (o ++ o2)) := by
  intro p hp
  simp only [List.mem_cons, List.mem_append] at hp ⊢
  rcases hp with h | h | h | h <;> simp [h]
theorem sub_own2 : ∀ p ∈ o2, p ∈ a :: b :: (t ++ (o ++ o2)) := fun p hp => by simp [hp]
theorem off_new {od : Obj} (h : TbOff o2 (a2 :: b :: (t ++ o))) (hd : a2.1 < d ∧ b.1 < d ∧ AllLt d (t ++ (o ++ o2))) : TbOff o2 ((d, od) :: b :: (t ++ o)) := by
  intro p hp q hq
  rcases List.mem_cons.mp hq with rfl | hq
  · exact Nat.ne_of_lt (tb_ltOf hd.2.2 p (by simp [hp]))
  · exact h p hp q (.tail _ hq)
theorem own_new {x1 x2 : Addr} (hd : x1 < d ∧ x2 < d ∧ AllLt d (t ++ (o ++ o2))) : ∀ p ∈ o, p.1 ≠ d := fun p hp => Nat.ne_of_lt (tb_ltOf hd.2.2 p (by simp [hp]))
theorem off_back {ao : Obj} (h : TbOff o (a2 :: b :: t)) (hd : ∀ p ∈ o, p.1 ≠ d) : TbOff o ((d, ao) :: b :: t) := by
  intro p hp q hq
  rcases List.mem_cons.mp hq with rfl | hq
  · exact hd p hp
  · exact h p hp q (.tail _ hq)
theorem sub_back : ∀ p ∈ a :: b :: t, p ∈ a :: b :: (t ++ o) := by
  intro p hp
  simp only [List.mem_cons, List.mem_append] at hp ⊢
  rcases hp with h | h | h <;> simp [h]
theorem own_back : ∀ p ∈ o, p ∈ a :: b :: (t ++ o) := fun p hp => by simp [hp]
end
theorem news_drop3 {h₀ h : Heap} {L : Addr} {a b c d : Addr × Obj} {t o : List (Addr × Obj)} (N : News h₀ L h (a :: b :: c :: d :: (t ++ o))) : News h₀ L h (a :: b :: c :: d :: t) :=
  fun p hp => N p (by simp only [List.mem_cons, List.mem_append] at hp ⊢; rcases hp with h | h | h | h | h <;> simp [h])

local macro_rules | `(tactic| walk_at "call builtin:str.find") => `(tactic| refine call_find4 ?_)
local macro_rules | `(tactic| walk_at "call builtin:str.rfind") => `(tactic| refine call_rfind4 ?_)
local macro_rules | `(tactic| walk_at "mine cells") => `(tactic| (refine' code_defC ?k1 ?k2 ?k3 ?k4 ?k5 ?kA ?kF ?kK ?k6 ?k7 ?k8 ?k9 ?kB ?kD ?_ ?c2 ?c3 ?c4; (case kA | kF => exact rfl); (case kK => assumption); (case k1 | k2 | k3 | k4 | k5 => k_asm); (case k6 | k7 => k_is); (case k8 => ktr_room); (case k9 => exact BindsTo.of_eq rfl); (case kB => exact rfl); (case kD => decide +kernel); (case c2 | c3 | c4 => exact rfl); k_whole; intro g' L' h' tk' cells' FG' F' N' Y' B' X' T' l1; (have hNB' := nb_of l1); (clear l1); k_cells Y'; (try simp only [List.cons_append, List.nil_append] at N'); (try dsimp only); (try k_lift B'); (try k_fold)))
local macro_rules | `(tactic| walk_at "mine plain") => `(tactic| (refine' enter_plain ?k1 ?k2 ?k3 ?k4 ?k5 ?kA ?kF ?kK ?k6 ?k7 ?k8 ?k9 ?kB ?_ ?c2 ?c3 ?c4 ?c5; (case kA | kF => exact rfl); (case kK => first | assumption | exact rfl); (case k1 | k2 | k3 | k4 | k5 => k_asm); (case k6 | k7 => k_is); (case k8 => ktr_room); (case k9 => first | exact BindsTo.of_eq rfl | exact binds_K (by k_in) rfl (by k_is) rfl rfl rfl); (case c5 => decide); (case kB => exact locs rfl); (case c2 | c3 | c4 => exact rfl); k_whole; intro g' L' h' FG' F' N' B' X' T' hNB'; (try dsimp only); (try k_lift B'); (try k_fold)))
local macro_rules | `(tactic| k_all) => `(tactic| (refine NB.ne (by assumption) ?_; omega))
local macro_rules | `(tactic| walk_at "eval ListComp") => `(tactic| (k_here; k_dflt (refine' comp_bare ?hh ?F ?N ?hm ?hc ?hd ?cl ?hk ?hw ?hb ?_ ?sz; (case hh => rfl); (case F | N => k_asm); (case hm => rfl); (case hc => k_mem); (case hd => k_asm); (case cl | hk | hw | hb => rfl); (case sz => size_fits)); intro D' ys' h' tk' F' N' hD' hl' hp' hc'))
local macro_rules | `(tactic| walk_at "compareOp Eq ref ref") => `(tactic| (k_here; k_dflt (refine' eq_strs_nil ?a ?b ?c ?o ?u ?_; (case a | b => is_list); (case c => k_asm); (case o => exact okSigns (by assumption) _); (case u => ktr_units))))
local macro_rules | `(tactic| walk_at "mine news") => `(tactic| first | assumption | exact news_tl (by assumption) | exact news_tl (news_tl (by assumption)) | exact news_tl (news_tl (news_tl (by assumption))) | exact news_tl (news_tl (news_tl (news_tl (by assumption)))))
local macro_rules | `(tactic| walk_at "call builtin:str.join") => `(tactic| (k_here; refine' join_spell ?a ?b ?c ?_; (case a | b => assumption); (case c => omega); intro z' t' k' hz' hzl'))
local macro_rules | `(tactic| walk_at "callWith ref") => `(tactic| (k_here; (with_reducible show wpAny _ _ (callWith _ (Value.ref 759) _ _ _) _ _ _); k_dflt (refine' callWith_find ?X ?_; (case X => k_asm); k_whole)))
local macro_rules | `(tactic| walk_at "call ref") => `(tactic| (k_here; (with_reducible show wpAny _ _ (call (Value.ref 759) [Value.str _ _]) _ _ _); k_dflt (refine' search_N ?F ?X ?N ?a ?b ?_ ?_; (case F | X | N => k_asm); (case a | b => omega))))
local macro_rules | `(tactic| walk_at "call builtin:str.replace") => `(tactic| (k_here; refine' replace_q ?a ?b ?c ?d ?_; (case a | b | c => first | omega | (simp; done) | (simp; omega)); (case d => omega); intro z' t' k' hz' hzl'))
local macro_rules | `(tactic| walk_at "subscriptTail") => `(tactic| (k_here; (with_reducible show wpAny _ _ (subscriptTail _ _ (Value.ref _) (Value.int _ _)) _ _ _); k_dflt (refine' item_strs ?N ?hm ?a ?b ?hx ?_; (case N => k_asm); (case hm => k_mem); (case hx => assumption); (case a | b => omega); k_whole)))
local macro_rules | `(tactic| walk_at "call builtin:len") => `(tactic| (k_here; (with_reducible show wpAny _ _ (call (Value.builtin "len") [Value.ref _]) _ _ _); k_dflt (refine' len_strs ?N ?hm ?a ?_; (case N => k_asm); (case hm => k_mem); (case a => omega); k_whole)))
local macro_rules | `(tactic| walk_at "mine steps") => `(tactic| repeat' (first | (k_unfold; (try dsimp only)) | walk1 | (dsimp only; walk1) | (leave1; walk_say "STEP leave1"; try dsimp only) | fail "no step"))

set_option maxHeartbeats 4000000 in
theorem bare_spec : ∀ (w : World) (p : Program) (loose : List Str) (mean : ExcName → Option Value) (mg mb : Str → Option Value) (dp un : Nat) (gd : Option (List Code)) (cn : Str) (cs : Scope) (a : Addr) (ccd : Value) (cl : List (Str × Addr)) (outer : List Env) (A₀ : Around) (base h₀ : Heap) (L : Addr) (m : Str → Option Value) (news : List (Addr × Obj)) (s : Shared) (Q E : Value → Shared → Prop) (x : Str) (t : Tok),
  Below A₀ base outer h₀ → Fr h₀ L s.heap m → (Mine.H.K w.params).In h₀ → News h₀ L s.heap (news) → Top p loose mean mg mb h₀ → cs.kind = .function → dp + 20 < recursionLimit → un + 200 < cLine → x.length ≤ 10 → PyData.strOk x = true →
  (∀ v h' tk', v = .bool (bareF x) → Fr h₀ L h' m → News h₀ L h' news → Q v {s with heap := h', toks := tk'}) →
  wpAny (model PySem.Challenge.rw_mq0393_01.prog w) (ktrTop dp un gd cn cs L a ccd cl outer) (call (.ref 778) [.str x t]) Q E s := by
  k_fill
  intro w p loose mean mg mb dp un gd cn cs a ccd cl outer A₀ base h₀ L m news s Q E x t B F X N T hk hd hu h0 h1 ret
  refine wpAny_call ?_
  k_dflt (walk_at "mine cells")
  walk_at "mine steps"
  · exact ret _ _ _ (bareF_yes (by assumption)) (by assumption) (by walk_at "mine news")
  · exact ret _ _ _ (bareF_no (by assumption)) (by assumption) (by walk_at "mine news")

set_option maxHeartbeats 4000000 in
theorem strip_spec : ∀ (w : World) (p : Program) (loose : List Str) (mean : ExcName → Option Value) (mg mb : Str → Option Value) (dp un : Nat) (gd : Option (List Code)) (cn : Str) (cs : Scope) (a : Addr) (ccd : Value) (cl : List (Str × Addr)) (outer : List Env) (A₀ : Around) (base h₀ : Heap) (L : Addr) (m : Str → Option Value) (news : List (Addr × Obj)) (s : Shared) (Q E : Value → Shared → Prop) (x : Str) (t : Tok),
  Below A₀ base outer h₀ → Fr h₀ L s.heap m → (Mine.H.K w.params).In h₀ → News h₀ L s.heap (news) → Top p loose mean mg mb h₀ → cs.kind = .function → dp + 20 < recursionLimit → un + 200 < cLine → x.length ≤ 1000 →
  (∀ v h' tk', (∃ t', v = .str (stripF x) t') → Fr h₀ L h' m → News h₀ L h' news → Q v {s with heap := h', toks := tk'}) →
  wpAny (model PySem.Challenge.rw_mq0393_01.prog w) (ktrTop dp un gd cn cs L a ccd cl outer) (call (.ref 51) [.str x t]) Q E s := by
  k_fill
  intro w p loose mean mg mb dp un gd cn cs a ccd cl outer A₀ base h₀ L m news s Q E x t B F X N T hk hd hu h0 ret
  refine wpAny_call ?_
  k_dflt (walk_at "mine plain")
  walk_at "mine steps"
  · exact ret _ _ _ ⟨_, strip_yy (by assumption) (by assumption) (by assumption)⟩ (by assumption) (by walk_at "mine news")
  · exact ret _ _ _ ⟨_, strip_yn (by assumption) (by assumption) (by assumption)⟩ (by assumption) (by walk_at "mine news")
  · exact ret _ _ _ ⟨_, strip_ny (by assumption) (by assumption) (by assumption)⟩ (by assumption) (by walk_at "mine news")
  · exact ret _ _ _ ⟨_, strip_nn (by assumption) (by assumption) (by assumption)⟩ (by assumption) (by walk_at "mine news")

local macro_rules | `(tactic| walk_at "pyIter ref") => `(tactic| (k_here; refine Halt.out ?_))
local macro_rules | `(tactic| walk_at "TbEnd") => `(tactic| (refine Halt.out ?_))
local macro_rules | `(tactic| walk_at "call type:range") => `(tactic| (k_here; (rename Fr _ _ _ _ => F'); (rename News _ _ _ _ => N'); first | (with_unfolding_all refine range1_rows F' N' ?_; intro _ _ _ _ _ _ _ _ _) | (with_unfolding_all refine range2_rows F' N' ?_; intro _ _ _ _ _ _ _ _ _)))

set_option maxHeartbeats 4000000 in
theorem cuts_spec : ∀ (w : World) (p : Program) (loose : List Str) (mean : ExcName → Option Value) (mg mb : Str → Option Value) (dp un : Nat) (gd : Option (List Code)) (cn : Str) (cs : Scope) (a : Addr) (ccd : Value) (cl : List (Str × Addr)) (outer : List Env) (A₀ : Around) (base h₀ : Heap) (L : Addr) (m : Str → Option Value) (news : List (Addr × Obj)) (s : Shared) (Q E : Value → Shared → Prop) (l : Addr) (ws : List (Str × Tok)) (n : Nat),
  Below A₀ base outer h₀ → Fr h₀ L s.heap m → (Mine.H.K w.params).In h₀ → News h₀ L s.heap ((l, listO ws n) :: news) → Top p loose mean mg mb h₀ → cs.kind = .function → dp + 20 < recursionLimit → un + 200 < cLine → ws.length ≤ 6 → (∀ p ∈ ws, p.1.length ≤ 10) →
  (∀ T A B b1 b2 s1 s2 t1 t2 t3 t4 h' tk', cutsF ws = ((b1, b2), (s1, s2)) → Fr h₀ L h' m → News h₀ L h' ((T, tupO [.ref A, .ref B]) :: (B, tupO [.int ((s1 : Nat) : Int) t3, .int ((s2 : Nat) : Int) t4]) :: (A, tupO [.int ((b1 : Nat) : Int) t1, .int ((b2 : Nat) : Int) t2]) :: (l, listO ws n) :: news) → Q (.ref T) {s with heap := h', toks := tk'}) →
  wpAny (model PySem.Challenge.rw_mq0393_01.prog w) (ktrTop dp un gd cn cs L a ccd cl outer) (call (.ref 785) [.ref l]) Q E s := by
  k_fill
  intro w p loose mean mg mb dp un gd cn cs a ccd cl outer A₀ base h₀ L m news s Q E l ws n B F X N T hk hd hu h0 h1 ret
  refine wpAny_call ?_
  k_dflt (walk_at "mine plain")
  walk_at "mine steps"
  refine Halt.mk ?_
  refine tbr_invG (n := ws.length) (JOut l ws n news) rfl (by assumption) (small_len (by omega)) (size_len _) (by assumption) (by assumption) ?_ ?_ ?_
  · exact ⟨_, (0, 0), _, _, _, rfl, frame2 rfl rfl, rfl⟩
  · intro i k ti m₁ nx h9 tk9 own hk9 hoff hJ F9 N9
    obtain ⟨A, b, t1, t2, u, rfl, rfl, hcut⟩ := hJ
    obtain ⟨rfl, hi⟩ := rangeKs0 hk9
    obtain ⟨⟨x, tx⟩, hx⟩ : ∃ p, ws[(i : Int).toNat]? = some p := by
      rw [Int.toNat_natCast]
      exact ⟨_, List.getElem?_eq_getElem hi⟩
    have hxl : x.length ≤ 10 := h1 (x, tx) (List.mem_of_getElem? hx)
    simp only [List.cons_append] at N9
    walk_at "mine steps"
    refine Halt.mk ?_
    refine tbr_invG (n := x.length) (JIn l ws n news own i ti x) rfl (by assumption) (small_len (by omega)) (size_len _) (by assumption) (by assumption) ?_ ?_ ?_
    · refine ⟨_, b, _, _, _, rfl, frame3 rfl rfl rfl, ?_, fun p hp => hoff p hp _ (.head _)⟩
      rw [List.drop_zero, ← hcut]
      exact (cutR_at (by simpa using hx)).symm
    · intro j k' tj m₂ nx2 h8 tk8 own2 hk8 hoff2 hJ2 F8 N8
      obtain ⟨A2, b2, t3, t4, u2, rfl, rfl, hcut2, hown⟩ := hJ2
      obtain ⟨rfl, hj⟩ := rangeKs0 hk8
      simp only [List.cons_append, List.append_assoc] at N8
      walk_at "mine steps"
      · exact Halt.mk ⟨_, _, _, _, _, rfl, (by assumption), (by assumption), sub_new, sub_own, off_new hoff2 (by assumption), ⟨_, (i, j + 1), _, _, _, rfl, frame3 rfl rfl rfl, cut_dot hj (by assumption) (by assumption) hcut2, own_new (by assumption)⟩⟩
      · exact Halt.mk ⟨_, _, _, _, _, rfl, F8, N8, sub_same, sub_own2, hoff2, ⟨_, b2, _, _, _, rfl, frame3 rfl rfl rfl, cut_go hj (by assumption) (by assumption) hcut2, hown⟩⟩
      · exact ret _ _ _ _ _ _ _ _ _ _ _ _ _ (cut_stop hj (by assumption) hcut2) (by assumption) (news_drop3 (by assumption))
    · intro m₂ nx2 h8 tk8 hJ2 F8 N8
      obtain ⟨A2, b2, t3, t4, u2, rfl, rfl, hcut2, hown⟩ := hJ2
      walk_at "mine steps"
      exact Halt.mk ⟨_, _, _, _, _, rfl, F8, N8, sub_back, own_back, off_back hoff hown, ⟨_, b2, _, _, _, rfl, frame2 rfl rfl, cut_done hcut2⟩⟩
  · intro m₁ nx h9 tk9 hJ F9 N9
    obtain ⟨A, b, t1, t2, u, rfl, rfl, hcut⟩ := hJ
    walk_at "mine steps"
    refine ret _ _ _ _ _ ws.length 0 _ _ _ _ _ _ ?_ (by assumption) (by assumption)
    rw [← hcut, List.drop_length]
    rfl

-- _law_parts
noncomputable def tupE (p : Addr × Str × Tok × Bool) : Addr × Obj := (p.1, tupO [.str p.2.1 p.2.2.1, .bool p.2.2.2])
noncomputable abbrev partsO (ps : List (Addr × Str × Tok × Bool)) (n : Nat) : Obj := { cls := .type "list", data := .seq (ps.map fun p => Value.ref p.1).toArray n }
noncomputable def wordAt (ws : List (Str × Tok)) (i : Nat) : Str := (ws.getD i (⟨#[]⟩, 0)).1
/-- the piece of word i that the cuts leave -/
noncomputable def pieceAt (ws : List (Str × Tok)) (c : (Nat × Nat) × (Nat × Nat)) (i : Nat) : List (Str × Bool) :=
  if c.1.1 ≤ i ∧ i ≤ c.2.1 then
    [(Txt.slice (wordAt ws i) (some (if i = c.1.1 then (c.1.2 : Int) else 0)) (some (if i = c.2.1 then (c.2.2 : Int) else ((wordAt ws i).length : Int))), bareF (wordAt ws i))]
  else []
noncomputable def piecesTo (ws : List (Str × Tok)) (k : Nat) : List (Str × Bool) := (List.range k).flatMap (pieceAt ws (cutsF ws))
noncomputable def piecesF (ws : List (Str × Tok)) : List (Str × Bool) := piecesTo ws ws.length
noncomputable def frontF (ws : List (Str × Tok)) : Str := if (cutsF ws).1.2 > 0 ∧ bareF (wordAt ws (cutsF ws).1.1) = false then Str.ofString "'" else Str.ofString ""
noncomputable def backF (ws : List (Str × Tok)) : Str := if (cutsF ws).2.1 < ws.length ∧ bareF (wordAt ws (cutsF ws).2.1) = false then Str.ofString "'" else Str.ofString ""
theorem wordAt_of {ws : List (Str × Tok)} {i : Nat} {x : Str} {t : Tok} (h : ws[i]? = some (x, t)) : wordAt ws i = x := by
  unfold wordAt; rw [List.getD_eq_getElem?_getD, h]; rfl
theorem frame4 {m' : Str → Option Value} {v r i q : Value} (h1 : m' (Str.ofString "row") = some v) (h2 : m' (Str.ofString "behind") = some r) (h3 : m' (Str.ofString "stop") = some i) (h4 : m' (Str.ofString "parts") = some q) :
    m' = fun y => if y = Str.ofString "row" then some v else if y = Str.ofString "behind" then some r else if y = Str.ofString "stop" then some i else if y = Str.ofString "parts" then some q else m' y := by
  funext y
  by_cases e1 : y = Str.ofString "row"
  · simp only [e1, if_true]; exact h1
  · by_cases e2 : y = Str.ofString "behind"
    · simp only [e2, if_true]; rw [if_neg (by decide +kernel)]; exact h2
    · by_cases e3 : y = Str.ofString "stop"
      · simp only [e3, if_true]; rw [if_neg (by decide +kernel), if_neg (by decide +kernel)]; exact h3
      · by_cases e4 : y = Str.ofString "parts"
        · simp only [e4, if_true]; rw [if_neg (by decide +kernel), if_neg (by decide +kernel), if_neg (by decide +kernel)]; exact h4
        · simp only [e1, e2, e3, e4, if_false]
structure CutT where
  A : Addr
  B : Addr
  b1 : Nat
  b2 : Nat
  s1 : Nat
  s2 : Nat
  t1 : Tok
  t2 : Tok
  t3 : Tok
  t4 : Tok
noncomputable def JPart (l P : Addr) (ws : List (Str × Tok)) (n : Nat) (news : List (Addr × Obj)) (T A B : Addr) (b1 b2 s1 s2 : Nat) (t1 t2 t3 t4 : Tok) (k : Nat) (m : Str → Option Value) (nx : List (Addr × Obj)) : Prop :=
  ∃ (ps : List (Addr × Str × Tok × Bool)) (e : Nat) (u : Str → Option Value), nx = (P, partsO ps e) :: (T, tupO [.ref A, .ref B]) :: (B, tupO [.int (s1 : Int) t3, .int (s2 : Int) t4]) :: (A, tupO [.int (b1 : Int) t1, .int (b2 : Int) t2]) :: (l, listO ws n) :: (news ++ ps.map tupE) ∧
    m = (fun y => if y = Str.ofString "row" then some (.ref l) else if y = Str.ofString "behind" then some (.ref A) else if y = Str.ofString "stop" then some (.ref B) else if y = Str.ofString "parts" then some (.ref P) else u y) ∧
    ps.map (fun p => (p.2.1, p.2.2.2)) = piecesTo ws k ∧ (∀ p ∈ news ++ ps.map tupE, p.1 ≠ P)
theorem sep_own {P : Addr} {o : Obj} {a b c d : Addr × Obj} {t q own : List (Addr × Obj)} (h : ∀ p ∈ t ++ q, p.1 ≠ P) (ho : TbOff own ((P, o) :: a :: b :: c :: d :: (t ++ q))) : ∀ p ∈ t ++ (q ++ own), p.1 ≠ P := by
  intro p hp
  rcases List.mem_append.mp hp with hp | hp
  · exact h p (List.mem_append_left _ hp)
  · rcases List.mem_append.mp hp with hp | hp
    · exact h p (List.mem_append_right _ hp)
    · exact ho p hp _ (.head _)
theorem sep_nil {P : Addr} {news : List (Addr × Obj)} {a b c d : Prop} (h : a ∧ b ∧ c ∧ d ∧ AllLt P news) : ∀ p ∈ news ++ ([] : List (Addr × Str × Tok × Bool)).map tupE, p.1 ≠ P := by
  intro p hp
  rw [List.map_nil, List.append_nil] at hp
  exact Nat.ne_of_lt (tb_ltOf h.2.2.2.2 p hp)
section
variable {prog : Program} {w : World} {A : Around} {E : Value → Shared → Prop} {s : Shared} {h₀ : Heap} {L : Addr} {m : Str → Option Value}
theorem append_parts {D P : Addr} {ps : List (Addr × Str × Tok × Bool)} {e : Nat} {x : Str} {t : Tok} {b : Bool} {c1 c2 c3 c4 : Addr × Obj} {rest : List (Addr × Obj)} {Q : Value → Shared → Prop} (F : Fr h₀ L s.heap m)
    (N : News h₀ L s.heap ((D, tupO [.str x t, .bool b]) :: (P, partsO ps e) :: c1 :: c2 :: c3 :: c4 :: rest)) (hD : D ≠ P) (h1 : c1.1 ≠ P) (h2 : c2.1 ≠ P) (h3 : c3.1 ≠ P) (h4 : c4.1 ≠ P) (hr : ∀ p ∈ rest, p.1 ≠ P) (hl : ps.length ≤ 1000)
    (h : ∀ h', Fr h₀ L h' m → News h₀ L h' ((D, tupO [.str x t, .bool b]) :: (P, partsO (ps ++ [(D, x, t, b)]) (e + 1)) :: c1 :: c2 :: c3 :: c4 :: rest) → Q .none { s with heap := h' }) :
    wpAny (model prog w) A (call (.builtin "list.append") [.ref P, .ref D]) Q E s := by
  have hall : ∀ p ∈ c1 :: c2 :: c3 :: c4 :: rest, p.1 ≠ P := by
    intro p hp
    simp only [List.mem_cons] at hp
    rcases hp with rfl | rfl | rfl | rfl | hp
    · exact h1
    · exact h2
    · exact h3
    · exact h4
    · exact hr p hp
  have U : Upd P (W.listOf (ps.map fun p => Value.ref p.1).toArray e) (W.listOf ((ps.map fun p => Value.ref p.1).toArray.push (.ref D)) (e + 1)) ((D, tupO [.str x t, .bool b]) :: (P, partsO ps e) :: c1 :: c2 :: c3 :: c4 :: rest)
      ((D, tupO [.str x t, .bool b]) :: (P, W.listOf ((ps.map fun p => Value.ref p.1).toArray.push (.ref D)) (e + 1)) :: c1 :: c2 :: c3 :: c4 :: rest) := Upd.tail hD (Upd.head hall)
  refine append_K F N U (fun h' F' N' => h h' F' ?_) (by rw [List.size_toArray, List.length_map]; unfold sizeLine; omega)
  have e1 : W.listOf ((ps.map fun p => Value.ref p.1).toArray.push (.ref D)) (e + 1) = partsO (ps ++ [(D, x, t, b)]) (e + 1) := by
    simp [partsO, W.listOf]
  rw [e1] at N'
  exact N'
end
theorem pieces_len (ws : List (Str × Tok)) : ∀ k, (piecesTo ws k).length ≤ k
  | 0 => by simp [piecesTo]
  | k + 1 => by
    have ih := pieces_len ws k
    unfold piecesTo at ih ⊢
    rw [List.range_succ, List.flatMap_append, List.length_append]
    have : (List.flatMap (pieceAt ws (cutsF ws)) [k]).length ≤ 1 := by
      simp only [List.flatMap_cons, List.flatMap_nil, List.append_nil, pieceAt]
      split <;> simp
    omega
theorem ps_len {ws : List (Str × Tok)} {ps : List (Addr × Str × Tok × Bool)} {k : Nat} (h : ps.map (fun p => (p.2.1, p.2.2.2)) = piecesTo ws k) (hk : k ≤ 1000) : ps.length ≤ 1000 := by
  have := congrArg List.length h
  rw [List.length_map] at this
  have := pieces_len ws k
  omega

section
variable {ws : List (Str × Tok)} {ps : List (Addr × Str × Tok × Bool)} {i b1 b2 s1 s2 : Nat} {x : Str} {tx t : Tok} {D : Addr}
theorem pieces_succ (k : Nat) : piecesTo ws (k + 1) = piecesTo ws k ++ pieceAt ws (cutsF ws) k := by
  unfold piecesTo; rw [List.range_succ, List.flatMap_append]; simp
theorem pieces_in {lo hi : Int} (hps : ps.map (fun p => (p.2.1, p.2.2.2)) = piecesTo ws i) (hc : cutsF ws = ((b1, b2), (s1, s2))) (hx : ws[(i : Int).toNat]? = some (x, tx)) (h1 : (b1 : Int) ≤ i) (h2 : (i : Int) ≤ s1)
    (hlo : lo = if i = b1 then (b2 : Int) else 0) (hhi : hi = if i = s1 then (s2 : Int) else (x.length : Int)) :
    (ps ++ [(D, Txt.slice x (some lo) (some hi), t, bareF x)]).map (fun p => (p.2.1, p.2.2.2)) = piecesTo ws (i + 1) := by
  rw [List.map_append, hps, pieces_succ, hc]
  rw [Int.toNat_natCast] at hx
  congr 1
  unfold pieceAt
  rw [wordAt_of hx, if_pos ⟨by simpa using h1, by simpa using h2⟩, hlo, hhi]
  rfl
theorem pieces_out (hps : ps.map (fun p => (p.2.1, p.2.2.2)) = piecesTo ws i) (hc : cutsF ws = ((b1, b2), (s1, s2))) (h : ¬ ((b1 : Int) ≤ i ∧ (i : Int) ≤ s1)) :
    ps.map (fun p => (p.2.1, p.2.2.2)) = piecesTo ws (i + 1) := by
  rw [hps, pieces_succ, hc]
  unfold pieceAt
  rw [if_neg (by simpa using h), List.append_nil]
variable {P c1 c2 c3 c4 : Addr × Obj} {t0 o : List (Addr × Obj)} {b : Bool}
theorem sub_parts : ∀ p ∈ P :: c1 :: c2 :: c3 :: c4 :: (t0 ++ (ps ++ [(D, x, t, b)]).map tupE), p ∈ (D, tupO [.str x t, .bool b]) :: P :: c1 :: c2 :: c3 :: c4 :: (t0 ++ (ps.map tupE ++ o)) := by
  intro p hp
  simp only [List.map_append, List.map_cons, List.map_nil, List.mem_cons, List.mem_append, List.not_mem_nil, or_false] at hp ⊢
  rcases hp with h | h | h | h | h | h | h | h
  · simp [h]
  · simp [h]
  · simp [h]
  · simp [h]
  · simp [h]
  · simp [h]
  · exact .inr (.inr (.inr (.inr (.inr (.inr (.inr (.inl h)))))))
  · exact .inl h
theorem own_parts {d : Addr × Obj} : ∀ p ∈ o, p ∈ d :: P :: c1 :: c2 :: c3 :: c4 :: (t0 ++ (ps.map tupE ++ o)) := fun p hp => by simp [hp]
theorem sub_skip : ∀ p ∈ P :: c1 :: c2 :: c3 :: c4 :: (t0 ++ ps.map tupE), p ∈ P :: c1 :: c2 :: c3 :: c4 :: (t0 ++ (ps.map tupE ++ o)) := by
  intro p hp
  simp only [List.mem_cons, List.mem_append] at hp ⊢
  rcases hp with h | h | h | h | h | h | h <;> simp [h]
theorem own_skip : ∀ p ∈ o, p ∈ P :: c1 :: c2 :: c3 :: c4 :: (t0 ++ (ps.map tupE ++ o)) := fun p hp => by simp [hp]
theorem off_parts {PA : Addr} {Po Po' : Obj} {a1 a2 a3 a4 a5 : Prop} (h : TbOff o ((PA, Po) :: c1 :: c2 :: c3 :: c4 :: (t0 ++ ps.map tupE))) (hd : a1 ∧ a2 ∧ a3 ∧ a4 ∧ a5 ∧ AllLt D (t0 ++ (ps.map tupE ++ o))) :
    TbOff o ((PA, Po') :: c1 :: c2 :: c3 :: c4 :: (t0 ++ (ps ++ [(D, x, t, b)]).map tupE)) := by
  intro p hp q hq
  simp only [List.map_append, List.map_cons, List.map_nil, List.mem_cons, List.mem_append, List.not_mem_nil, or_false] at hq
  rcases hq with rfl | hq | hq | hq | hq | hq | hq | rfl
  · exact h p hp (PA, Po) (.head _)
  · exact h p hp q (by simp [hq])
  · exact h p hp q (by simp [hq])
  · exact h p hp q (by simp [hq])
  · exact h p hp q (by simp [hq])
  · exact h p hp q (by simp [hq])
  · exact h p hp q (.tail _ (.tail _ (.tail _ (.tail _ (.tail _ (List.mem_append_right _ hq))))))
  · exact Nat.ne_of_lt (tb_ltOf hd.2.2.2.2.2 p (by simp [hp]))
theorem sep_parts {PA : Addr} (h : ∀ p ∈ t0 ++ ps.map tupE, p.1 ≠ PA) {q : Prop} (hd : PA < D ∧ q) : ∀ p ∈ t0 ++ (ps ++ [(D, x, t, b)]).map tupE, p.1 ≠ PA := by
  intro p hp
  simp only [List.map_append, List.map_cons, List.map_nil, List.mem_cons, List.mem_append, List.not_mem_nil, or_false] at hp
  rcases hp with hp | hp | rfl
  · exact h p (List.mem_append_left _ hp)
  · exact h p (List.mem_append_right _ hp)
  · exact Nat.ne_of_gt hd.1
end
/-- a fact that holds where its condition does -/
noncomputable def Has (p q : Prop) : Prop := p → q
theorem Has.use {p q : Prop} (h : Has p q) (hp : p) : q := h hp
theorem cutW_ok {n : Nat} : ∀ (cs : List Nat) (i k : Nat) (b : Nat × Nat), i < n → (b.2 > 0 → b.1 < n) → (∀ r, cutW i k cs b = .error r → (r.1.2 > 0 → r.1.1 < n)) ∧ (∀ b', cutW i k cs b = .ok b' → (b'.2 > 0 → b'.1 < n))
  | [], i, k, b, _, hb => ⟨fun r h => (by simp [cutW] at h), fun b' h => by simp [cutW] at h; subst h; exact hb⟩
  | c :: cs, i, k, b, hi, hb => by
    rw [cutW]
    split
    · exact ⟨fun r h => by injection h with h; subst h; exact hb, fun b' h => by cases h⟩
    · refine cutW_ok cs i (k + 1) _ hi ?_
      split
      · exact fun _ => hi
      · exact hb
theorem cutR_ok {n : Nat} : ∀ (ws : List (Str × Tok)) (i : Nat) (b : Nat × Nat), i + ws.length ≤ n → (b.2 > 0 → b.1 < n) → ((cutR i ws b).1.2 > 0 → (cutR i ws b).1.1 < n)
  | [], i, b, _, hb => hb
  | w :: ws, i, b, hn, hb => by
    rw [List.length_cons] at hn
    rw [cutR]
    have h := cutW_ok w.1.cps.toList i 0 b (by omega : i < n) hb
    split
    · next r e => exact h.1 r e
    · next b' e => exact cutR_ok ws (i + 1) b' (by omega) (h.2 b' e)
theorem cuts_in {ws : List (Str × Tok)} {b1 b2 s1 s2 : Nat} (h : cutsF ws = ((b1, b2), (s1, s2))) (hb : b2 > 0) : b1 < ws.length := by
  have := cutR_ok ws 0 (0, 0) (by omega : 0 + ws.length ≤ ws.length) (fun h => by simp at h)
  unfold cutsF at h
  rw [h] at this
  exact this hb
theorem has_word {ws : List (Str × Tok)} {n : Nat} {q : Prop} (h : q → n < ws.length) : ∃ x t, Has q (ws[(n : Int).toNat]? = some (x, t)) ∧ wordAt ws n = x ∧ (x.length ≤ 10 ∧ PyData.strOk x = true ∨ ¬ ((∀ p ∈ ws, p.1.length ≤ 10) ∧ ∀ p ∈ ws, PyData.strOk p.1 = true)) := by
  by_cases hn : n < ws.length
  · have e := List.getElem?_eq_getElem hn
    refine ⟨ws[n].1, ws[n].2, fun _ => by rw [Int.toNat_natCast]; exact e, wordAt_of e, ?_⟩
    by_cases hh : (∀ p ∈ ws, p.1.length ≤ 10) ∧ ∀ p ∈ ws, PyData.strOk p.1 = true
    · exact .inl ⟨hh.1 _ (List.getElem_mem hn), hh.2 _ (List.getElem_mem hn)⟩
    · exact .inr hh
  · refine ⟨⟨#[]⟩, 0, fun hq => absurd (h hq) hn, ?_, .inl ⟨by decide, by decide +kernel⟩⟩
    unfold wordAt
    rw [List.getD_eq_getElem?_getD, List.getElem?_eq_none (by omega)]
    rfl
theorem has_stop {ws : List (Str × Tok)} {c : Nat × Nat} {s1 s2 : Nat} (h1 : ∀ p ∈ ws, p.1.length ≤ 10) (h2 : ∀ p ∈ ws, PyData.strOk p.1 = true) (_ : cutsF ws = (c, (s1, s2))) : ∃ x t, Has (s1 < ws.length) (ws[(s1 : Int).toNat]? = some (x, t)) ∧ wordAt ws s1 = x ∧ x.length ≤ 10 ∧ PyData.strOk x = true := by
  obtain ⟨x, t, a, b, c⟩ := has_word (n := s1) (fun h => h : s1 < ws.length → s1 < ws.length)
  exact ⟨x, t, a, b, c.resolve_right (fun q => q ⟨h1, h2⟩)⟩
theorem has_front {ws : List (Str × Tok)} {c : Nat × Nat} {b1 b2 : Nat} (h1 : ∀ p ∈ ws, p.1.length ≤ 10) (h2 : ∀ p ∈ ws, PyData.strOk p.1 = true) (h : cutsF ws = ((b1, b2), c)) : ∃ x t, Has (b2 > 0) (ws[(b1 : Int).toNat]? = some (x, t)) ∧ wordAt ws b1 = x ∧ x.length ≤ 10 ∧ PyData.strOk x = true := by
  obtain ⟨x, t, a, b, c⟩ := has_word (n := b1) (cuts_in (s1 := c.1) (s2 := c.2) h)
  exact ⟨x, t, a, b, c.resolve_right (fun q => q ⟨h1, h2⟩)⟩
theorem front_one {ws : List (Str × Tok)} {c : Nat × Nat} {b1 b2 : Nat} (h : cutsF ws = ((b1, b2), c)) (hb : (0 : Int) < b2) {x : Str} (hx : wordAt ws b1 = x) (hf : bareF x = false) : Str.ofString "'" = frontF ws := by
  unfold frontF; rw [h, if_pos ⟨by simpa using hb, by rw [hx]; exact hf⟩]
theorem front_no {ws : List (Str × Tok)} {c : Nat × Nat} {b1 b2 : Nat} (h : cutsF ws = ((b1, b2), c)) {x : Str} (hx : wordAt ws b1 = x) (hb : ¬ (0 : Int) < b2 ∨ bareF x = true) : Str.ofString "" = frontF ws := by
  unfold frontF; rw [h, if_neg]
  rintro ⟨q1, q2⟩
  rcases hb with hb | hb
  · apply hb; simpa using q1
  · rw [hx, hb] at q2; cases q2
theorem back_one {ws : List (Str × Tok)} {c : Nat × Nat} {s1 s2 : Nat} (h : cutsF ws = (c, (s1, s2))) (hb : (s1 : Int) < ws.length) {x : Str} (hx : wordAt ws s1 = x) (hf : bareF x = false) : Str.ofString "'" = backF ws := by
  unfold backF; rw [h, if_pos ⟨by simpa using hb, by rw [hx]; exact hf⟩]
theorem back_no {ws : List (Str × Tok)} {c : Nat × Nat} {s1 s2 : Nat} (h : cutsF ws = (c, (s1, s2))) {x : Str} (hx : wordAt ws s1 = x) (hb : ¬ (s1 : Int) < ws.length ∨ bareF x = true) : Str.ofString "" = backF ws := by
  unfold backF; rw [h, if_neg]
  rintro ⟨q1, q2⟩
  rcases hb with hb | hb
  · apply hb; simpa using q1
  · rw [hx, hb] at q2; cases q2
section
variable {prog : Program} {w : World} {A : Around} {E : Value → Shared → Prop} {s : Shared} {h₀ : Heap} {L : Addr} {m : Str → Option Value} {news : List (Addr × Obj)}
theorem item_tup {value slice : Expr} {l : Addr} {vs : List Value} {k : Int} {u : Tok} {v : Value} {Q : Value → Shared → Prop} (j : Nat)
    (N : News h₀ L s.heap news) (hm : (l, tupO vs) ∈ news) (h0 : -(2 ^ 63) ≤ k) (hhi : k < 2 ^ 63) (hj : seqIndex? k vs.length = some j) (hx : vs[j]? = some v) (h : Q v s)
    (hs : subscripted slice false (.ref l) (.int k u) = operate [.ref l, .int k u] (getItem (.ref l) (.int k u)) := by with_unfolding_all rfl) :
    wpAny (model prog w) A (subscriptTail value slice (.ref l) (.int k u)) Q E s :=
  item_tupleT (show IsTup s.heap l vs.toArray from ⟨_, N.get hm, rfl, _, rfl⟩) h0 hhi hj hx h hs
end
theorem news_parts {h₀ h : Heap} {L : Addr} {T P : Addr} {f b : Str} {t1 t2 : Tok} {ws : List (Str × Tok)} {c0 c1 c2 c3 c4 : Addr × Obj} {rest : List (Addr × Obj)} (hf : f = frontF ws) (hb : b = backF ws) (N : News h₀ L h ((T, tupO [.ref P, .str f t1, .str b t2]) :: c0 :: c1 :: c2 :: c3 :: c4 :: rest)) :
    News h₀ L h ((T, tupO [.ref P, .str (frontF ws) t1, .str (backF ws) t2]) :: c0 :: c4 :: rest) := by
  subst hf hb
  refine fun p hp => N p ?_
  simp only [List.mem_cons] at hp ⊢
  rcases hp with h | h | h | h <;> simp [h]
theorem wp_abs {α : Type} {M : Model} {A : Around} {x : Sem α} {Q : α → Shared → Prop} {E : Value → Shared → Prop} {s : Shared} (h : ∀ (Q' : α → Shared → Prop) (E' : Value → Shared → Prop), (∀ f s', Q f s' → Q' f s') → wpAny M A x Q' E' s) : wpAny M A x Q E s := h Q E fun _ _ x => x

local macro_rules | `(tactic| k_all) => `(tactic| assumption)
local macro_rules | `(tactic| walk_at "call ref") => `(tactic| (k_here; (with_reducible show wpAny _ _ (call (Value.ref 778) [Value.str _ _]) _ _ _); k_dflt (refine' bare_spec _ _ _ _ _ _ _ _ _ _ _ _ _ _ _ _ _ _ _ _ _ _ _ _ _ _ ?B ?F ?X ?N ?T ?hk ?hd ?hu ?h0 ?h1 ?_; (case B | F | X | N | T => k_asm); (case hk => rfl); (case hd => ktr_room); (case hu => ktr_units); (case h0 => first | omega | assumption); (case h1 => assumption)); intro v' h' tk' hv' F' N'; subst hv'; (try dsimp only); (try k_fold)))
local macro_rules | `(tactic| walk_at "call ref") => `(tactic| (k_here; (with_reducible show wpAny _ _ (call (Value.ref 785) [Value.ref _]) _ _ _); k_dflt (refine' cuts_spec _ _ _ _ _ _ _ _ _ _ _ _ _ _ _ _ _ _ _ _ _ _ _ _ _ _ _ ?B ?F ?X ?N ?T ?hk ?hd ?hu ?h0 ?h1 ?_; (case B | F | X | N | T => k_asm); (case hk => rfl); (case hd => ktr_room); (case hu => ktr_units); (case h0 => first | omega | assumption); (case h1 => assumption)); intro T' A' B' b1' b2' s1' s2' t1' t2' t3' t4' h' tk' hcuts' F' N'; (try dsimp only); (try k_fold)))
local macro_rules | `(tactic| walk_at "call builtin:list.append") => `(tactic| (k_here; (with_reducible show wpAny _ _ (call (Value.builtin "list.append") [Value.ref _, Value.ref _]) _ _ _); k_dflt (refine' append_parts ?F ?N ?a ?b ?c ?d ?e ?r ?l ?_; (case F | N => k_asm); (case a | b | c | d | e => k_ne); (case r | l => assumption)); intro h' F' N'; (try k_sweep)))
local macro_rules | `(tactic| walk_at "mine item") => `(tactic| (k_here; (with_reducible show wpAny _ _ (subscriptTail _ _ (Value.ref _) (Value.int _ _)) _ _ _); k_dflt (refine' item_strs ?N ?hm ?a ?b ?hx ?_; (case N => k_asm); (case hm => k_mem); (case hx => first | assumption | (refine Has.use (by assumption) ?_; omega)); (case a | b => omega); k_whole)))
local macro_rules | `(tactic| walk_at "subscriptTail") => `(tactic| walk_at "mine item")
local macro_rules | `(tactic| walk_at "mine itup") => `(tactic| (k_here; (with_reducible show wpAny _ _ (subscriptTail _ _ (Value.ref _) (Value.int _ _)) _ _ _); k_dflt (refine' item_tup _ ?N ?hm ?a ?b ?hj ?hx ?_; (case N => k_asm); (case hm => k_mem); (case hj | hx => exact rfl); (case a | b => exact (by decide)); k_whole)))
local macro_rules | `(tactic| walk_at "subscriptTail") => `(tactic| walk_at "mine itup")
local macro_rules | `(tactic| walk_at "subscriptTail Name Constant ref int") => `(tactic| walk_at "mine item")
local macro_rules | `(tactic| walk_at "subscriptTail Name Name ref int") => `(tactic| walk_at "mine item")
local macro_rules | `(tactic| walk_at "subscriptTail Name Constant ref int") => `(tactic| walk_at "mine itup")
local macro_rules | `(tactic| walk_at "subscriptTail Name Name ref int") => `(tactic| walk_at "mine itup")

set_option maxHeartbeats 4000000 in
theorem parts_spec : ∀ (w : World) (p : Program) (loose : List Str) (mean : ExcName → Option Value) (mg mb : Str → Option Value) (dp un : Nat) (gd : Option (List Code)) (cn : Str) (cs : Scope) (a : Addr) (ccd : Value) (cl : List (Str × Addr)) (outer : List Env) (A₀ : Around) (base h₀ : Heap) (L : Addr) (m : Str → Option Value) (news : List (Addr × Obj)) (s : Shared) (Q E : Value → Shared → Prop) (l : Addr) (ws : List (Str × Tok)) (n : Nat),
  Below A₀ base outer h₀ → Fr h₀ L s.heap m → (Mine.H.K w.params).In h₀ → News h₀ L s.heap ((l, listO ws n) :: news) → Top p loose mean mg mb h₀ → cs.kind = .function → dp + 40 < recursionLimit → un + 400 < cLine → ws.length ≤ 6 → (∀ p ∈ ws, p.1.length ≤ 10) → (∀ p ∈ ws, PyData.strOk p.1 = true) →
  (∀ T P ps e t1 t2 h' tk', List.map (fun p => (p.2.1, p.2.2.2)) ps = piecesF ws → Fr h₀ L h' m → News h₀ L h' ((T, tupO [.ref P, .str (frontF ws) t1, .str (backF ws) t2]) :: (P, partsO ps e) :: (l, listO ws n) :: (news ++ ps.map tupE)) → Q (.ref T) {s with heap := h', toks := tk'}) →
  wpAny (model PySem.Challenge.rw_mq0393_01.prog w) (ktrTop dp un gd cn cs L a ccd cl outer) (call (.ref 792) [.ref l]) Q E s := by
  k_fill
  intro w p loose mean mg mb dp un gd cn cs a ccd cl outer A₀ base h₀ L m news s Q E l ws n B F X N T hk hd hu h0 h1 h2 ret
  refine wpAny_call ?_
  k_dflt (walk_at "mine plain")
  walk_at "mine steps"
  refine Halt.mk ?_
  refine' tbr_invG (n := ws.length) (JPart l _ ws n news _ _ _ _ _ _ _ _ _ _ _) rfl ?hr (small_len (by omega)) (size_len _) ?F ?N ?hj ?turn ?done
  case hr => assumption
  case F => assumption
  case N => assumption
  case hj => exact ⟨[], _, _, by rw [List.map_nil, List.append_nil]; rfl, frame4 rfl rfl rfl rfl, rfl, sep_nil (by assumption)⟩
  case turn =>
    intro i k ti m₁ nx h9 tk9 own hk9 hoff hJ F9 N9
    obtain ⟨ps, e, u, rfl, rfl, hps, hsep⟩ := hJ
    obtain ⟨rfl, hi⟩ := rangeKs0 hk9
    obtain ⟨⟨x, tx⟩, hx⟩ : ∃ p, ws[(i : Int).toNat]? = some p := by
      rw [Int.toNat_natCast]
      exact ⟨_, List.getElem?_eq_getElem hi⟩
    have hxl : x.length ≤ 10 := h1 (x, tx) (List.mem_of_getElem? hx)
    have hxo : PyData.strOk x = true := h2 (x, tx) (List.mem_of_getElem? hx)
    have hsep2 := sep_own hsep hoff
    k_sweep
    have hpl := ps_len hps (by omega)
    simp only [List.cons_append, List.append_assoc] at N9
    refine wp_abs ?_
    intro Q9 E9 hQ9
    walk_at "mine steps"
    · exact hQ9 _ _ ⟨_, _, _, _, _, rfl, (by assumption), (by assumption), sub_parts, own_parts, off_parts hoff (by assumption), ⟨_, _, _, rfl, frame4 rfl rfl rfl rfl, pieces_in hps (by assumption) hx (by omega) (by omega) (by split <;> omega) (by split <;> omega), sep_parts hsep (by assumption)⟩⟩
    · exact hQ9 _ _ ⟨_, _, _, _, _, rfl, (by assumption), (by assumption), sub_parts, own_parts, off_parts hoff (by assumption), ⟨_, _, _, rfl, frame4 rfl rfl rfl rfl, pieces_in hps (by assumption) hx (by omega) (by omega) (by split <;> omega) (by split <;> omega), sep_parts hsep (by assumption)⟩⟩
    · exact hQ9 _ _ ⟨_, _, _, _, _, rfl, (by assumption), (by assumption), sub_parts, own_parts, off_parts hoff (by assumption), ⟨_, _, _, rfl, frame4 rfl rfl rfl rfl, pieces_in hps (by assumption) hx (by omega) (by omega) (by split <;> omega) (by split <;> omega), sep_parts hsep (by assumption)⟩⟩
    · exact hQ9 _ _ ⟨_, _, _, _, _, rfl, (by assumption), (by assumption), sub_parts, own_parts, off_parts hoff (by assumption), ⟨_, _, _, rfl, frame4 rfl rfl rfl rfl, pieces_in hps (by assumption) hx (by omega) (by omega) (by split <;> omega) (by split <;> omega), sep_parts hsep (by assumption)⟩⟩
    · exact hQ9 _ _ ⟨_, _, _, _, _, rfl, (by assumption), (by assumption), sub_skip, own_skip, hoff, ⟨_, _, _, rfl, frame4 rfl rfl rfl rfl, pieces_out hps (by assumption) (by omega), hsep⟩⟩
    · exact hQ9 _ _ ⟨_, _, _, _, _, rfl, (by assumption), (by assumption), sub_skip, own_skip, hoff, ⟨_, _, _, rfl, frame4 rfl rfl rfl rfl, pieces_out hps (by assumption) (by omega), hsep⟩⟩
  case done =>
    intro m₁ nx h9 tk9 hJ F9 N9
    obtain ⟨ps, e, u, rfl, rfl, hps, hsep⟩ := hJ
    rename cutsF ws = _ => hcut
    have hbl := cuts_in hcut
    obtain ⟨x, tx, hx, hw, hxl, hxo⟩ := has_front h1 h2 hcut
    obtain ⟨y, ty, hy, hwy, hyl, hyo⟩ := has_stop h1 h2 hcut
    k_sweep
    walk_at "mine steps"
    all_goals (refine ret _ _ ps _ _ _ _ _ hps (by assumption) (news_parts ?_ ?_ (by assumption)))
    all_goals first | exact front_no hcut hw (.inl (by assumption)) | exact front_no hcut hw (.inr (by assumption)) | exact front_one hcut (by assumption) hw (by assumption) | exact back_no hcut hwy (.inl (by assumption)) | exact back_no hcut hwy (.inr (by assumption)) | exact back_one hcut (by assumption) hwy (by assumption)

-- calls from a frame that is not known (a generator's)
noncomputable def KeptIn (h g : Heap) : Prop := ∀ b o, h.get? b = some o → g.get? b = some o
theorem kept_fr {h g h' : Heap} {L : Addr} {m : Str → Option Value} (k : KeptIn h g) (F : Fr g L h' m) : KeptIn h h' := fun b o e => F.keep b o (k b o e)
noncomputable def fakeEnv (L : Addr) : Env := envOf (Str.ofString "f") { kind := .function, names := [], isGenerator := false, isCoroutine := false } L 0 .none
noncomputable abbrev kBare (dp un : Nat) : Around := { handled := none, depth := dp, frames := none, guards := none, units := un }
section
variable {prog : Program} {w : World} {A : Around} {s : Shared} {K : Frag} {L : Addr} {h₀ : Heap} {m mg mb : Str → Option Value} {news : List (Addr × Obj)} {p : Program} {loose : List Str} {mean : ExcName → Option Value}
theorem enter_bare {R : Result → Shared → Prop} {name qual : Str} {params : Arguments} {body : List Stmt} {scope : Scope} {dV kV doc pm cdv ct oc : Value} {an od : Option Addr} {osl : Array (Option Value)} {f : Addr} {args : Args} {binds : List (Str × Value)}
    (F : Fr h₀ L s.heap m) (X₀ : K.In h₀) (N : News h₀ L s.heap news) (T : Top p loose mean mg mb h₀)
    (ho : K.lookup f = some ⟨oc, od, .func (fnOf name qual params body scope dV kV doc pm an cdv ct), osl⟩) (hcd : codeIn K cdv qual = true) (hroom : A.depth < recursionLimit)
    (hbind : BindsTo s (fnOf name qual params body scope dV kV doc pm an cdv ct) args binds) (hloc : ∀ y ∈ binds, scope.names.lookup y.1 = some .local)
    (h : ∀ g L' h₁, Fr h₀ L g m → Fr g L' h₁ (fun y => binds.reverse.lookup y) → News g L' h₁ news → Below { callerA with frames := some [fakeEnv L] } h₀ [fakeEnv L] g → K.In g → Top p loose mean mg mb g → NB L' news → (news = [] → KeptIn s.heap g) →
      wpAny (model prog w) (A.deeper (envOf qual scope L' f cdv)) (execs body (envOf qual scope L' f cdv))
        (fun fl s' => LeaveK h₀ L m g R (match fl with | .ret v => v | _ => .none) s')
        (fun e s' => wpAny (model prog w) (A.deeper (envOf qual scope L' f cdv)) (leaving (envOf qual scope L' f cdv) e) (fun _ s'' => R (.error e) s'') (fun e' s'' => R (.error e') s'') s')
        { s with heap := h₁, toks := s.toks + binds.length })
    (hco : scope.isCoroutine = false) (hgen : scope.isGenerator = false) (hk : scope.kind = .function)
    (hcell : ∀ x ∈ scope.names, x.2 ≠ .cell) : codeAny (model prog w) A (.call (.ref f) args) R s := by
  obtain ⟨FG, BG, st, lv⟩ := groundX (R := R) (A := { callerA with frames := some [fakeEnv L] }) (env := fakeEnv L) (below_caller h₀) F N rfl rfl rfl
  refine codeAny_call_def (fd := fnOf name qual params body scope dV kV doc pm an cdv ct) (body := body) (binds := binds) hroom ((X₀.keeps F.keep) _ _ ho) rfl (T.nolimit.keeps F.keep) (codeRec_of (X₀.keeps F.keep) hcd) rfl hbind hcell hloc (fun h₁ hns hk₁ => ?_) hco hgen hk
  exact wpAny_mono (h _ s.heap.objs.size h₁ FG ⟨hns, fun b o e => hk₁ b o (of_hideAll _ e), Nat.le_of_eq (hideAll_size _ _)⟩
    (fun p hp => ⟨hk₁ _ _ (N p hp).1, Nat.ne_of_lt (Heap.lt_size (N p hp).1), hideAll_none _ (List.mem_map_of_mem hp)⟩) BG (X₀.keeps st) (T.keeps st) (fun p hp => Heap.lt_size (N p hp).1) (fun e b o hb => by subst e; exact hideAll_get _ hb (by simp))) (fun fl s' hl => lv _ _ hl) fun _ _ y => y
end
theorem wpAny_bare {α : Type} {M : Model} {A : Around} {t : Sem α} {Q : α → Shared → Prop} {E : Value → Shared → Prop} {s : Shared} {dp un : Nat} (hh : A.handled = none) (hd : A.depth ≤ dp) (hu : A.units ≤ un)
    (h : wpAny M (kBare dp un) t Q E s) : wpAny M A t Q E s := fun Γ p hΓ => h Γ p ⟨hΓ.1.trans hh, Nat.le_trans hΓ.2.1 hd, fun _ e => (nomatch e), fun _ e => (nomatch e), Nat.le_trans hΓ.2.2.2.2 hu⟩

local macro_rules | `(tactic| walk_at "mine bare") => `(tactic| (refine' enter_bare ?k2 ?k3 ?k4 ?k5 ?k6 ?k7 ?k8 ?k9 ?kB ?_ ?c2 ?c3 ?c4 ?c5; (case k2 | k3 | k4 | k5 => k_asm); (case k6 | k7 => k_is); (case k8 => ktr_room); (case k9 => exact BindsTo.of_eq rfl); (case c5 => decide); (case kB => exact locs rfl); (case c2 | c3 | c4 => exact rfl); k_whole; intro g' L' h' FG' F' N' B' X' T' hNB' hKeep'; (have hKeep2' := hKeep' rfl); (clear hKeep'); (try dsimp only); (try k_lift B'); (try k_fold)))

set_option maxHeartbeats 4000000 in
theorem quoteG_spec : ∀ (w : World) (p : Program) (loose : List Str) (mean : ExcName → Option Value) (mg mb : Str → Option Value) (dp un : Nat) (gd : Option (List Code)) (cn : Str) (cs : Scope) (a : Addr) (ccd : Value) (cl : List (Str × Addr)) (outer : List Env) (A₀ : Around) (base h₀ : Heap) (L : Addr) (m : Str → Option Value)  (s : Shared) (Q E : Value → Shared → Prop) (x : Str) (t : Tok),
  Below A₀ base outer h₀ → Fr h₀ L s.heap m → (Mine.H.K w.params).In h₀ → News h₀ L s.heap ([]) → Top p loose mean mg mb h₀ → cs.kind = .function → dp + 20 < recursionLimit → un + 200 < cLine → x.length ≤ 10 → PyData.strOk x = true →
  (∀ v h' tk', (∃ t', v = .str (spelledF x (bareF x)) t') → KeptIn s.heap h' → Q v {s with heap := h', toks := tk'}) →
  wpAny (model PySem.Challenge.rw_mq0393_01.prog w) (kBare dp un) (call (.ref 766) [.str x t]) Q E s := by
  k_fill
  intro w p loose mean mg mb dp un gd cn cs a ccd cl outer A₀ base h₀ L m  s Q E x t B F X N T hk hd hu h0 h1 ret
  refine wpAny_call ?_
  k_dflt (walk_at "mine bare")
  walk_at "mine steps"
  · exact ret _ _ _ ⟨_, quote_1 (by assumption) (by assumption)⟩ (kept_fr (by assumption) (by assumption))
  · exact ret _ _ _ ⟨_, quote_2 (by assumption) (by assumption) (by assumption)⟩ (kept_fr (by assumption) (by assumption))
  · exact ret _ _ _ ⟨_, quote_0 (by assumption)⟩ (kept_fr (by assumption) (by assumption))

set_option maxHeartbeats 4000000 in
theorem signG_spec : ∀ (w : World) (p : Program) (loose : List Str) (mean : ExcName → Option Value) (mg mb : Str → Option Value) (dp un : Nat) (gd : Option (List Code)) (cn : Str) (cs : Scope) (a : Addr) (ccd : Value) (cl : List (Str × Addr)) (outer : List Env) (A₀ : Around) (base h₀ : Heap) (L : Addr) (m : Str → Option Value)  (s : Shared) (Q E : Value → Shared → Prop) (n : Int) (t : Tok),
  Below A₀ base outer h₀ → Fr h₀ L s.heap m → (Mine.H.K w.params).In h₀ → News h₀ L s.heap ([]) → Top p loose mean mg mb h₀ → cs.kind = .function → dp + 20 < recursionLimit → un + 200 < cLine →
  (∀ v h' tk', (∃ c t', v = .str ⟨#[c]⟩ t' ∧ c < 1114112) → KeptIn s.heap h' → Q v {s with heap := h', toks := tk'}) →
  wpAny (model PySem.Challenge.rw_mq0393_01.prog w) (kBare dp un) (call (.ref 773) [.int n t]) Q E s := by
  k_fill
  intro w p loose mean mg mb dp un gd cn cs a ccd cl outer A₀ base h₀ L m  s Q E n t B F X N T hk hd hu  ret
  refine wpAny_call ?_
  k_dflt (walk_at "mine bare")
  walk_at "mine steps"
  · refine ret _ _ _ ⟨_, _, rfl, ?_⟩ (kept_fr (by assumption) (by assumption))
    exact small_sign (fm_pos n (by decide)).1 (by assumption)
  · refine ret _ _ _ ⟨_, _, rfl, ?_⟩ (kept_fr (by assumption) (by assumption))
    have h9 := fm_pos (n.fdiv 12) (k := 128) (by decide)
    omega
  · refine ret _ _ _ ⟨_, _, rfl, ?_⟩ (kept_fr (by assumption) (by assumption))
    have h9 := fm_pos (n.fdiv 12) (k := 1112064) (by decide)
    omega
  · refine ret _ _ _ ⟨_, _, rfl, ?_⟩ (kept_fr (by assumption) (by assumption))
    have h9 := fm_pos (n.fdiv 12) (k := 1112064) (by decide)
    omega


set_option maxHeartbeats 4000000 in
theorem spelledG_spec : ∀ (w : World) (p : Program) (loose : List Str) (mean : ExcName → Option Value) (mg mb : Str → Option Value) (dp un : Nat) (gd : Option (List Code)) (cn : Str) (cs : Scope) (a : Addr) (ccd : Value) (cl : List (Str × Addr)) (outer : List Env) (A₀ : Around) (base h₀ : Heap) (L : Addr) (m : Str → Option Value)  (s : Shared) (Q E : Value → Shared → Prop) (x : Str) (t : Tok) (b : Bool),
  Below A₀ base outer h₀ → Fr h₀ L s.heap m → (Mine.H.K w.params).In h₀ → News h₀ L s.heap ([]) → Top p loose mean mg mb h₀ → cs.kind = .function → dp + 20 < recursionLimit → un + 200 < cLine → x.length ≤ 10 →
  (∀ v h' tk', (∃ t', v = .str (spelledF x b) t') → KeptIn s.heap h' → Q v {s with heap := h', toks := tk'}) →
  wpAny (model PySem.Challenge.rw_mq0393_01.prog w) (kBare dp un) (call (.ref 797) [.str x t, .bool b]) Q E s := by
  k_fill
  intro w p loose mean mg mb dp un gd cn cs a ccd cl outer A₀ base h₀ L m  s Q E x t b B F X N T hk hd hu h0 ret
  refine wpAny_call ?_
  k_dflt (walk_at "mine bare")
  walk_at "mine steps"
  · exact ret _ _ _ ⟨_, spelled_yes (by assumption)⟩ (kept_fr (by assumption) (by assumption))
  · exact ret _ _ _ ⟨_, spelled_no (by assumption) (by assumption)⟩ (kept_fr (by assumption) (by assumption))

-- a generator expression over a list, whose code table lies in the ledger
noncomputable abbrev tabO (ps : Array Value) : Obj := { cls := .none, data := .fields ps }
noncomputable def TabAt (pos : Pos) (ps : Array Value) : Prop := ps = #[] ∨ ∃ c' : Addr, ps = #[rawInt pos.line, rawInt pos.col, .ref c']
theorem tab_cases {pos : Pos} {ps : Array Value} (h : TabAt pos ps) : codeAmong pos ps.toList = none ∧ ps = #[] ∨ ∃ c' : Addr, codeAmong pos ps.toList = some (.ref c') := by
  rcases h with rfl | ⟨c', rfl⟩
  · exact .inl ⟨rfl, rfl⟩
  · exact .inr ⟨c', by simp [codeAmong, rawInt]⟩
section
variable {prog : Program} {w : World} {A : Around} {E : Value → Shared → Prop} {s : Shared} {c P : Addr} {ps : Array Value} {mg : Str → Option Value} {bm : Addr} {ob : Obj}
theorem gen_list {env : Env} {elt iter : Expr} {x : Str} {px : Pos} {scope : Scope} {cl : List (Str × Addr)} {pos : Pos} {Q : Value → Shared → Prop} {l : Addr} {items : Array Value}
    (hh : A.handled = none) (hco : scope.isCoroutine = false) (hclos : closureFor scope env = pure cl) (hcell : ∀ y ∈ scope.names, y.2 ≠ .cell) (h0 : scope.names.lookup (".0" : Str) = some NameKind.local)
    (hx : scope.names.lookup x = some .local) (hkind : scope.kind = .function) (hroom : A.depth < recursionLimit)
    (hiter : ∀ Q' : Value → Shared → Prop, Q' (.ref l) s → wpAny (model prog w) A (eval iter env) Q' E s)
    (hl : s.heap.IsList l items) (hlim : s.heap.NoLimit) (M : BMod s.heap env.globals mg bm ob) (G : AllBare s.gens)
    (hcode : env.code = .ref c) (hok : s.heap.IsCode c P ps) (htab : s.heap.TableAt c P ps) (hps : TabAt pos ps)
    (F : Nat → Value → Prop)
    (helt : ∀ (c' : Value) (C : Addr) (A' : Around) E' i v (t : Shared) m₂, A'.handled = none → A'.depth ≤ A.depth + 1 → A'.units ≤ A.units + 8 → items[i]? = some v → t.heap.Ns C m₂ → m₂ x = some v → s.heap.objs.size ≤ C →
      (∀ b o, b ≠ P → s.heap.get? b = some o → t.heap.get? b = some o) →
      wpAny (model prog w) A' (eval elt (genEnv scope cl C c' builtinsNs env)) (fun y s₃ => F i y ∧ Keeps t s₃) E' t)
    (hQ : ∀ (a : Addr) (ps' : Array Value) (s₅ : Shared), TabAt pos ps' → s₅.heap.get? P = some (tabO ps') → (∀ b o, b ≠ P → s.heap.get? b = some o → s₅.heap.get? b = some o) → AllBare s₅.gens → s₅.os = s.os →
      Gen prog w A (s.heap.objs.size - 1) a items.size F s₅ → Q (.ref a) s₅)
    (hs : ∀ x, genFold iter env x = pure x) :
    wpAny (model prog w) A (eval (.GeneratorExp elt [⟨.Name x px, iter, [], 0⟩] scope pos) env) Q E s := by
  have hlt : l < s.heap.objs.size := by obtain ⟨_, e, _⟩ := hl; exact Heap.lt_size e
  have hPlt : P < s.heap.objs.size := Heap.lt_size htab.2
  have hclt : cStatics < s.heap.objs.size := let ⟨_, hn, _⟩ := hlim; hn.lt
  have hcP : cStatics ≠ P := fun e => by
    obtain ⟨_, hns, _⟩ := hlim
    obtain ⟨o, es, ep, ho, hd, _⟩ := hns
    rw [e, htab.2] at ho; cases ho; cases hd
  have hlP : l ≠ P := fun e => by
    obtain ⟨o, ho, hc, _⟩ := hl
    rw [e, htab.2] at ho; cases ho; exact absurd hc (by simp)
  refine wpAny_GeneratorExp_walksQD hh hco hclos hcell h0 hx hkind hroom (hiter _ (wpAny_pyIter_list hl ⟨hlim.push _, ?_⟩)) hs
  -- the state with the iterator pushed
  generalize hit : ({ cls := .type "list_iterator", data := .fields #[.ref l, .int 0 0] } : Obj) = ito
  have key : ∀ (c' : Value) (h₃ : Heap) (tk₃ : Nat) (ps' : Array Value), TabAt pos ps' → Heap.ExtBut P (s.heap.push ito) h₃ → (s.heap.push ito).objs.size ≤ h₃.objs.size → h₃.get? P = some (tabO ps') →
      wpAny (model prog w) A (builtinsFor env.globals env.builtins) (fun bi s₄ =>
        ∃ I fp wr n₀ Pi St₀ pz F, Value.ref s.heap.objs.size = .ref I ∧ (∀ A' : Around, A'.handled = none → Walks prog w A' I fp wr n₀ Pi St₀) ∧ St₀ 0 s₄.heap ∧ (∀ b ∈ fp, b < s₄.heap.objs.size) ∧ s₄.heap.NoLimit ∧ cStatics ∉ wr ∧
          (∀ href : Heap, (∀ b o, s₄.heap.get? b = some o → href.get? b = some o) →
            QuietGenD prog w (genEnv scope cl s₄.heap.objs.size c' bi env) x [] elt (List.range s₄.heap.objs.size) wr Pi pz F href (A.depth + 1) (A.units + 8)) ∧
          (∀ a h₅ tk gs, gs.bare = true → s₄.heap.objs.size < a → h₅.objs.size = a + 1 → (∀ b o, s₄.heap.get? b = some o → h₅.get? b = some o) →
            WalksS prog w A.in4 a (a :: s₄.heap.objs.size :: List.range s₄.heap.objs.size) (s₄.heap.objs.size :: wr) (GenOnlyQ s₄.gens.size) (passing pz n₀ 0).length
              (fun j y => ∃ i, (passing pz n₀ 0)[j]? = some i ∧ F i y) (GenAt prog w A.in4 a s₄.gens.size s₄.heap.objs.size (List.range s₄.heap.objs.size) wr pz n₀ F) →
            GenAt prog w A.in4 a s₄.gens.size s₄.heap.objs.size (List.range s₄.heap.objs.size) wr pz n₀ F 0 { s₄ with gens := s₄.gens.push gs, toks := tk, heap := h₅ } →
            Q (.ref a) { s₄ with gens := s₄.gens.push gs, toks := tk, heap := h₅ })) E { s with heap := h₃, toks := tk₃ } := by
    intro c' h₃ tk₃ ps' hps' hx₃ hsz ht₃
    have up : ∀ b o, b ≠ P → s.heap.get? b = some o → h₃.get? b = some o := fun b o hb e => hx₃ b o hb (Heap.get?_push_of_some _ e)
    have hbP : bm ≠ P := fun e => by have := M.obj; rw [e, htab.2] at this; cases this; exact absurd M.cls (by simp)
    have hgP : env.globals ≠ P := fun e => by
      obtain ⟨o, es, ep, ho, hd, _⟩ := M.ns
      rw [e, htab.2] at ho; cases ho; cases hd
    have M₃ : BMod h₃ env.globals mg bm ob := ⟨by obtain ⟨o, es, ep, ho, r⟩ := M.ns; exact ⟨o, es, ep, up _ _ hgP ho, r⟩, M.name, M.ne, up _ _ hbP M.obj, M.cls, M.dict, M.data⟩
    have hl₃ : h₃.NoLimit := (hlim.push ito).extBut hx₃ hcP
    have hsz1 : (s.heap.push ito).objs.size = s.heap.objs.size + 1 := Heap.size_push ..
    have hsz2 : s.heap.objs.size < h₃.objs.size := by rw [hsz1] at hsz; omega
    refine wpAny_builtinsFor M₃.ns M₃.name M₃.ne M₃.obj M₃.cls M₃.dict M₃.data ?_
    have hI : h₃.get? s.heap.objs.size = some ito := hx₃ _ _ (Nat.ne_of_gt hPlt) (Heap.get?_push_size _ (by rw [← hit]; rfl))
    refine ⟨s.heap.objs.size, [s.heap.objs.size, l], [s.heap.objs.size], items.size, _, _, fun _ => true, F, rfl, fun A' hA => Walks.list hA _ _ (Nat.ne_of_lt hlt) items, ⟨⟨_, hI, by rw [← hit], by rw [← hit]; rfl⟩, ?_⟩, ?_, hl₃, ?_, ?_, ?_⟩
    · obtain ⟨o, ho, r⟩ := hl; exact ⟨o, up _ _ hlP ho, r⟩
    · intro b hb
      rcases List.mem_cons.mp hb with rfl | hb
      · exact hsz2
      · rcases List.mem_cons.mp hb with rfl | hb
        · exact Nat.lt_trans hlt hsz2
        · cases hb
    · intro hb; rw [List.mem_singleton] at hb; rw [hb] at hclt; exact Nat.lt_irrefl _ hclt
    · intro href hhref
      refine ⟨fun A' E' i v t m₂ hA hD hU hP hn hm hkp => wpAny_pure ⟨rfl, t.heap, t.toks, rfl, fun _ _ e => e⟩, fun A' E' i v t m₂ hA hD hU hP _ hn hm hkp => helt c' _ A' E' i v t m₂ hA hD hU hP hn hm (Nat.le_of_lt hsz2) fun b o hb e => ?_⟩
      have hb' : b < s.heap.objs.size := Heap.lt_size e
      exact hkp b (List.mem_range.mpr (Nat.lt_trans hb' hsz2)) (by rw [List.mem_singleton]; exact Nat.ne_of_lt hb') o (hhref b o (up b o hb e))
    · intro a h₅ tk gs hgb hag hsz₅ hk₅ W hat
      have hpass : passing (fun _ => true) items.size 0 = List.range items.size := by simp [passing]
      refine hQ a ps' _ hps' (hk₅ _ _ ht₃) (fun b o hb e => hk₅ b o (up b o hb e)) (G.push hgb) rfl ?_
      refine Gen.imp (F := fun j y => ∃ i, (passing (fun _ => true) items.size 0)[j]? = some i ∧ F i y) ?_ fun j y hy => ?_
      · have hn : (passing (fun _ => true) items.size 0).length = items.size := by rw [hpass]; simp
        rw [hn] at W
        refine ⟨_, _, _, _, W, hat, (fun i s' st => st.1.typeIs), List.mem_cons_self, ?_, ?_⟩
        · intro b hb
          show b < h₅.objs.size
          rw [hsz₅]
          rcases List.mem_cons.mp hb with rfl | hb
          · exact Nat.lt_succ_self _
          · rcases List.mem_cons.mp hb with rfl | hb
            · exact Nat.lt_succ_of_lt hag
            · exact Nat.lt_succ_of_lt (Nat.lt_trans (List.mem_range.mp hb) hag)
        · intro b hb
          rcases List.mem_cons.mp hb with rfl | hb
          · show s.heap.objs.size - 1 < h₃.objs.size
            omega
          · rw [List.mem_singleton.mp hb]; exact Nat.sub_lt (Nat.lt_of_le_of_lt (Nat.zero_le _) hPlt) Nat.one_pos
      · obtain ⟨i, hi, hy⟩ := hy
        rw [hpass] at hi
        have : i = j := by
          have := List.getElem?_eq_some_iff.mp hi
          obtain ⟨h1, h2⟩ := this
          simpa using h2.symm
        rw [← this]; exact hy
  rcases tab_cases hps with ⟨hn, rfl⟩ | ⟨c', hc'⟩
  · refine wpAny_genexprCodeX (s := { s with heap := s.heap.push ito }) hcode (hok.keeps fun b o e => Heap.get?_push_of_some _ e) (htab.keeps fun b o e => Heap.get?_push_of_some _ e) hn fun c' h₃ tk₃ hx₃ hge hlt₃ hcode₃ _ htab₃ _ => ?_
    exact key _ h₃ tk₃ _ (.inr ⟨c', by simp⟩) hx₃ (Nat.le_trans hge (Nat.le_of_lt hlt₃)) htab₃.2
  · refine wpAny_genexprCode_hit (s := { s with heap := s.heap.push ito }) hcode (hok.keeps fun b o e => Heap.get?_push_of_some _ e) hc' ?_
    exact key _ _ _ ps hps (fun b o _ e => e) (Nat.le_refl _) (Heap.get?_push_of_some _ htab.2)
end
section
variable {prog : Program} {w : World} {A : Around} {E : Value → Shared → Prop} {s : Shared} {h₀ : Heap} {L : Addr} {m mg mb : Str → Option Value} {news : List (Addr × Obj)} {K : Frag} {p : Program} {loose : List Str} {mean : ExcName → Option Value}
noncomputable def QuoteAt (ws : List (Str × Tok)) (f : Str → Str) (j : Nat) (y : Value) : Prop := ∃ x u u', ws[j]? = some (x, u) ∧ y = .str (f x) u'
noncomputable def QuoteEnd (f : Str → Str) (x' : Str) (t : Shared) (y : Value) (s₃ : Shared) : Prop := (∃ u', y = .str (f x') u') ∧ Keeps t s₃
theorem gen_quotes {env : Env} {elt iter : Expr} {x : Str} {px : Pos} {scope : Scope} {cl : List (Str × Addr)} {pos : Pos} {Q : Value → Shared → Prop} {l c P : Addr} {ws : List (Str × Tok)} {n : Nat} {ps : Array Value} (f : Str → Str)
    {oc : Obj} {vs : Array Value} {file : Str} {tf tg tt : Tok} {flags text : Int} {inF : Bool}
    (hh : A.handled = none) (hco : scope.isCoroutine = false) (hclos : closureFor scope env = pure cl) (hcell : ∀ y ∈ scope.names, y.2 ≠ .cell) (h0 : scope.names.lookup (".0" : Str) = some NameKind.local)
    (hx : scope.names.lookup x = some .local) (hkind : scope.kind = .function) (hroom : A.depth < recursionLimit)
    (hiter : ∀ Q' : Value → Shared → Prop, Q' (.ref l) s → wpAny (model prog w) A (eval iter env) Q' E s)
    (F : Fr h₀ L s.heap m) (N : News h₀ L s.heap ((P, tabO ps) :: news)) (hm : (l, listO ws n) ∈ news) (hsep : ∀ p ∈ news, p.1 ≠ P) (X : K.In h₀) (T : Top p loose mean mg mb h₀) (G : AllBare s.gens) (hps : TabAt pos ps)
    (hcode : env.code = .ref c) (hglob : env.globals = mainGlobals) (hoc : K.lookup c = some oc) (hcls : oc.cls = .type "code") (hd : oc.data = .fields vs) (h11 : vs[11]? = some (.ref P)) (h18 : vs.getD 18 .none = .str file tf)
    (h7 : vs.getD 7 .none = .int flags tg) (h9 : vs.getD 9 .none = .bool inF) (h10 : vs.getD 10 .none = .int text tt)
    (helt : ∀ (c' : Value) (C : Addr) (A' : Around) E' x' u (t : Shared) m₂, A'.handled = none → A'.depth ≤ A.depth + 1 → A'.units ≤ A.units + 8 → (x', u) ∈ ws → Fr h₀ C t.heap m₂ → m₂ x = some (.str x' u) →
      wpAny (model prog w) A' (eval elt (genEnv scope cl C c' builtinsNs env)) (QuoteEnd f x' t) E' t)
    (hQ : ∀ (a K0 : Addr) (ps' : Array Value) (s₅ : Shared), TabAt pos ps' → Fr h₀ L s₅.heap m → News h₀ L s₅.heap ((P, tabO ps') :: news) → AllBare s₅.gens → s₅.os = s.os →
      Gen prog w A K0 a ws.length (QuoteAt ws f) s₅ → L ≤ K0 → (∀ q ∈ (P, tabO ps') :: news, q.1 ≤ K0) → Q (.ref a) s₅)
    (hs : ∀ x, genFold iter env x = pure x) :
    wpAny (model prog w) A (eval (.GeneratorExp elt [⟨.Name x px, iter, [], 0⟩] scope pos) env) Q E s := by
  obtain ⟨bm, ob, M⟩ := bmod_of_top T
  have hP := N (P, tabO ps) (.head _)
  have hc : s.heap.get? c = some oc := (X.keeps F.keep) _ _ hoc
  have h11' : vs.getD 11 .none = .ref P := by
    rw [Array.getD_eq_getD_getElem?, h11]; rfl
  have hcP : c ≠ P := fun e => by have := hP.1; rw [← e, hc] at this; cases this; cases hcls
  have htr : TriplesOk ps.toList := by
    rcases hps with rfl | ⟨c', rfl⟩
    · trivial
    · trivial
  have hl : s.heap.IsList l (strVs ws).toArray := ⟨_, (N _ (.tail _ hm)).1, rfl, n, rfl⟩
  have hsz : (strVs ws).toArray.size = ws.length := by simp [strVs]
  refine gen_list (c := c) (P := P) (ps := ps) hh hco hclos hcell h0 hx hkind hroom hiter hl (T.nolimit.keeps F.keep) (by rw [hglob]; exact M.keeps F.keep) G hcode
    ⟨oc, vs, file, tf, flags, tg, inF, text, tt, _, hc, hd, h11', h18, h7, h9, h10, hP.1, rfl, htr, hcP⟩ ⟨⟨oc, vs, hc, hcls, hd, h11⟩, hP.1⟩ hps (QuoteAt ws f) ?_ ?_ hs
  · intro c' C A' E' i v t m₂ hA hD hU hi hn hmv hC hk
    have hi' : (strVs ws)[i]? = some v := by simpa using hi
    unfold strVs at hi'
    rw [List.getElem?_map] at hi'
    cases hw : ws[i]? with
    | none => rw [hw] at hi'; cases hi'
    | some q =>
      obtain ⟨x', u⟩ := q
      rw [hw] at hi'
      cases hi'
      refine wpAny_mono (helt c' C A' E' x' u t m₂ hA hD hU (List.mem_of_getElem? hw) ⟨hn, fun b o e => hk b o (fun q => ?_) (F.keep b o e), Nat.le_trans F.above (Nat.le_trans (Nat.le_of_lt F.ns.lt) hC)⟩ hmv) (fun y s₃ hy => ?_) fun _ _ e => e
      · rw [q] at e; rw [hP.2.2] at e; cases e
      · obtain ⟨⟨u', hy⟩, hk⟩ := hy
        exact ⟨⟨x', u, u', hw, hy⟩, hk⟩
  · intro a ps' s₅ hps' ht hk G' hos X'
    rw [hsz] at X'
    have hLP : L ≠ P := fun e => hP.2.1 e.symm
    have F' : Fr h₀ L s₅.heap m := ⟨by obtain ⟨o, es, ep, ho, r⟩ := F.ns; exact ⟨o, es, ep, hk _ _ hLP ho, r⟩, fun b o e => hk b o (fun q => by rw [q, hP.2.2] at e; cases e) (F.keep b o e), F.above⟩
    refine hQ a (s.heap.objs.size - 1) ps' s₅ hps' F' (fun q hq => ?_) G' hos X' (Nat.le_sub_one_of_lt F.ns.lt) fun q hq => ?_
    · rcases List.mem_cons.mp hq with rfl | hq
      · exact ⟨ht, hP.2⟩
      · exact ⟨hk _ _ (hsep q hq) (N q (.tail _ hq)).1, (N q (.tail _ hq)).2⟩
    · rcases List.mem_cons.mp hq with rfl | hq
      · exact Nat.le_sub_one_of_lt (Heap.lt_size hP.1)
      · exact Nat.le_sub_one_of_lt (Heap.lt_size (N q (.tail _ hq)).1)
theorem join_quotes {sep : Str} {t : Tok} {a K0 : Addr} {ws : List (Str × Tok)} {f : Str → Str} {Q : Value → Shared → Prop} (F : Fr h₀ L s.heap m) (N : News h₀ L s.heap news) (G : AllBare s.gens)
    (X : Gen prog w A K0 a ws.length (QuoteAt ws f) s) (hLK : L ≤ K0) (hn : ∀ q ∈ news, q.1 ≤ K0) (hok : JoinOk sep (ws.map fun p => f p.1) = true) (hw : ws.length ≤ 1000)
    (hQ : ∀ s' t', Fr h₀ L s'.heap m → News h₀ L s'.heap news → AllBare s'.gens → s'.os = s.os → Q (.str (Txt.join sep (ws.map fun p => f p.1)) t') s') :
    wpAny (model prog w) A (call (.builtin "str.join") [.str sep t, .ref a]) Q E s := by
  have e : (List.range ws.length).map (fun j => f (wordAt ws j)) = ws.map fun p => f p.1 := by
    apply List.ext_getElem?
    intro j
    by_cases hj : j < ws.length
    · simp [hj, wordAt, List.getD_eq_getElem?_getD]
    · rw [List.getElem?_eq_none (by simpa using hj), List.getElem?_eq_none (by simpa using hj)]
  refine join_rowsK F G X hLK (fun j => f (wordAt ws j)) (fun j v hv => ?_) (by rw [e]; exact hok) (fun s' t' F' G' hos hk => ?_) (by unfold sizeLine; omega)
  · obtain ⟨x, u, u', hx, rfl⟩ := hv
    exact ⟨u', by rw [wordAt_of hx]⟩
  · rw [e]
    exact hQ s' t' F' (fun q hq => ⟨hk _ _ (hn q hq) (N q hq).1, (N q hq).2⟩) G' hos
end
noncomputable def quoteF (x : Str) : Str := spelledF x (bareF x)
noncomputable def joinF (ws : List (Str × Tok)) : Str := Txt.join (Str.ofString " ") (ws.map fun p => quoteF p.1)
noncomputable abbrev joinPos : Pos := { line := 747, col := 20, endLine := 747, endCol := 57 }
theorem esc_len : ∀ l : List Nat, (escL l).length ≤ 5 * l.length
  | [] => by simp [escL]
  | k :: r => by
    have ih := esc_len r
    have e : escL (k :: r) = (if k = 39 then [39, 34, 39, 34, 39] else [k]) ++ escL r := rfl
    rw [e, List.length_append, List.length_cons]
    have : (if k = 39 then [39, 34, 39, 34, 39] else [k]).length ≤ 5 := by split <;> simp
    omega
theorem len_toList (x : Str) : x.length = x.cps.toList.length := by simp [Str.length]
theorem quote_len (x : Str) : (quoteF x).length ≤ 5 * x.length + 2 := by
  unfold quoteF spelledF
  split
  · omega
  · have h1 := esc_len x.cps.toList
    rw [← spellJ_esc, ← len_toList, ← len_toList] at h1
    rw [Str.length_append, Str.length_append]
    have : (Str.ofString "'").length = 1 := by decide +kernel
    omega
theorem join_ok {ws : List (Str × Tok)} (h0 : ws.length ≤ 6) (h1 : ∀ p ∈ ws, p.1.length ≤ 10) : JoinOk (Str.ofString " ") (ws.map fun p => quoteF p.1) = true := by
  apply joinOk_of
  have : (Str.ofString " ").length = 1 := by decide +kernel
  rw [this, List.length_map]
  have hs : ∀ l : List (Str × Tok), (∀ p ∈ l, p.1.length ≤ 10) → ((l.map fun p => quoteF p.1).map (·.length)).sum ≤ 52 * l.length := by
    intro l
    induction l with
    | nil => intro _; simp
    | cons a r ih =>
      intro h
      have ih := ih fun p hp => h p (.tail _ hp)
      have ha := h a (.head _)
      have hq := quote_len a.1
      simp only [List.map_cons, List.sum_cons, List.length_cons] at ih ⊢
      omega
  have := hs ws h1
  omega

section
local macro_rules | `(tactic| walk_at "eval Name") => `(tactic| (k_here; (with_reducible show wpAny _ _ (eval (Expr.Name _ _) (genEnv _ _ _ _ _ _)) _ _ _); (with_reducible rename Fr _ _ _ _ => kF); k_dflt (first | (refine' nameG_K kF ?k1 ?k2 ?k3 ?_ ?k4 ?k5 ?k6 ?k7; (case k4 => rfl); (case k5 => rfl); (case k6 => rfl); (case k7 => decide); (case k1 => k_asm); (case k2 => exact topRead_of (by assumption)); (case k3 => k_is); k_whole) | (refine ldVarG kF (by assumption) ?_))))
local macro_rules | `(tactic| walk_at "call ref") => `(tactic| (k_here; (with_reducible show wpAny _ _ (call (Value.ref 766) [Value.str _ _]) _ _ _); k_dflt (refine' quoteG_spec _ _ _ _ _ _ _ _ none (Str.ofString "") { kind := .function, names := [], isGenerator := false, isCoroutine := false } 0 .none [] [] callerA _ _ _ _ _ _ _ _ _ ?B ?F ?X ?N ?T ?hk ?hd ?hu ?h0 ?h1 ?_; (case B => exact below_caller _); (case F => k_asm); (case X => k_asm); (case N => exact News.nil); (case T => k_asm); (case hk => rfl); (case hd => ktr_room); (case hu => ktr_units); (case h0 => first | omega | assumption); (case h1 => assumption)); intro v' h' tk' hv' hk'; (try dsimp only); (try k_fold)))

set_option maxHeartbeats 4000000 in
theorem join_spec : ∀ (w : World) (p : Program) (loose : List Str) (mean : ExcName → Option Value) (mg mb : Str → Option Value) (dp un : Nat) (gd : Option (List Code)) (cn : Str) (cs : Scope) (a : Addr) (ccd : Value) (cl : List (Str × Addr)) (outer : List Env) (A₀ : Around) (base h₀ : Heap) (L : Addr) (m : Str → Option Value) (news : List (Addr × Obj)) (s : Shared) (Q E : Value → Shared → Prop) (l : Addr) (ws : List (Str × Tok)) (n : Nat) (ps : Array Value),
  Below A₀ base outer h₀ → Fr h₀ L s.heap m → (Mine.H.K w.params).In h₀ → News h₀ L s.heap ((753, tabO ps) :: news) → Top p loose mean mg mb h₀ → cs.kind = .function → dp + 60 < recursionLimit → un + 600 < cLine → ws.length ≤ 6 → (∀ p ∈ ws, p.1.length ≤ 10) → (∀ p ∈ ws, PyData.strOk p.1 = true) → (l, listO ws n) ∈ news → (∀ p ∈ news, p.1 ≠ 753) → AllBare s.gens → TabAt joinPos ps →
  (∀ t s' ps', TabAt joinPos ps' → Fr h₀ L s'.heap m → News h₀ L s'.heap ((753, tabO ps') :: news) → AllBare s'.gens → s'.os = s.os → Q (.str (joinF ws) t) s') →
  wpAny (model PySem.Challenge.rw_mq0393_01.prog w) (ktrTop dp un gd cn cs L a ccd cl outer) (call (.ref 758) [.ref l]) Q E s := by
  k_fill
  intro w p loose mean mg mb dp un gd cn cs a ccd cl outer A₀ base h₀ L m news s Q E l ws n ps B F X N T hk hd hu h0 h1 h2 h3 h4 h5 h6 ret
  refine wpAny_call ?_
  k_dflt (walk_at "mine plain")
  walk_at "mine steps"
  refine' gen_quotes (c := 757) (P := 753) (ps := ps) (ws := ws) (n := n) (l := l) quoteF ?hh ?hco ?hclos ?hcell ?h0 ?hx ?hkind ?hroom ?hiter ?F ?N h3 h4 ?X ?T h5 h6 ?hcode ?hglob ?hoc ?hcls ?hd ?h11 ?h18 ?h7 ?h9 ?h10 ?helt ?hQ ?hs
  case hh => rfl
  case hco => rfl
  case hclos => rfl
  case hcell => decide
  case h0 => rfl
  case hx => rfl
  case hkind => rfl
  case hroom => ktr_room
  case hiter =>
    intro Q' hq
    refine ld (by assumption) rfl ?_
    exact hq
  case F => assumption
  case N => assumption
  case X => assumption
  case T => assumption
  case hcode => rfl
  case hglob => rfl
  case hoc => k_is
  case hcls => rfl
  case hd => rfl
  case h11 => rfl
  case h18 => rfl
  case h7 => rfl
  case h9 => rfl
  case h10 => rfl
  case hs => intro _; rfl
  case helt =>
    intro c' C A' E' x' u t m₂ hA hD hU hm9 F9 hv9
    have hxl : x'.length ≤ 10 := h1 (x', u) hm9
    have hxo : PyData.strOk x' = true := h2 (x', u) hm9
    refine wpAny_bare hA hD hU ?_
    walk_at "mine steps"
    rename ∃ t', _ = Value.str _ t' => hv9
    obtain ⟨t', rfl⟩ := hv9
    exact ⟨⟨_, rfl⟩, _, _, rfl, by assumption⟩
  case hQ =>
    intro a9 K0 ps9 s9 hps9 F9 N9 G9 hos9 X9 hLK hnK
    walk_at "mine steps"
    refine join_quotes F9 N9 G9 X9 hLK hnK (join_ok h0 h1) (by omega) ?_
    intro s8 t8 F8 N8 G8 hos8
    walk_at "mine steps"
    exact ret _ _ _ hps9 (by assumption) (by assumption) G8 (hos8.trans hos9)
end

-- StringIO and shlex objects
noncomputable abbrev ent (P : Params) (nm : String) (k : Tok) (v : Value) : DictEntry := { hash := PyData.keyHash P (Str.ofString nm), key := .str (Str.ofString nm) k, val := v }
noncomputable abbrev ioO (P : Params) (x : Str) (t : Tok) (i : Int) (tp k1 k2 k3 : Tok) : Obj := dictOf [ent P "_StringIO__newline" k1 (.str (Str.ofString "\n") 768), ent P "_StringIO__buf" k2 (.str x t), ent P "_StringIO__pos" k3 (.int i tp)] 3
noncomputable def nextS (x : Str) (i : Nat) : Str := ⟨((x.cps.toList.drop i).take 1).toArray⟩
noncomputable def nextI (x : Str) (i : Nat) : Nat := if i < x.length then i + 1 else i
theorem nextS_slice {x : Str} {i : Nat} {j : Int} (h : i < x.length) (hj : j = (i : Int) + 1) : Txt.slice x (some (i : Int)) (some j) = nextS x i := by
  subst hj
  have := slice_closesL (x := x) (i := (i : Int)) (j := (i : Int) + 1) (by omega) (by omega) (by omega)
  rw [eq_of_beq this]
  have e : (i : Int) + 1 - (i : Int) = 1 := by omega
  rw [e]
  rfl
theorem nextS_end {x : Str} {i : Nat} (h : ¬ i < x.length) : Str.ofString "" = nextS x i := by
  unfold nextS
  have : x.cps.toList.drop i = [] := List.drop_eq_nil_of_le (by simp [Str.length] at h; simpa using h)
  rw [this]
  decide +kernel
theorem nextI_go {x : Str} {i : Nat} {j : Int} (h : i < x.length) (hj : j = (i : Int) + 1) : j = ((nextI x i : Nat) : Int) := by
  unfold nextI; rw [if_pos h]; omega
theorem nextI_end {x : Str} {i : Nat} (h : ¬ i < x.length) : (i : Int) = ((nextI x i : Nat) : Int) := by unfold nextI; rw [if_neg h]
theorem news_io {P : Params} {h₀ h : Heap} {L X dX : Addr} {o : Obj} {x : Str} {t tp k1 k2 k3 : Tok} {i : Nat} {j : Int} {news : List (Addr × Obj)} (hj : j = ((nextI x i : Nat) : Int)) (N : News h₀ L h ((X, o) :: (dX, ioO P x t j tp k1 k2 k3) :: news)) :
    News h₀ L h ((X, o) :: (dX, ioO P x t ((nextI x i : Nat) : Int) tp k1 k2 k3) :: news) := by subst hj; exact N
set_option maxHeartbeats 4000000 in
open PySem.Calls in
theorem make_own {prog : Program} {w : World} {A : Around} {C : Addr} {R : Result → Shared → Prop} {s : Shared} {rest : List Value} {kw : List (Str × Value)} {oc : Value} {od : Option Addr} {cd : ClassData} {sl : Array (Option Value)}
    (hC : s.heap.get? C = some ⟨oc, od, .cls cd, sl⟩) (e4 : cd.mro.isEmpty = false) (call : Looks (model prog w) s.heap (specialOf (.ref C) "__call__") (some (.builtin "type.__call__"))) (typ : Looks (model prog w) s.heap (isInstance (.ref C) (.type "type")) true)
    (made : Looks (model prog w) s.heap (Bind.madeBy (.ref C)) none)
    (h : wpAny (model prog w) (A.under (.builtin "type.__call__" ⟨.ref C :: rest, kw⟩)) (getAttr (.ref C) "__new__") (fun new s₁ => wpAny (model prog w) (A.under (.builtin "type.__call__" ⟨.ref C :: rest, kw⟩)) (PySem.call new (.ref C :: rest) kw)
      (fun obj s₂ => Looks (model prog w) s₂.heap (isInstance obj (.ref C)) true ∧ wpAny (model prog w) (A.under (.builtin "type.__call__" ⟨.ref C :: rest, kw⟩)) (callSpecial? obj "__init__" rest kw) (fun r s₃ => r = some .none ∧ R (.ok (.ret obj)) s₃) (fun e s' => R (.error e) s') s₂) (fun e s' => R (.error e) s') s₁) (fun e s' => R (.error e) s') s) :
    codeAny (model prog w) A (.call (.ref C) ⟨rest, kw⟩) R s := by
  refine codeAny_of_tree ?_
  show wpAny _ _ (callAny (.ref C) _) _ _ _
  refine nd_load hC ?_
  show wpAny _ _ (callAny.viaDunder (.ref C) _) _ _ _
  unfold callAny.viaDunder
  refine wpAny_bind (call.here ?_)
  dsimp only
  rw [tc_bind]
  refine wpAny_bind (wpAny_pure (wpAny_bind (wpAny_pure ?_)))
  refine wpAny_pure (a := Fin.again (.call (.builtin "type.__call__") ⟨.ref C :: rest, kw⟩)) (And.intro rfl ?_)
  refine codeAny_call_builtin_at (Code.quiet_builtin _ (by decide +kernel)) entry_typeCall (check_slot tc_kind tc_split typ (tc_args _ _ _) ?_)
  unfold Builtin.«type.__call__»
  have hm : Looks (model prog w) s.heap (mroOf (.ref C)) cd.mro := ((Looks.ld (part := none) hC).andThen .now).andThen .now
  lk
  lk
  lk
  lk
  simp only [e4, Bool.false_eq_true, if_false]
  lk
  lk
  lk
  refine wpAny_mono h (fun new s₁ h₁ => ?_) fun _ _ e => e
  lk
  lk
  refine wpAny_mono h₁ (fun obj s₂ h₂ => ?_) fun _ _ e => e
  obtain ⟨hi, h₂⟩ := h₂
  lk
  refine hi.here ?_
  simp only [Bool.not_true, Bool.false_eq_true, if_false]
  lk
  lk
  refine wpAny_mono h₂ (fun r s₃ h₃ => ?_) fun _ _ e => e
  obtain ⟨rfl, h₃⟩ := h₃
  exact wpAny_pure h₃
set_option maxHeartbeats 4000000 in
open PySem.Calls in
theorem call_init {prog : Program} {w : World} {A : Around} {K : Frag} {C x dx fI : Addr} {s : Shared} {rest : List Value} {kw : List (Str × Value)} {Q : Option Value → Shared → Prop} {E : Value → Shared → Prop}
    (X : K.In s.heap) (hx : s.heap.get? x = some (instObj C dx)) (hi : findIn K (.ref C) "__init__" = some (some (.ref fI))) (hf : typeIn K (.ref fI) = some (.type "function"))
    (h : wpAny (model prog w) A (call (.ref fI) (.ref x :: rest) kw) (fun v s' => Q (some v) s') E s) : wpAny (model prog w) A (callSpecial? (.ref x) "__init__" rest kw) Q E s := by
  have t1 : Looks (model prog w) s.heap (typeOf (.ref x)) (.ref C) := (Looks.ld hx).andThen .now
  have i1 : Looks (model prog w) s.heap (typeLookup (.ref C) "__init__") (some (.ref fI)) := looks_findIn X hi
  have b1 : Looks (model prog w) s.heap (bindSpecial (.ref fI) (.ref x)) (.ref fI, [.ref x]) := bind_fn X _ hf
  unfold callSpecial? specialOf
  lk
  lk
  lk
  lk
  lk
  lk
  lk
  lk
  exact wpAny_mono h (fun v s' q => wpAny_pure q) fun _ _ e => e
set_option maxHeartbeats 4000000 in
open PySem.Calls in
theorem obj_new {prog : Program} {w : World} {A : Around} {K : Frag} {C L : Addr} {h₀ : Heap} {m : Str → Option Value} {news : List (Addr × Obj)} {s : Shared} {Q : Value → Shared → Prop} {E : Value → Shared → Prop} {oc : Value} {od : Option Addr} {cd : ClassData} {sl : Array (Option Value)}
    (F : Fr h₀ L s.heap m) (X : K.In h₀) (N : News h₀ L s.heap news) (hC : K.lookup C = some ⟨oc, od, .cls cd, sl⟩) (e1 : cd.abstract = false) (e2 : cd.hasDel = false)
    (hm : peek K ⟨prog, w.params⟩ (Bind.madeHere "object.__new__" (.ref C)) = some ()) (ht : peek K ⟨prog, w.params⟩ (isType (.ref C)) = some true) (hchk : peek K ⟨prog, w.params⟩ (checkBuiltinCall "object.__new__" ⟨[.ref C], []⟩) = some ())
    (h : ∀ x dx h', Fr h₀ L h' m → News h₀ L h' ((x, instObj C dx) :: (dx, dictOf [] 0) :: news) → (∀ p ∈ news, p.1 < dx) → dx < x → Q (.ref x) { s with heap := h' }) :
    wpAny (model prog w) A (call (.builtin "object.__new__") [.ref C]) Q E s := by
  have here : Looks (model prog w) s.heap (Bind.madeHere "object.__new__" (.ref C)) () := Looks.of_peek (X.keeps F.keep) hm
  have ist : Looks (model prog w) s.heap (isType (.ref C)) true := Looks.of_peek (X.keeps F.keep) ht
  have hC' := (X.keeps F.keep) _ _ hC
  have FF := PySem.F.objNew
  refine wpAny_call ?_
  refine codeAny_call_builtin_code (Code.quiet_builtin _ FF.quiet) ?_
  refine (Looks.of_peek (X.keeps F.keep) hchk).here ?_
  refine codeAny_builtin FF.entry ?_
  unfold Builtin.«object.__new__»
  lk
  lk
  lk
  simp only [Bool.not_true, Bool.false_eq_true, if_false]
  lk
  lk
  simp only [List.isEmpty_nil, Bool.not_true, Bool.or_self, Bool.false_eq_true, if_false]
  lk
  lk
  repeat (first | simp only [e1, Bool.false_eq_true, if_false] | lk)
  refine nd_load (Heap.get?_push_of_some _ (Heap.get?_push_of_some _ hC')) ?_
  repeat (first | simp only [e2, Bool.false_eq_true, if_false] | lk)
  have N' := (N.push F emptyDict).push (F.push _) (instObj C s.heap.objs.size)
  have hsz : (s.heap.push { cls := .type "dict", data := .dict #[] }).objs.size = s.heap.objs.size + 1 := Heap.size_push ..
  exact h _ s.heap.objs.size _ ((F.push _).push _) N' (fun p hp => Heap.lt_size (N p hp).1) (by rw [hsz]; exact Nat.lt_succ_self _)
theorem lt_tail2 {a b : Addr × Obj} {news : List (Addr × Obj)} {d : Addr} (h : ∀ p ∈ a :: b :: news, p.1 < d) : ∀ p ∈ news, p.1 < d := fun p hp => h p (.tail _ (.tail _ hp))
theorem news_skip2 {h₀ h : Heap} {L : Addr} {a b c d : Addr × Obj} {t : List (Addr × Obj)} (N : News h₀ L h (a :: b :: c :: d :: t)) : News h₀ L h (a :: b :: t) :=
  fun p hp => N p (by simp only [List.mem_cons] at hp ⊢; rcases hp with h | h | h <;> simp [h])

section
local macro_rules | `(tactic| walk_at "call ref") => `(tactic| (k_here; k_dflt (refine wpAny_call ?_; walk_at "mine plain")))



set_option maxHeartbeats 4000000 in
theorem ioinit_spec : ∀ (w : World) (p : Program) (loose : List Str) (mean : ExcName → Option Value) (mg mb : Str → Option Value) (dp un : Nat) (gd : Option (List Code)) (cn : Str) (cs : Scope) (a : Addr) (ccd : Value) (cl : List (Str × Addr)) (outer : List Env) (A₀ : Around) (base h₀ : Heap) (L : Addr) (m : Str → Option Value) (news : List (Addr × Obj)) (s : Shared) (Q E : Value → Shared → Prop) (X dX : Addr) (x : Str) (t : Tok),
  Below A₀ base outer h₀ → Fr h₀ L s.heap m → (Mine.H.K w.params).In h₀ → News h₀ L s.heap ((X, instObj 604 dX) :: (dX, dictOf [] 0) :: news) → Top p loose mean mg mb h₀ → cs.kind = .function → dp + 100 < recursionLimit → un + 1000 < cLine → x.length ≤ 1000 → X ≠ dX → (∀ p ∈ news, p.1 ≠ dX) →
  (∀ tp k1 k2 k3 h' tk', Fr h₀ L h' m → News h₀ L h' ((X, instObj 604 dX) :: (dX, ioO w.params x t 0 tp k1 k2 k3) :: news) → Q .none {s with heap := h', toks := tk'}) →
  wpAny (model PySem.Challenge.rw_mq0393_01.prog w) (ktrTop dp un gd cn cs L a ccd cl outer) (call (.ref 374) [.ref X, .str x t]) Q E s := by
  k_fill
  intro w p loose mean mg mb dp un gd cn cs a ccd cl outer A₀ base h₀ L m news s Q E X dX x t B F X N T hk hd hu h0 h1 h2 ret
  refine wpAny_call ?_
  k_dflt (walk_at "mine plain")
  walk_at "mine steps"
  exact ret _ _ _ _ _ _ (by assumption) (by assumption)


set_option maxHeartbeats 4000000 in
theorem ioread_spec : ∀ (w : World) (p : Program) (loose : List Str) (mean : ExcName → Option Value) (mg mb : Str → Option Value) (dp un : Nat) (gd : Option (List Code)) (cn : Str) (cs : Scope) (a : Addr) (ccd : Value) (cl : List (Str × Addr)) (outer : List Env) (A₀ : Around) (base h₀ : Heap) (L : Addr) (m : Str → Option Value) (news : List (Addr × Obj)) (s : Shared) (Q E : Value → Shared → Prop) (X dX : Addr) (x : Str) (t : Tok) (i : Nat) (tp k1 k2 k3 u : Tok),
  Below A₀ base outer h₀ → Fr h₀ L s.heap m → (Mine.H.K w.params).In h₀ → News h₀ L s.heap ((X, instObj 604 dX) :: (dX, ioO w.params x t (i : Int) tp k1 k2 k3) :: news) → Top p loose mean mg mb h₀ → cs.kind = .function → dp + 100 < recursionLimit → un + 1000 < cLine → x.length ≤ 1000 → i ≤ x.length → X ≠ dX → (∀ p ∈ news, p.1 ≠ dX) →
  (∀ t' tp' h' tk', Fr h₀ L h' m → News h₀ L h' ((X, instObj 604 dX) :: (dX, ioO w.params x t ((nextI x i : Nat) : Int) tp' k1 k2 k3) :: news) → Q (.str (nextS x i) t') {s with heap := h', toks := tk'}) →
  wpAny (model PySem.Challenge.rw_mq0393_01.prog w) (ktrTop dp un gd cn cs L a ccd cl outer) (call (.ref 550) [.ref X, .int 1 u]) Q E s := by
  k_fill
  intro w p loose mean mg mb dp un gd cn cs a ccd cl outer A₀ base h₀ L m news s Q E X dX x t i tp k1 k2 k3 u B F X N T hk hd hu h0 h1 h2 h3 ret
  refine wpAny_call ?_
  k_dflt (walk_at "mine plain")
  walk_at "mine steps"
  · rw [nextS_end (i := i) (x := x) (by omega)]
    refine ret _ _ _ _ (by assumption) (news_io ?_ (by assumption)); exact nextI_end (by omega)
  · rw [nextS_slice (by omega) (by omega)]
    refine ret _ _ _ _ (by assumption) (news_io ?_ (by assumption)); exact nextI_go (by omega) (by omega)
  · rw [nextS_slice (by omega) (by omega)]
    refine ret _ _ _ _ (by assumption) (news_io ?_ (by assumption)); exact nextI_go (by omega) (by omega)
end

section
local macro_rules | `(tactic| walk_at "call ref") => `(tactic| (k_here; k_dflt (refine wpAny_call ?_; walk_at "mine plain")))

local macro_rules | `(tactic| walk_at "mine both") => `(tactic| (refine' kp_both ?k1 ?k2 ?k3 ?k4 ?k5 ?kA ?kF ?kK ?k6 ?k7 ?k8 ?kV ?kX ?kQ ?kM ?kN ?kD ?kR ?kP ?kS ?kT ?kB ?_ ?c2 ?c3 ?c4 ?c5; (case kA | kF => exact rfl); (case kK => first | assumption | exact rfl); (case k1 | k2 | k3 | k4 | k5 => k_asm); (case k6 | k7 => k_is); (case k8 => ktr_room); (case kV | kX => kp_lit); (case kQ | kM | kN => exact rfl); (case kD => kp_flats); (case kR | kP => exact rfl); (case kS => exact fun _ => rfl); (case kT => exact fun _ _ => rfl); (case kB => exact fun _ _ => locs rfl); (case c5 => decide); (case c2 | c3 | c4 => exact rfl); k_whole; intro C' D' o' g' L' h' tk' l1 l2 lo' hs' fs' FG' F' N' B' X' T'; (try dsimp only); (try k_lift B'); (try k_fold)))



theorem pk_here (w : World) : peek (Mine.H.K w.params) ⟨PySem.Challenge.rw_mq0393_01.prog, w.params⟩ (Bind.madeHere "object.__new__" (.ref 604)) = some () := by kernel_rfl
theorem pk_type (w : World) : peek (Mine.H.K w.params) ⟨PySem.Challenge.rw_mq0393_01.prog, w.params⟩ (isType (.ref 604)) = some true := by kernel_rfl
theorem pk_chk (w : World) : peek (Mine.H.K w.params) ⟨PySem.Challenge.rw_mq0393_01.prog, w.params⟩ (checkBuiltinCall "object.__new__" ⟨[.ref 604], []⟩) = some () := by kernel_rfl
theorem pk_made (w : World) : peek (Mine.H.K w.params) ⟨PySem.Challenge.rw_mq0393_01.prog, w.params⟩ (Bind.madeBy (.ref 604)) = some none := by kernel_rfl
local macro_rules | `(tactic| walk_at "call builtin:object.__new__") => `(tactic| (k_here; k_dflt (refine' obj_new ?F ?X ?N ?hC ?e1 ?e2 (pk_here _) (pk_type _) (pk_chk _) ?_; (case F => k_asm); (case X => k_asm); (case N => k_asm); (case hC => k_is); (case e1 => exact rfl); (case e2 => exact rfl); k_whole); intro x' d' h' F' N' l1 l2))

set_option maxHeartbeats 4000000 in
theorem ionew_spec : ∀ (w : World) (p : Program) (loose : List Str) (mean : ExcName → Option Value) (mg mb : Str → Option Value) (dp un : Nat) (gd : Option (List Code)) (cn : Str) (cs : Scope) (a : Addr) (ccd : Value) (cl : List (Str × Addr)) (outer : List Env) (A₀ : Around) (base h₀ : Heap) (L : Addr) (m : Str → Option Value) (news : List (Addr × Obj)) (s : Shared) (Q E : Value → Shared → Prop) (x : Str) (t : Tok),
  Below A₀ base outer h₀ → Fr h₀ L s.heap m → (Mine.H.K w.params).In h₀ → News h₀ L s.heap (news) → Top p loose mean mg mb h₀ → cs.kind = .function → dp + 100 < recursionLimit → un + 1000 < cLine →
  (∀ X dX h' tk', dX < X → (∀ p ∈ news, p.1 < dX) → Fr h₀ L h' m → News h₀ L h' ((X, instObj 604 dX) :: (dX, dictOf [] 0) :: news) → Q (.ref X) {s with heap := h', toks := tk'}) →
  wpAny (model PySem.Challenge.rw_mq0393_01.prog w) (ktrTop dp un gd cn cs L a ccd cl outer) (call (.ref 97) [.ref 604, .str x t]) Q E s := by
  k_fill
  intro w p loose mean mg mb dp un gd cn cs a ccd cl outer A₀ base h₀ L m news s Q E x t B F X N T hk hd hu  ret
  refine wpAny_call ?_
  k_dflt (walk_at "mine both")
  walk_at "mine steps"
  exact ret _ _ _ _ (by assumption) (lt_tail2 (by assumption)) (by assumption) (news_skip2 (by assumption))
end

set_option maxHeartbeats 4000000 in
theorem io_spec : ∀ (w : World) (p : Program) (loose : List Str) (mean : ExcName → Option Value) (mg mb : Str → Option Value) (dp un : Nat) (gd : Option (List Code)) (cn : Str) (cs : Scope) (a : Addr) (ccd : Value) (cl : List (Str × Addr)) (outer : List Env) (A₀ : Around) (base h₀ : Heap) (L : Addr) (m : Str → Option Value) (news : List (Addr × Obj)) (s : Shared) (Q E : Value → Shared → Prop) (x : Str) (t : Tok),
  Below A₀ base outer h₀ → Fr h₀ L s.heap m → (Mine.H.K w.params).In h₀ → News h₀ L s.heap news → Top p loose mean mg mb h₀ → cs.kind = .function → dp + 110 < recursionLimit → un + 1010 < cLine → x.length ≤ 1000 →
  (∀ X dX tp k1 k2 k3 h' tk', dX < X → (∀ p ∈ news, p.1 < dX) → Fr h₀ L h' m → News h₀ L h' ((X, instObj 604 dX) :: (dX, ioO w.params x t 0 tp k1 k2 k3) :: news) → Q (.ref X) {s with heap := h', toks := tk'}) →
  wpAny (model PySem.Challenge.rw_mq0393_01.prog w) (ktrTop dp un gd cn cs L a ccd cl outer) (call (.ref 604) [.str x t]) Q E s := by
  k_fill
  intro w p loose mean mg mb dp un gd cn cs a ccd cl outer A₀ base h₀ L m news s Q E x t B F X N T hk hd hu h0 ret
  refine wpAny_call ?_
  refine' make_own (C := 604) (((X.keeps F.keep) _ _ ?hC)) ?e4 (looks_specialIn (X.keeps F.keep) ?c1) (looks_instIn (X.keeps F.keep) ?c2) (Looks.of_peek (X.keeps F.keep) (pk_made w)) ?_
  case hC => k_is
  case e4 => rfl
  case c1 => k_is
  case c2 => k_is
  show wpAny _ (ktrTop (dp + 1) (un + 1) gd cn cs L a ccd cl outer) _ _ _ _
  refine' cls_sm F X ?k3 ?k4 ?k5 ?k6 ?k7 ?_
  case k3 => k_is
  case k4 => k_is
  case k5 => k_is
  case k6 => k_is
  case k7 => k_handed
  refine ionew_spec w p loose mean mg mb (dp + 1) (un + 1) gd cn cs a ccd cl outer A₀ base h₀ L m news _ _ _ x t B F X N T hk (by omega) (by omega) ?_
  intro X9 dX h9 tk9 hlt hall F9 N9
  have t1 : Looks (model PySem.Challenge.rw_mq0393_01.prog w) h9 (typeOf (.ref X9)) (.ref 604) := (Looks.ld (N9 _ (.head _)).1).andThen .now
  refine ⟨t1.andThen (looks_subIn (X.keeps F9.keep) ?_), ?_⟩
  · k_is
  · refine call_init (fI := 374) (X.keeps F9.keep) (N9 _ (.head _)).1 ?i1 ?i2 ?_
    case i1 => k_is
    case i2 => k_is
    refine ioinit_spec w p loose mean mg mb (dp + 1) (un + 1) gd cn cs a ccd cl outer A₀ base h₀ L m news _ _ _ X9 dX x t B F9 X N9 T hk (by omega) (by omega) h0 (Nat.ne_of_gt hlt) (fun p hp => Nat.ne_of_lt (hall p hp)) ?_
    intro tp k1 k2 k3 h8 tk8 F8 N8
    exact ⟨rfl, ret _ _ _ _ _ _ _ _ hlt hall F8 N8⟩

-- deque()
noncomputable abbrev dqO : Obj := { cls := .type "collections.deque", data := .fields #[.none, .int 0 0] }
theorem mro_deque : mroOf (.type "collections.deque") = pure [.type "collections.deque", .type "object"] := by rw [mroOf_type]; kernel_rfl
theorem lookup_deque_new : typeLookup (.type "collections.deque") "__new__" = pure (some (.builtin "collections.deque.__new__")) := by rw [typeLookup_type, builtinLookup_eq_fast]; kernel_rfl
theorem slot_deque_init : Slot "collections.deque" "__init__" "collections.deque.__init__" :=
  Slot.of (owner := "collections.deque") (n := "__init__") (by rw [typeLookup_type, builtinLookup_eq_fast]; kernel_rfl) (by decide +kernel) (by decide +kernel) (by decide +kernel) (.inl (by decide +kernel)) (by rw [isSubtype_type]; kernel_rfl)
theorem sub_deque : isSubtype (.type "collections.deque") (.type "collections.deque") = pure true := by rw [isSubtype_type]; kernel_rfl
theorem called_deque : TypeCalled "collections.deque" "collections.deque.__new__" "collections.deque.__init__" :=
  ⟨by decide +kernel, by decide +kernel, ⟨_, _, mro_deque⟩, madeBy_type mro_deque lookup_deque_new (by decide +kernel), by decide +kernel, sub_deque, slot_deque_init⟩
theorem typeCall_deque : checkTypeCall "collections.deque" ⟨[], []⟩ = pure () := by kernel_rfl
theorem newCall_deque : checkBuiltinCall "collections.deque.__new__" ⟨[.type "collections.deque"], []⟩ = pure () := by kernel_rfl
theorem entry_deque_new : entryFor table "collections.deque.__new__" = some Builtin.«collections.deque.__new__» := entryFor_of_tree (by kernel_rfl)
theorem entry_deque_init : entryFor table "collections.deque.__init__" = some Builtin.«collections.deque.__init__» := entryFor_of_tree (by kernel_rfl)
theorem plain_deque_new : plainId "collections.deque.__new__" = true := by decide +kernel
theorem isType_deque : isType (.type "collections.deque") = pure true := by kernel_rfl
theorem args_deque_init (a : Value) : argsOk "collections.deque.__init__" ⟨[a], []⟩ := by unfold argsOk; kernel_rfl
theorem update_id {h : Heap} {a : Addr} {o : Obj} {f : Obj → Obj} (e : h.get? a = some o) (hf : f o = o) : h.update a f = h := by
  have e1 := (Heap.get?_some_iff.mp e).1
  obtain ⟨objs, life⟩ := h
  simp only [Heap.update, Heap.mk.injEq, and_true]
  apply Array.ext_getElem?
  intro i
  simp only [Array.getElem?_modify]
  by_cases h1 : a = i
  · subst h1
    simp only at e1
    simp [e1, hf]
  · simp [h1]
section
variable {prog : Program} {w : World} {A : Around} {E : Value → Shared → Prop} {s : Shared} {h₀ : Heap} {L : Addr} {m : Str → Option Value} {news : List (Addr × Obj)}
set_option maxHeartbeats 1000000 in
theorem deque_new {Q : Value → Shared → Prop} (F : Fr h₀ L s.heap m) (N : News h₀ L s.heap news)
    (h : ∀ D h', Fr h₀ L h' m → News h₀ L h' ((D, dqO) :: news) → (∀ p ∈ news, p.1 < D) → Q (.ref D) { s with heap := h' }) :
    wpAny (model prog w) A (call (.type "collections.deque") []) Q E s := by
  have hq := h s.heap.objs.size (s.heap.push dqO) (F.push _) (N.push F dqO) (fun p hp => Heap.lt_size (N p hp).1)
  refine callType_codes (Q₁ := fun v s₁ => v = .ref s.heap.objs.size ∧ s₁ = { s with heap := s.heap.push dqO }) called_deque typeCall_deque entry_deque_init ?_ ?_
  · refine codeAny_call_builtin plain_deque_new entry_deque_new (wpAny_of_eq newCall_deque ?_)
    obtain ⟨hp, g, d, tk, os⟩ := s
    unfold Builtin.«collections.deque.__new__» Deque.newArgs Deque.new
    refine wpAny_bind (wpAny_bind (wpAny_of_eq isType_deque ?_))
    show wpAny _ _ (isSubtype (.type "collections.deque") (.type "collections.deque") >>= _) _ _ _
    refine wpAny_bind (wpAny_of_eq sub_deque ?_)
    show wpAny _ _ (pure _) _ _ _
    refine wpAny_pure ?_
    show wpAny _ _ (newObj (Value.type "collections.deque") (Data.fields #[Value.none, rawInt 0]) none >>= fun v => ret v) _ _ _
    refine wpAny_bind (wpAny_newObj_type ?_)
    exact wpAny_pure ⟨rfl, rfl⟩
  · rintro obj s₁ ⟨rfl, rfl⟩
    have hD : (s.heap.push dqO).get? s.heap.objs.size = some dqO := Heap.get?_push_size _ rfl
    refine ⟨⟨_, hD, rfl⟩, args_deque_init _, ?_⟩
    show wpAny _ _ (do
      setField (.ref s.heap.objs.size) 0 .none
      Deque.clear (.ref s.heap.objs.size)
      ret .none) _ _ _
    refine wpAny_bind (wpAny_setField (s := { s with heap := s.heap.push dqO }) hD rfl (by decide) ?_)
    rw [update_id (f := Obj.mapFields (·.setIfInBounds 0 .none)) hD rfl]
    unfold Deque.clear Deque.items
    refine wpAny_bind (wpAny_bind (wpAny_bind (wpAny_fieldsOf (s := { s with heap := s.heap.push dqO }) hD rfl (wpAny_pure ?_))))
    show wpAny _ _ (pure ()) _ _ _
    refine wpAny_pure ?_
    exact wpAny_pure ⟨rfl, hq⟩
end

-- the lexer object
structure LexT where
  (k0 k1 k2 k3 k4 k5 k6 k7 k8 k9 k10 k11 k12 k13 k14 k15 k16 k17 k18 vw vs vq ve vx vd vp : Tok)
noncomputable abbrev lexO (P : Params) (T : LexT) (X q1 q2 : Addr) (comm split st ln tk : Value) : Obj := dictOf [ent P "instream" T.k0 (.ref X), ent P "infile" T.k1 .none, ent P "posix" T.k2 (.bool true), ent P "eof" T.k3 .none, ent P "commenters" T.k4 comm,
  ent P "wordchars" T.k5 (.str (Str.ofString "abcdfeghijklmnopqrstuvwxyzABCDEFGHIJKLMNOPQRSTUVWXYZ0123456789_ßàáâãäåæçèéêëìíîïðñòóôõöøùúûüýþÿÀÁÂÃÄÅÆÇÈÉÊËÌÍÎÏÐÑÒÓÔÕÖØÙÚÛÜÝÞ") T.vw), ent P "whitespace" T.k6 (.str (Str.ofString " \t\r\n") T.vs), ent P "whitespace_split" T.k7 split,
  ent P "quotes" T.k8 (.str (Str.ofString "'\"") T.vq), ent P "escape" T.k9 (.str (Str.ofString "\\") T.ve), ent P "escapedquotes" T.k10 (.str (Str.ofString "\"") T.vx), ent P "state" T.k11 st, ent P "pushback" T.k12 (.ref q1), ent P "lineno" T.k13 ln,
  ent P "debug" T.k14 (.int 0 T.vd), ent P "token" T.k15 tk, ent P "filestack" T.k16 (.ref q2), ent P "source" T.k17 .none, ent P "_punctuation_chars" T.k18 (.str (Str.ofString "") T.vp)] 19
noncomputable abbrev lexN (P : Params) (T : LexT) (S dS X dX q1 q2 : Addr) (comm split st ln tk : Value) (x : Str) (t : Tok) (i : Int) (tp k1 k2 k3 : Tok) (news : List (Addr × Obj)) : List (Addr × Obj) :=
  (S, instObj 739 dS) :: (dS, lexO P T X q1 q2 comm split st ln tk) :: (X, instObj 604 dX) :: (dX, ioO P x t i tp k1 k2 k3) :: (q1, dqO) :: (q2, dqO) :: news
theorem news_lex {h₀ h : Heap} {L : Addr} {a b c d e f : Addr × Obj} {t : List (Addr × Obj)} (N : News h₀ L h (f :: e :: c :: d :: a :: b :: t)) : News h₀ L h (a :: b :: c :: d :: e :: f :: t) :=
  fun p hp => N p (by simp only [List.mem_cons] at hp ⊢; rcases hp with h | h | h | h | h | h | h <;> simp [h])

section
local macro_rules | `(tactic| walk_at "call ref") => `(tactic| (k_here; k_dflt (refine wpAny_call ?_; walk_at "mine plain")))

local macro_rules | `(tactic| walk_at "mine both") => `(tactic| (refine' kp_both ?k1 ?k2 ?k3 ?k4 ?k5 ?kA ?kF ?kK ?k6 ?k7 ?k8 ?kV ?kX ?kQ ?kM ?kN ?kD ?kR ?kP ?kS ?kT ?kB ?_ ?c2 ?c3 ?c4 ?c5; (case kA | kF => exact rfl); (case kK => first | assumption | exact rfl); (case k1 | k2 | k3 | k4 | k5 => k_asm); (case k6 | k7 => k_is); (case k8 => ktr_room); (case kV | kX => kp_lit); (case kQ | kM | kN => exact rfl); (case kD => kp_flats); (case kR | kP => exact rfl); (case kS => exact fun _ => rfl); (case kT => exact fun _ _ => rfl); (case kB => exact fun _ _ => locs rfl); (case c5 => decide); (case c2 | c3 | c4 => exact rfl); k_whole; intro C' D' o' g' L' h' tk' l1 l2 lo' hs' fs' FG' F' N' B' X' T'; (try dsimp only); (try k_lift B'); (try k_fold)))



local macro_rules | `(tactic| walk_at "call ref") => `(tactic| (k_here; (with_reducible show wpAny _ _ (call (Value.ref 604) [Value.str _ _]) _ _ _); k_dflt (refine' io_spec _ _ _ _ _ _ _ _ _ _ _ _ _ _ _ _ _ _ _ _ _ _ _ _ _ _ ?B ?F ?X ?N ?T ?hk ?hd ?hu ?h0 ?_; (case B | F | X | N | T => k_asm); (case hk => rfl); (case hd => ktr_room); (case hu => ktr_units); (case h0 => first | omega | assumption)); intro X' dX' tp' k1' k2' k3' h' tk' hlt' hall' F' N'; (try k_lt hall'); (try k_lt2 hlt'); (try dsimp only); (try k_fold)))
local macro_rules | `(tactic| walk_at "call ref") => `(tactic| (k_here; (with_reducible show wpAny _ _ (call (Value.ref 739) _ _) _ _ _); k_dflt (refine' call_cls ?k1 ?k2 ?k3 ?k4 ?k5 ?k6 ?_; (case k1 | k2 | k3 => k_asm); (case k4 | k5 | k6 => k_is); k_whole; intro x' d' h' F' N' l1 l2; (try k_lt2 l2); (try k_sweep); walk_at "mine plain")))

local macro_rules | `(tactic| walk_at "call type:collections.deque") => `(tactic| (k_here; k_dflt (refine' deque_new ?F ?N ?_; (case F | N => k_asm); k_whole); intro D' h' F' N' l1; (try k_lt l1); (try k_sweep)))

set_option maxHeartbeats 4000000 in
theorem lex_spec : ∀ (w : World) (p : Program) (loose : List Str) (mean : ExcName → Option Value) (mg mb : Str → Option Value) (dp un : Nat) (gd : Option (List Code)) (cn : Str) (cs : Scope) (a : Addr) (ccd : Value) (cl : List (Str × Addr)) (outer : List Env) (A₀ : Around) (base h₀ : Heap) (L : Addr) (m : Str → Option Value) (news : List (Addr × Obj)) (s : Shared) (Q E : Value → Shared → Prop) (x : Str) (t : Tok),
  Below A₀ base outer h₀ → Fr h₀ L s.heap m → (Mine.H.K w.params).In h₀ → News h₀ L s.heap (news) → Top p loose mean mg mb h₀ → cs.kind = .function → dp + 210 < recursionLimit → un + 2010 < cLine → x.length ≤ 1000 →
  (∀ S dS X dX q1 q2 T c0 c1 c2 c3 tp k1 k2 k3 h' tk', (∀ p ∈ news, p.1 < dS) → dS < S → S < dX → dX < X → X < q1 → q1 < q2 → Fr h₀ L h' m → News h₀ L h' (lexN w.params T S dS X dX q1 q2 (.str (Str.ofString "#") c0) (.bool false) (.str (Str.ofString " ") c1) (.int 1 c2) (.str (Str.ofString "") c3) x t 0 tp k1 k2 k3 news) → Q (.ref S) {s with heap := h', toks := tk'}) →
  wpAny (model PySem.Challenge.rw_mq0393_01.prog w) (ktrTop dp un gd cn cs L a ccd cl outer) (call (.ref 739) [.str x t] [(Str.ofString "posix", .bool true)]) Q E s := by
  k_fill
  intro w p loose mean mg mb dp un gd cn cs a ccd cl outer A₀ base h₀ L m news s Q E x t B F X N T hk hd hu h0 ret
  k_dflt (refine' call_cls (fI := 663) ?k1 ?k2 ?k3 ?k4 ?k5 ?k6 ?_; (case k1 => k_asm); (case k2 => k_asm); (case k3 => k_asm); (case k4 => k_is); (case k5 => k_is); (case k6 => k_is))
  intro S dS h9 F9 N9 l1 l2
  k_lt2 l2
  have l3 : ∀ p ∈ news, p.1 ≠ dS := fun p hp => Nat.ne_of_lt (l1 p hp)
  show codeAny _ (ktrTop (dp + 1) (un + 1) gd cn cs L a ccd cl outer) _ _ _
  k_dflt (walk_at "mine plain")
  walk_at "mine steps"
  refine ret _ _ _ _ _ _ ⟨_, _, _, _, _, _, _, _, _, _, _, _, _, _, _, _, _, _, _, _, _, _, _, _, _, _⟩ _ _ _ _ _ _ _ _ _ _ l1 l2 ?_ ?_ ?_ ?_ (by assumption) (news_lex (by assumption))
  all_goals first | assumption | (show @LT.lt Nat instLTNat _ _; omega)
end

-- the lexer's automaton
inductive LS | ws | wd | sq | dq | dn
noncomputable def LS.val : LS → Tok → Value
  | .ws, t => .str (Str.ofString " ") t
  | .wd, t => .str (Str.ofString "a") t
  | .sq, t => .str (Str.ofString "'") t
  | .dq, t => .str (Str.ofString "\"") t
  | .dn, _ => .none
noncomputable def openC (c : Nat) : Bool := !(c == 9 || c == 10 || c == 13 || c == 32 || c == 34 || c == 39 || c == 92)
noncomputable def scan : List Nat → LS → List Nat → Bool → Option (List Nat × Bool × LS × List Nat)
  | [], .ws, t, q => some (t, q, .dn, [])
  | [], .wd, t, q => some (t, q, .dn, [])
  | [], .dn, _, q => some ([], q, .dn, [])
  | [], _, _, _ => none
  | c :: r, .ws, t, q => if c = 32 then (if t = [] ∧ q = false then scan r .ws t q else none) else if c = 39 then scan r .sq t q else if openC c then scan r .wd [c] q else none
  | c :: r, .wd, t, q => if c = 32 then (if t = [] ∧ q = false then none else some (t, q, .ws, r)) else if c = 39 then scan r .sq t q else if c = 34 then scan r .dq t q else if openC c then scan r .wd (t ++ [c]) q else none
  | c :: r, .sq, t, _ => if c = 39 then scan r .wd t true else scan r .sq (t ++ [c]) true
  | c :: r, .dq, t, _ => if c = 34 then scan r .wd t true else if c = 39 then scan r .dq (t ++ [c]) true else none
  | _ :: _, .dn, _, _ => none
theorem ioread_at : ∀ (w : World) (p : Program) (loose : List Str) (mean : ExcName → Option Value) (mg mb : Str → Option Value) (dp un : Nat) (gd : Option (List Code)) (cn : Str) (cs : Scope) (a : Addr) (ccd : Value) (cl : List (Str × Addr)) (outer : List Env) (A₀ : Around) (base h₀ : Heap) (L : Addr) (m : Str → Option Value) (news : List (Addr × Obj)) (s : Shared) (Q E : Value → Shared → Prop) (X dX : Addr) (x : Str) (t : Tok) (i : Nat) (tp k1 k2 k3 u : Tok) (y : Str) (j : Nat),
  Below A₀ base outer h₀ → Fr h₀ L s.heap m → (Mine.H.K w.params).In h₀ → News h₀ L s.heap ((X, instObj 604 dX) :: (dX, ioO w.params x t (i : Int) tp k1 k2 k3) :: news) → Top p loose mean mg mb h₀ → cs.kind = .function → dp + 100 < recursionLimit → un + 1000 < cLine → x.length ≤ 1000 → i ≤ x.length → X ≠ dX → (∀ p ∈ news, p.1 ≠ dX) → nextS x i = y → nextI x i = j →
  (∀ t' tp' h' tk', Fr h₀ L h' m → News h₀ L h' ((X, instObj 604 dX) :: (dX, ioO w.params x t ((j : Nat) : Int) tp' k1 k2 k3) :: news) → Q (.str y t') {s with heap := h', toks := tk'}) →
  wpAny (model PySem.Challenge.rw_mq0393_01.prog w) (ktrTop dp un gd cn cs L a ccd cl outer) (call (.ref 550) [.ref X, .int 1 u]) Q E s := by
  intro w p loose mean mg mb dp un gd cn cs a ccd cl outer A₀ base h₀ L m news s Q E X dX x t i tp k1 k2 k3 u y j B F X' N T hk hd hu h0 h1 h2 h3 hy hj ret
  subst hy hj
  exact ioread_spec w p loose mean mg mb dp un gd cn cs a ccd cl outer A₀ base h₀ L m news s Q E X dX x t i tp k1 k2 k3 u B F X' N T hk hd hu h0 h1 h2 h3 ret
theorem news_front {h₀ h : Heap} {L : Addr} {a b c d : Addr × Obj} {t : List (Addr × Obj)} (N : News h₀ L h (a :: b :: c :: d :: t)) : News h₀ L h (c :: d :: a :: b :: t) :=
  fun p hp => N p (by simp only [List.mem_cons] at hp ⊢; rcases hp with h | h | h | h | h <;> simp [h])
theorem ne_four {S dS q1 q2 d : Addr} {a b e f : Obj} {news : List (Addr × Obj)} (h1 : S ≠ d) (h2 : dS ≠ d) (h3 : q1 ≠ d) (h4 : q2 ≠ d) (h : ∀ p ∈ news, p.1 ≠ d) : ∀ p ∈ (S, a) :: (dS, b) :: (q1, e) :: (q2, f) :: news, p.1 ≠ d := by
  intro p hp
  simp only [List.mem_cons] at hp
  rcases hp with rfl | rfl | rfl | rfl | hp
  · exact h1
  · exact h2
  · exact h3
  · exact h4
  · exact h p hp
structure LexOrd (news : List (Addr × Obj)) (S dS X dX q1 q2 : Addr) : Prop where
  h0 : ∀ p ∈ news, p.1 ≠ dS ∧ p.1 ≠ dX
  h1 : dS < S
  h2 : S < dX
  h3 : dX < X
  h4 : X < q1
  h5 : q1 < q2
theorem tok_frame {m' : Str → Option Value} {v r i : Value} (h1 : m' (Str.ofString "self") = some v) (h2 : m' (Str.ofString "quoted") = some r) (h3 : m' (Str.ofString "escapedstate") = some i) :
    m' = fun y => if y = Str.ofString "self" then some v else if y = Str.ofString "quoted" then some r else if y = Str.ofString "escapedstate" then some i else m' y := by
  funext y
  by_cases e1 : y = Str.ofString "self"
  · simp only [e1, if_true]; exact h1
  · by_cases e2 : y = Str.ofString "quoted"
    · simp only [e2, if_true]; rw [if_neg (by decide +kernel)]; exact h2
    · by_cases e3 : y = Str.ofString "escapedstate"
      · simp only [e3, if_true]; rw [if_neg (by decide +kernel), if_neg (by decide +kernel)]; exact h3
      · simp only [e1, e2, e3, if_false]
noncomputable def strN : List Nat → Str
  | [] => Str.ofString ""
  | c :: r => ⟨(c :: r).toArray⟩
theorem strN_eq (t : List Nat) : strN t = ⟨t.toArray⟩ := by
  cases t with
  | nil => show Str.ofString "" = _; decide +kernel
  | cons => rfl
theorem strN_app (t : List Nat) (c : Nat) : strN t ++ (⟨#[c]⟩ : Str) = strN (t ++ [c]) := by
  rw [strN_eq, strN_eq]
  show (⟨t.toArray ++ #[c]⟩ : Str) = _
  simp
theorem strN_len (t : List Nat) : (strN t).length = t.length := by rw [strN_eq]; simp [Str.length]
theorem strN_nil {t : List Nat} (h : (strN t == Str.ofString "") = true) : t = [] := by
  have := eq_of_beq h
  have h2 : (strN t).length = 0 := by rw [this]; decide +kernel
  rw [strN_len] at h2
  exact List.eq_nil_of_length_eq_zero h2
theorem strN_nnil {t : List Nat} (h : (strN t == Str.ofString "") = false) : t ≠ [] := by
  rintro rfl
  exact absurd h (by decide +kernel)
noncomputable abbrev splitN (P : Params) (T : LexT) (S dS X dX q1 q2 : Addr) (c0 : Tok) (st : LS) (ts : Tok) (ln : Int) (tl : Tok) (tk : List Nat) (tt : Tok) (x : Str) (t : Tok) (i : Nat) (tp k1 k2 k3 : Tok) (news : List (Addr × Obj)) : List (Addr × Obj) :=
  lexN P T S dS X dX q1 q2 (.str (Str.ofString "") c0) (.bool true) (st.val ts) (.int ln tl) (.str (strN tk) tt) x t (i : Int) tp k1 k2 k3 news
noncomputable def JTok (P : Params) (T : LexT) (S dS X dX q1 q2 : Addr) (c0 : Tok) (x : Str) (t k1 k2 k3 : Tok) (news : List (Addr × Obj)) (R : List Nat × Bool × LS × List Nat) (n : Nat) (m : Str → Option Value) (nx : List (Addr × Obj)) : Prop :=
  ∃ (st : LS) (ts : Tok) (ln : Int) (tl : Tok) (tk : List Nat) (tt : Tok) (i : Nat) (tp : Tok) (qd : Bool) (te : Value) (u : Str → Option Value), nx = splitN P T S dS X dX q1 q2 c0 st ts ln tl tk tt x t i tp k1 k2 k3 news ∧
    m = (fun y => if y = Str.ofString "self" then some (.ref S) else if y = Str.ofString "quoted" then some (.bool qd) else if y = Str.ofString "escapedstate" then some te else u y) ∧
    scan (x.cps.toList.drop i) st tk qd = some R ∧ i ≤ x.length ∧ n = x.length - i ∧ 0 ≤ ln ∧ ln ≤ i + 1 ∧ tk.length ≤ i
theorem news_mem2 {h₀ h : Heap} {L : Addr} {a b : Addr × Obj} {t : List (Addr × Obj)} (h1 : a ∈ t) (h2 : b ∈ t) (N : News h₀ L h t) : News h₀ L h (a :: b :: t) := by
  intro p hp
  rcases List.mem_cons.mp hp with rfl | hp
  · exact N _ h1
  · rcases List.mem_cons.mp hp with rfl | hp
    · exact N _ h2
    · exact N _ hp
noncomputable def TokEnd (P : Params) (h₀ : Heap) (L : Addr) (s : Shared) (T : LexT) (S dS X dX q1 q2 : Addr) (c0 : Tok) (x : Str) (t k1 k2 k3 : Tok) (news : List (Addr × Obj)) (R : List Nat × Bool × LS × List Nat) (s₃ : Shared) : Prop :=
  ∃ (ts : Tok) (ln : Int) (tl : Tok) (tt : Tok) (i : Nat) (tp : Tok) (te : Value) (u : Str → Option Value) (h' : Heap) (tk' : Nat), s₃ = { s with heap := h', toks := tk' } ∧
    Fr h₀ L h' (fun y => if y = Str.ofString "self" then some (.ref S) else if y = Str.ofString "quoted" then some (.bool R.2.1) else if y = Str.ofString "escapedstate" then some te else u y) ∧
    News h₀ L h' (splitN P T S dS X dX q1 q2 c0 R.2.2.1 ts ln tl R.1 tt x t i tp k1 k2 k3 news) ∧ 0 ≤ ln ∧ ln ≤ (i : Int) + 1 ∧ i ≤ x.length ∧ x.cps.toList.drop i = R.2.2.2 ∧ R.1.length ≤ x.length
theorem turn_abs {prog : Program} {w : World} {A : Around} {env : Env} {h₀ : Heap} {L : Addr} {s : Shared} {J : Nat → (Str → Option Value) → List (Addr × Obj) → Prop} {n : Nat} {test : PySem.Expr} {body : List Stmt} {h₁ : Heap} {tk₁ : Nat} {E : Value → Shared → Prop} (QQ : Shared → Flow → Shared → Prop)
    (h : ∀ (s8 : Shared) (Q8 : Flow → Shared → Prop) (E8 : Value → Shared → Prop) (T8 : Shared → Prop), (∀ f s', WhileStep2 h₀ L s8 J (QQ s8) n f s' → Q8 f s') →
      wpAny (model prog w) A (isTrue test env (eval test env)) (fun b s₂ => if b = true then wpAny (model prog w) A (execs body env) Q8 E8 s₂ else T8 s₂) E8 { s8 with heap := h₁, toks := tk₁ }) :
    wpAny (model prog w) A (isTrue test env (eval test env)) (fun b s₂ => if b = true then wpAny (model prog w) A (execs body env) (WhileStep2 h₀ L s J (QQ s) n) E s₂ else QQ s .next s₂) E { s with heap := h₁, toks := tk₁ } := h s _ E _ fun _ _ x => x
theorem wp_then {prog : Program} {w : World} {A : Around} {E : Value → Shared → Prop} {t : Sem Flow} {Q : Flow → Shared → Prop} {s : Shared} {h₀ : Heap} {L : Addr} {m : Str → Option Value} (TE : Heap → Addr → Shared → Shared → Prop) (F : Fr h₀ L s.heap m)
    (h1 : wpAny (model prog w) A t (fun f s₃ => f = Flow.next ∧ TE h₀ L s s₃) E s) (h2 : ∀ s₃, TE h₀ L s s₃ → Q .next s₃) : wpAny (model prog w) A t Q E s :=
  wpAny_mono h1 (fun f s₃ ⟨e, h⟩ => by subst e; exact h2 s₃ h) fun _ _ x => x
section
variable {x : Str} {i : Nat} {c : Nat} {r : List Nat}
theorem next_nil (h : x.cps.toList.drop i = []) : nextS x i = Str.ofString "" ∧ nextI x i = i := by
  have hi : ¬ i < x.length := by
    intro q
    have := List.drop_eq_nil_iff.mp h
    simp [Str.length] at q this
    omega
  exact ⟨(nextS_end hi).symm, by unfold nextI; rw [if_neg hi]⟩
theorem next_cons (h : x.cps.toList.drop i = c :: r) : nextS x i = ⟨#[c]⟩ ∧ nextI x i = i + 1 ∧ x.cps.toList.drop (i + 1) = r ∧ i + 1 ≤ x.length := by
  have hi : i < x.length := by
    by_cases q : i < x.length
    · exact q
    · rw [List.drop_eq_nil_of_le (by simp [Str.length] at q; simpa using q)] at h
      cases h
  refine ⟨?_, ?_, ?_, hi⟩
  · unfold nextS; rw [h]; rfl
  · unfold nextI; rw [if_pos hi]
  · rw [← List.drop_drop, h]; rfl
theorem one_32 : (⟨#[32]⟩ : Str) = Str.ofString " " := by decide +kernel
theorem one_39 : (⟨#[39]⟩ : Str) = Str.ofString "'" := by decide +kernel
theorem one_34 : (⟨#[34]⟩ : Str) = Str.ofString "\"" := by decide +kernel
theorem one_eq {y : Str} {d : Nat} (hy : y = ⟨#[d]⟩) : ((⟨#[c]⟩ : Str) == y) = decide (c = d) := by
  subst hy
  by_cases h : c = d
  · subst h; simp
  · rw [decide_eq_false h, beq_eq_false_iff_ne]
    intro q; injection q with q; simp at q; exact h q
theorem one_in {y : Str} {l : List Nat} (hy : y.cps.toList = l) : (occurrences y ⟨#[c]⟩ 0 y.length 1).isEmpty = !decide (c ∈ l) := by
  have h := StrLaws.found_one y c
  rw [hy] at h
  rw [← Bool.not_not (List.isEmpty _), h]
end
section
variable {c : Nat} {r t : List Nat} {q : Bool} {R : List Nat × Bool × LS × List Nat}
theorem sc_ws_nil (h : scan [] .ws t q = some R) : R = (t, q, .dn, []) := by simp [scan] at h; exact h.symm
theorem sc_wd_nil (h : scan [] .wd t q = some R) : R = (t, q, .dn, []) := by simp [scan] at h; exact h.symm
theorem sc_dn_nil (h : scan [] .dn t q = some R) : R = ([], q, .dn, []) := by simp [scan] at h; exact h.symm
theorem sc_ws_sp (h : scan (32 :: r) .ws t q = some R) : t = [] ∧ q = false ∧ scan r .ws [] false = some R := by
  simp only [scan, if_true] at h
  split at h
  · next e => obtain ⟨rfl, rfl⟩ := e; exact ⟨rfl, rfl, h⟩
  · cases h
theorem sc_ws_q (h : scan (39 :: r) .ws t q = some R) : scan r .sq t q = some R := by simpa [scan] using h
theorem sc_ws_c (h1 : c ≠ 32) (h2 : c ≠ 39) (h : scan (c :: r) .ws t q = some R) : openC c = true ∧ scan r .wd [c] q = some R := by
  simp only [scan, h1, h2, if_false] at h
  split at h
  · next e => exact ⟨e, h⟩
  · cases h
theorem sc_wd_sp (h : scan (32 :: r) .wd t q = some R) : ¬ (t = [] ∧ q = false) ∧ R = (t, q, .ws, r) := by
  simp only [scan, if_true] at h
  split at h
  · cases h
  · next e => exact ⟨e, (Option.some.inj h).symm⟩
theorem sc_wd_q (h : scan (39 :: r) .wd t q = some R) : scan r .sq t q = some R := by simpa [scan] using h
theorem sc_wd_d (h : scan (34 :: r) .wd t q = some R) : scan r .dq t q = some R := by simpa [scan] using h
theorem sc_wd_c (h1 : c ≠ 32) (h2 : c ≠ 39) (h3 : c ≠ 34) (h : scan (c :: r) .wd t q = some R) : openC c = true ∧ scan r .wd (t ++ [c]) q = some R := by
  simp only [scan, h1, h2, h3, if_false] at h
  split at h
  · next e => exact ⟨e, h⟩
  · cases h
theorem sc_sq_q (h : scan (39 :: r) .sq t q = some R) : scan r .wd t true = some R := by simpa [scan] using h
theorem sc_sq_c (h1 : c ≠ 39) (h : scan (c :: r) .sq t q = some R) : scan r .sq (t ++ [c]) true = some R := by simpa [scan, h1] using h
theorem sc_dq_d (h : scan (34 :: r) .dq t q = some R) : scan r .wd t true = some R := by simpa [scan] using h
theorem sc_dq_q (h : scan (39 :: r) .dq t q = some R) : scan r .dq (t ++ [39]) true = some R := by simpa [scan] using h
theorem sc_dq_c (h1 : c ≠ 34) (h2 : c ≠ 39) (h : scan (c :: r) .dq t q = some R) : False := by simp [scan, h1, h2] at h
theorem sc_dn_c (h : scan (c :: r) .dn t q = some R) : False := by simp [scan] at h
theorem sc_sq_nil (h : scan [] .sq t q = some R) : False := by simp [scan] at h
theorem sc_dq_nil (h : scan [] .dq t q = some R) : False := by simp [scan] at h
theorem open_facts (h : openC c = true) : ((⟨#[c]⟩ : Str) == Str.ofString "\n") = false ∧ (occurrences (Str.ofString " \t\r\n") ⟨#[c]⟩ 0 (Str.ofString " \t\r\n").length 1).isEmpty = true ∧ (occurrences (Str.ofString "") ⟨#[c]⟩ 0 (Str.ofString "").length 1).isEmpty = true ∧
    (occurrences (Str.ofString "\\") ⟨#[c]⟩ 0 (Str.ofString "\\").length 1).isEmpty = true ∧ (occurrences (Str.ofString "'\"") ⟨#[c]⟩ 0 (Str.ofString "'\"").length 1).isEmpty = true := by
  simp only [openC, Bool.not_eq_true', Bool.or_eq_false_iff, beq_eq_false_iff_ne, ne_eq] at h
  obtain ⟨⟨⟨⟨⟨⟨h9, h10⟩, h13⟩, h32⟩, h34⟩, h39⟩, h92⟩ := h
  refine ⟨?_, ?_, ?_, ?_, ?_⟩
  · rw [one_eq (d := 10) (by decide +kernel)]; simpa using h10
  · rw [one_in (l := [32, 9, 13, 10]) (by decide +kernel)]; simp [h9, h10, h13, h32]
  · rw [one_in (l := []) (by decide +kernel)]; simp
  · rw [one_in (l := [92]) (by decide +kernel)]; simp [h92]
  · rw [one_in (l := [39, 34]) (by decide +kernel)]; simp [h34, h39]
theorem sq_fact (h : c ≠ 39) : ((⟨#[c]⟩ : Str) == Str.ofString "'") = false := by rw [one_eq (d := 39) (by decide +kernel)]; simpa using h
end
theorem strN_app39 (t : List Nat) : strN t ++ Str.ofString "'" = strN (t ++ [39]) := by rw [← one_39, strN_app]
theorem tok_fr {h₀ h : Heap} {L : Addr} {m' : Str → Option Value} {v r i : Value} (F : Fr h₀ L h m') (h1 : m' (Str.ofString "self") = some v) (h2 : m' (Str.ofString "quoted") = some r) (h3 : m' (Str.ofString "escapedstate") = some i) :
    Fr h₀ L h (fun y => if y = Str.ofString "self" then some v else if y = Str.ofString "quoted" then some r else if y = Str.ofString "escapedstate" then some i else m' y) := by
  rw [← tok_frame h1 h2 h3]; exact F
section
variable {h₀ : Heap} {L : Addr} {s : Shared} {J : Nat → (Str → Option Value) → List (Addr × Obj) → Prop} {TE : Shared → Prop} {n : Nat} {s₃ : Shared}
theorem tok_brk (h : TE s₃) : WhileStep2 h₀ L s J (fun f s₃ => f = .next ∧ TE s₃) n .brk s₃ := ⟨rfl, h⟩
theorem tok_next (h : ∃ h' tk m₂ news₂ n', s₃ = { s with heap := h', toks := tk } ∧ Fr h₀ L h' m₂ ∧ News h₀ L h' news₂ ∧ n' < n ∧ J n' m₂ news₂) : WhileStep2 h₀ L s J (fun f s₃ => f = .next ∧ TE s₃) n .next s₃ := h
theorem tok_cont (h : ∃ h' tk m₂ news₂ n', s₃ = { s with heap := h', toks := tk } ∧ Fr h₀ L h' m₂ ∧ News h₀ L h' news₂ ∧ n' < n ∧ J n' m₂ news₂) : WhileStep2 h₀ L s J (fun f s₃ => f = .next ∧ TE s₃) n .cont s₃ := h
end
noncomputable abbrev occB (y z : String) : Bool := (occurrences (Str.ofString y) (Str.ofString z) 0 (Str.ofString y).length 1).isEmpty
theorem lit_facts : occB " \t\r\n" " " = false ∧ occB " \t\r\n" "'" = true ∧ occB "" "'" = true ∧ occB "\\" "'" = true ∧ occB "'\"" "'" = false ∧ occB " \t\r\n" "\"" = true ∧ occB "" "\"" = true ∧ occB "'\"" "\"" = false ∧ occB "'\"" "a" = true ∧ occB "\\" "a" = true ∧
    occB "\"" "'" = true ∧ occB "\"" "\"" = false ∧ occB "abcdfeghijklmnopqrstuvwxyzABCDEFGHIJKLMNOPQRSTUVWXYZ0123456789_ßàáâãäåæçèéêëìíîïðñòóôõöøùúûüýþÿÀÁÂÃÄÅÆÇÈÉÊËÌÍÎÏÐÑÒÓÔÕÖØÙÚÛÜÝÞ" "'" = true := by
  refine ⟨?_, ?_, ?_, ?_, ?_, ?_, ?_, ?_, ?_, ?_, ?_, ?_, ?_⟩ <;> decide +kernel

section
variable {prog : Program} {w : World} {A : Around} {E : Value → Shared → Prop} {s : Shared} {Q : Value → Shared → Prop}
theorem iadd_tok {tk : List Nat} {c : Nat} {t u : Tok} (h : ∀ t' k, Q (.str (strN (tk ++ [c])) t') { s with toks := k }) (hl : tk.length ≤ 1000) :
    wpAny (model prog w) A (inplaceOp .Add (.str (strN tk) t) (.str ⟨#[c]⟩ u)) Q E s :=
  SBL.iadd (fun t' k => by rw [strN_app]; exact fun _ => h t' k) (by rw [strN_len]; show tk.length + 1 ≤ sizeLine; unfold sizeLine; omega)
theorem truthy_one {c : Nat} {t : Tok} {Q : Bool → Shared → Prop} (h : Q true { s with toks := s.toks + 1 + 1 }) : wpAny (model prog w) A (truthy (.str ⟨#[c]⟩ t)) Q E s :=
  P.truthy_str (show ¬ ((1 : Nat) : Int) ≥ 2 ^ 63 by decide) h
theorem truthy_strN {tk : List Nat} {t : Tok} {Q : Bool → Shared → Prop} (hne : tk ≠ []) (hl : tk.length ≤ 1000) (h : Q true { s with toks := s.toks + 1 + 1 }) : wpAny (model prog w) A (truthy (.str (strN tk) t)) Q E s := by
  refine P.truthy_str (by rw [strN_len]; omega) ?_
  have : ((((strN tk).length : Nat) : Int) != 0) = true := by
    rw [strN_len, bne_iff_ne]
    intro h0
    exact hne (List.eq_nil_of_length_eq_zero (by omega))
  rw [this]; exact h
theorem iadd_q {tk : List Nat} {t u : Tok} (h : ∀ t' k, Q (.str (strN (tk ++ [39])) t') { s with toks := k }) (hl : tk.length ≤ 1000) :
    wpAny (model prog w) A (inplaceOp .Add (.str (strN tk) t) (.str (Str.ofString "'") u)) Q E s := by
  rw [← one_39]; exact iadd_tok h hl
end
theorem strN_ne {t : List Nat} (h : t ≠ []) : (strN t == Str.ofString "") = false := by
  cases e : strN t == Str.ofString "" with
  | false => rfl
  | true => exact absurd (strN_nil e) h

section
local macro_rules | `(tactic| walk_at "call ref") => `(tactic| (k_here; k_dflt (refine wpAny_call ?_; walk_at "mine plain")))



local macro_rules | `(tactic| walk_at "getAttr ref") => `(tactic| (k_here; (with_reducible show wpAny _ _ (getAttr (Value.ref _) (Str.ofString "punctuation_chars") _) _ _ _); k_dflt (refine' get_prop ?k1 ?k2 ?k3 ?k4 ?k5 ?k6 ?k7 ?k8 ?k9 ?_; (case k1 | k2 => k_asm); (case k3 => k_inst); (case k4 | k5 | k6 | k7 | k8 | k9 => k_is); k_whole; walk_at "mine plain")))

set_option maxHeartbeats 4000000 in
theorem pget_spec : ∀ (w : World) (p : Program) (loose : List Str) (mean : ExcName → Option Value) (mg mb : Str → Option Value) (dp un : Nat) (gd : Option (List Code)) (cn : Str) (cs : Scope) (a : Addr) (ccd : Value) (cl : List (Str × Addr)) (outer : List Env) (A₀ : Around) (base h₀ : Heap) (L : Addr) (m : Str → Option Value) (news : List (Addr × Obj)) (s : Shared) (Q E : Value → Shared → Prop) (S dS X q1 q2 : Addr) (T' : LexT) (comm split st ln tk : Value),
  Below A₀ base outer h₀ → Fr h₀ L s.heap m → (Mine.H.K w.params).In h₀ → News h₀ L s.heap (news) → Top p loose mean mg mb h₀ → cs.kind = .function → dp + 20 < recursionLimit → un + 200 < cLine → (S, instObj 739 dS) ∈ news → (dS, lexO w.params T' X q1 q2 comm split st ln tk) ∈ news →
  (∀ h' tk', Fr h₀ L h' m → News h₀ L h' news → Q (.str (Str.ofString "") T'.vp) {s with heap := h', toks := tk'}) →
  wpAny (model PySem.Challenge.rw_mq0393_01.prog w) (ktrTop dp un gd cn cs L a ccd cl outer) (getAttr (.ref S) (Str.ofString "punctuation_chars") true) Q E s := by
  k_fill
  intro w p loose mean mg mb dp un gd cn cs a ccd cl outer A₀ base h₀ L m news s Q E S dS X q1 q2 T' comm split st ln tk B F X N T hk hd hu h0 h1 ret
  have N2 := news_mem2 h0 h1 N
  clear N
  walk_at "mine steps"
  exact ret _ _ (by assumption) (news_tl (news_tl (by assumption)))
end

section
local macro_rules | `(tactic| walk_at "call ref") => `(tactic| (k_here; k_dflt (refine wpAny_call ?_; walk_at "mine plain")))



local macro_rules | `(tactic| walk_at "call ref") => `(tactic| (k_here; (with_reducible show wpAny _ _ (call (Value.ref 550) [Value.ref _, Value.int _ _]) _ _ _); k_dflt (refine' ioread_at _ _ _ _ _ _ _ _ _ _ _ _ _ _ _ _ _ _ _ _ _ _ _ _ _ _ _ _ _ _ _ _ _ _ _ _ ?B ?F ?X ?N ?T ?hk ?hd ?hu ?h0 ?h1 ?h2 ?h3 ?h4 ?h5 ?_; (case B | F | X => k_asm); (case N => exact news_front (by k_asm)); (case T => k_asm); (case hk => rfl); (case hd => ktr_room); (case hu => ktr_units); (case h0 | h1 => assumption); (case h2 => k_ne); (case h3 => exact ne_four (by k_ne) (by k_ne) (by k_ne) (by k_ne) (by assumption)); (case h4 | h5 => exact rfl)); intro t' tp' h' tk' F' N'; (try dsimp only); (try k_fold); refine Halt.out ?_))

local macro_rules | `(tactic| walk_at "exec While") => `(tactic| (k_here; refine Halt.out ?_))
local macro_rules | `(tactic| walk_at "last exec While") => `(tactic| (k_here; refine Halt.out ?_))
local macro_rules | `(tactic| walk_at "getAttr ref") => `(tactic| (k_here; (with_reducible show wpAny _ _ (getAttr (Value.ref _) (Str.ofString "punctuation_chars") _) _ _ _); k_dflt (refine' pget_spec _ _ _ _ _ _ _ _ _ _ _ _ _ _ _ _ _ _ _ _ _ _ _ _ _ _ _ _ _ _ _ _ _ _ _ ?B ?F ?X ?N ?T ?hk ?hd ?hu ?h0 ?h1 ?_; (case B | F | X | N | T => k_asm); (case hk => rfl); (case hd => ktr_room); (case hu => ktr_units); (case h0 | h1 => k_mem)); intro h' tk' F' N'; (try dsimp only); (try k_fold)))
local macro_rules | `(tactic| walk_at "ite") => `(tactic| (k_here; first | (refine ite_pos (by with_reducible assumption) ?_) | (refine ite_isFalse (by with_reducible assumption) ?_)))
local macro_rules | `(tactic| walk_at "inplaceOp Add str str") => `(tactic| (k_here; (first | (refine iadd_tok ?_ (by omega)) | (refine iadd_q ?_ (by omega))); intro _ _; (try dsimp only); (try k_fold)))
local macro_rules | `(tactic| walk_at "truthy str") => `(tactic| (k_here; refine truthy_one ?_))
local macro_rules | `(tactic| walk_at "truthy str") => `(tactic| (k_here; refine truthy_strN (by assumption) (by omega) ?_))

set_option maxHeartbeats 4000000 in
theorem rtok_spec : ∀ (w : World) (p : Program) (loose : List Str) (mean : ExcName → Option Value) (mg mb : Str → Option Value) (dp un : Nat) (gd : Option (List Code)) (cn : Str) (cs : Scope) (a : Addr) (ccd : Value) (cl : List (Str × Addr)) (outer : List Env) (A₀ : Around) (base h₀ : Heap) (L : Addr) (m : Str → Option Value) (news : List (Addr × Obj)) (s : Shared) (Q E : Value → Shared → Prop) (S dS Io dI q1 q2 : Addr) (T' : LexT) (c0 : Tok) (st : LS) (ts : Tok) (ln : Int) (tl tt : Tok) (x : Str) (t : Tok) (i : Nat) (tp k1 k2 k3 : Tok) (R : List Nat × Bool × LS × List Nat),
  Below A₀ base outer h₀ → Fr h₀ L s.heap m → (Mine.H.K w.params).In h₀ → News h₀ L s.heap (splitN w.params T' S dS Io dI q1 q2 c0 st ts ln tl [] tt x t i tp k1 k2 k3 news) → Top p loose mean mg mb h₀ → cs.kind = .function → dp + 150 < recursionLimit → un + 1500 < cLine → x.length ≤ 1000 → i ≤ x.length → LexOrd news S dS Io dI q1 q2 → 0 ≤ ln → ln ≤ i + 1 → scan (x.cps.toList.drop i) st [] false = some R →
  (∀ (ts' : Tok) (ln' : Int) (tl' tt' : Tok) (i' : Nat) (tp' tr : Tok) (h' : Heap) (tk' : Nat), 0 ≤ ln' → ln' ≤ (i' : Int) + 1 → i' ≤ x.length → x.cps.toList.drop i' = R.2.2.2 → Fr h₀ L h' m → News h₀ L h' (splitN w.params T' S dS Io dI q1 q2 c0 R.2.2.1 ts' ln' tl' [] tt' x t i' tp' k1 k2 k3 news) → Q (if R.1 = [] ∧ R.2.1 = false then .none else .str (strN R.1) tr) {s with heap := h', toks := tk'}) →
  wpAny (model PySem.Challenge.rw_mq0393_01.prog w) (ktrTop dp un gd cn cs L a ccd cl outer) (call (.ref 707) [.ref S]) Q E s := by
  k_fill
  intro w p loose mean mg mb dp un gd cn cs a ccd cl outer A₀ base h₀ L m news s Q E S dS Io dI q1 q2 T' c0 st ts ln tl tt x t i tp k1 k2 k3 R B F X N T hk hd hu h0 h1 h2 h3 h4 h5 ret
  have o0 := h2.h0
  have o1 := h2.h1
  have o2 := h2.h2
  have o3 := h2.h3
  have o4 := h2.h4
  have o5 := h2.h5
  have n1 : ∀ p ∈ news, p.1 ≠ dS := fun p hp => (o0 p hp).1
  have n2 : ∀ p ∈ news, p.1 ≠ dI := fun p hp => (o0 p hp).2
  k_lt2 o1
  k_lt2 o2
  k_lt2 o3
  k_lt2 o4
  k_lt2 o5
  refine wpAny_call ?_
  k_dflt (walk_at "mine plain")
  walk_at "mine steps"
  refine Halt.mk ?_
  refine wp_then (fun h₀ L s => TokEnd w.params h₀ L s T' S dS Io dI q1 q2 c0 x t k1 k2 k3 news R) (by assumption) ?_ ?_
  · refine' While_inv2 (JTok w.params T' S dS Io dI q1 q2 c0 x t k1 k2 k3 news R) ?F ?N ?J ?turn
    case F => assumption
    case N => assumption
    case J => exact ⟨st, ts, ln, tl, [], tt, i, tp, false, _, _, rfl, tok_frame rfl rfl rfl, h5, h1, rfl, h3, h4, Nat.zero_le _⟩
    case turn =>
      intro n m₁ nx h9 tk9 F9 N9 hJ
      refine turn_abs (fun s f s₃ => f = Flow.next ∧ TokEnd w.params _ _ s T' S dS Io dI q1 q2 c0 x t k1 k2 k3 news R s₃) ?_
      intro s8 Q8 E8 T8 hQ8
      obtain ⟨st0, ts0, ln0, tl0, tk0, tt0, i0, tp0, qd0, te0, u0, rfl, rfl, hs, hi, rfl, hl0, hl1, htk⟩ := hJ
      clear F N h5 h1 h3 h4
      obtain ⟨f1, f2, f3, f4, f5, f6, f7, f8, f9, f10, f11, f12, f13⟩ := lit_facts
      cases st0 with
      | ws =>
        dsimp only [splitN, lexN, LS.val] at N9
        walk_at "mine steps"
        refine Halt.mk ?_
        rename News _ _ _ _ => N8
        cases hdr : x.cps.toList.drop i0 with
        | nil =>
          obtain ⟨e1, e2⟩ := next_nil hdr
          rw [e1]
          rw [e2] at N8
          rw [hdr] at hs
          obtain rfl := sc_ws_nil hs
          walk_at "mine steps"
          all_goals (
            rename News _ _ _ _ => N8
            refine hQ8 _ _ (tok_brk ⟨0, _, _, _, i0, _, _, _, _, _, rfl, tok_fr (by assumption) rfl rfl rfl, (by first | exact news_front N8 | exact news_front (news_tl N8)), ?_, ?_, ?_, hdr, (by show tk0.length ≤ _; omega)⟩)
            · omega
            · omega
            · omega)
        | cons c r =>
          obtain ⟨e1, e2, e3, e4⟩ := next_cons hdr
          rw [e1]
          rw [e2] at N8
          rw [hdr] at hs
          by_cases c1 : c = 32
          · subst c1
            obtain ⟨rfl, rfl, hs2⟩ := sc_ws_sp hs
            dsimp only [strN] at N8
            rw [one_32]
            walk_at "mine steps"
            all_goals (
              rename News _ _ _ _ => N8
              refine hQ8 _ _ (tok_cont ⟨_, _, _, _, _, rfl, (by assumption), (by first | exact news_front N8 | exact news_front (news_tl N8)), ?_, ⟨.ws, _, _, _, [], _, i0 + 1, _, _, _, _, rfl, tok_frame rfl rfl rfl, ?_, e4, rfl, ?_, ?_, ?_⟩⟩)
              · omega
              · rw [e3]; exact hs2
              · omega
              · omega
              · exact Nat.zero_le _)
          · by_cases c2 : c = 39
            · subst c2
              have hs2 := sc_ws_q hs
              rw [one_39]
              walk_at "mine steps"
              all_goals (
                rename News _ _ _ _ => N8
                refine hQ8 _ _ (tok_next ⟨_, _, _, _, _, rfl, (by assumption), (by first | exact news_front N8 | exact news_front (news_tl N8)), ?_, ⟨.sq, _, _, _, tk0, _, i0 + 1, _, _, _, _, rfl, tok_frame rfl rfl rfl, ?_, e4, rfl, ?_, ?_, ?_⟩⟩)
                · omega
                · rw [e3]; exact hs2
                · omega
                · omega
                · omega)
            · obtain ⟨c3, hs2⟩ := sc_ws_c c1 c2 hs
              obtain ⟨p1, p2, p3, p4, p5⟩ := open_facts c3
              skip
              walk_at "mine steps"
              all_goals (
                rename News _ _ _ _ => N8
                refine hQ8 _ _ (tok_next ⟨_, _, _, _, _, rfl, (by assumption), (by first | exact news_front N8 | exact news_front (news_tl N8)), ?_, ⟨.wd, _, _, _, [c], _, i0 + 1, _, _, _, _, rfl, tok_frame rfl rfl rfl, ?_, e4, rfl, ?_, ?_, ?_⟩⟩)
                · omega
                · rw [e3]; exact hs2
                · omega
                · omega
                · (simp only [List.length_cons, List.length_nil]; omega))
      | wd =>
        dsimp only [splitN, lexN, LS.val] at N9
        walk_at "mine steps"
        refine Halt.mk ?_
        rename News _ _ _ _ => N8
        cases hdr : x.cps.toList.drop i0 with
        | nil =>
          obtain ⟨e1, e2⟩ := next_nil hdr
          rw [e1]
          rw [e2] at N8
          rw [hdr] at hs
          obtain rfl := sc_wd_nil hs
          walk_at "mine steps"
          all_goals (
            rename News _ _ _ _ => N8
            refine hQ8 _ _ (tok_brk ⟨0, _, _, _, i0, _, _, _, _, _, rfl, tok_fr (by assumption) rfl rfl rfl, (by first | exact news_front N8 | exact news_front (news_tl N8)), ?_, ?_, ?_, hdr, (by show tk0.length ≤ _; omega)⟩)
            · omega
            · omega
            · omega)
        | cons c r =>
          obtain ⟨e1, e2, e3, e4⟩ := next_cons hdr
          rw [e1]
          rw [e2] at N8
          rw [hdr] at hs
          by_cases c1 : c = 32
          · subst c1
            obtain ⟨hne, rfl⟩ := sc_wd_sp hs
            rw [one_32]
            by_cases htk0 : tk0 = []
            · subst htk0
              obtain rfl : qd0 = true := by
                cases qd0 with
                | true => rfl
                | false => exact absurd ⟨rfl, rfl⟩ hne
              dsimp only [strN] at N8
              walk_at "mine steps"
              all_goals (
                rename News _ _ _ _ => N8
                refine hQ8 _ _ (tok_brk ⟨_, _, _, _, i0 + 1, _, _, _, _, _, rfl, tok_fr (by assumption) rfl rfl rfl, (by first | exact news_front N8 | exact news_front (news_tl N8)), ?_, ?_, e4, e3, (by first | exact Nat.zero_le _ | (show tk0.length ≤ _; omega))⟩)
                · omega
                · omega)
            · walk_at "mine steps"
              all_goals (
                rename News _ _ _ _ => N8
                refine hQ8 _ _ (tok_brk ⟨_, _, _, _, i0 + 1, _, _, _, _, _, rfl, tok_fr (by assumption) rfl rfl rfl, (by first | exact news_front N8 | exact news_front (news_tl N8)), ?_, ?_, e4, e3, (by first | exact Nat.zero_le _ | (show tk0.length ≤ _; omega))⟩)
                · omega
                · omega)
          · by_cases c2 : c = 39
            · subst c2
              have hs2 := sc_wd_q hs
              rw [one_39]
              walk_at "mine steps"
              all_goals (
                rename News _ _ _ _ => N8
                refine hQ8 _ _ (tok_next ⟨_, _, _, _, _, rfl, (by assumption), (by first | exact news_front N8 | exact news_front (news_tl N8)), ?_, ⟨.sq, _, _, _, tk0, _, i0 + 1, _, _, _, _, rfl, tok_frame rfl rfl rfl, ?_, e4, rfl, ?_, ?_, ?_⟩⟩)
                · omega
                · rw [e3]; exact hs2
                · omega
                · omega
                · omega)
            · by_cases c3 : c = 34
              · subst c3
                have hs2 := sc_wd_d hs
                rw [one_34]
                walk_at "mine steps"
                all_goals (
                  rename News _ _ _ _ => N8
                  refine hQ8 _ _ (tok_next ⟨_, _, _, _, _, rfl, (by assumption), (by first | exact news_front N8 | exact news_front (news_tl N8)), ?_, ⟨.dq, _, _, _, tk0, _, i0 + 1, _, _, _, _, rfl, tok_frame rfl rfl rfl, ?_, e4, rfl, ?_, ?_, ?_⟩⟩)
                  · omega
                  · rw [e3]; exact hs2
                  · omega
                  · omega
                  · omega)
              · obtain ⟨c4, hs2⟩ := sc_wd_c c1 c2 c3 hs
                obtain ⟨p1, p2, p3, p4, p5⟩ := open_facts c4
                skip
                walk_at "mine steps"
                all_goals (
                  rename News _ _ _ _ => N8
                  refine hQ8 _ _ (tok_next ⟨_, _, _, _, _, rfl, (by assumption), (by first | exact news_front N8 | exact news_front (news_tl N8)), ?_, ⟨.wd, _, _, _, (tk0 ++ [c]), _, i0 + 1, _, _, _, _, rfl, tok_frame rfl rfl rfl, ?_, e4, rfl, ?_, ?_, ?_⟩⟩)
                  · omega
                  · rw [e3]; exact hs2
                  · omega
                  · omega
                  · (simp only [List.length_append, List.length_cons, List.length_nil]; omega))
      | sq =>
        dsimp only [splitN, lexN, LS.val] at N9
        walk_at "mine steps"
        refine Halt.mk ?_
        rename News _ _ _ _ => N8
        cases hdr : x.cps.toList.drop i0 with
        | nil =>
          rw [hdr] at hs
          exact (sc_sq_nil hs).elim
        | cons c r =>
          obtain ⟨e1, e2, e3, e4⟩ := next_cons hdr
          rw [e1]
          rw [e2] at N8
          rw [hdr] at hs
          by_cases c2 : c = 39
          · subst c2
            have hs2 := sc_sq_q hs
            rw [one_39]
            walk_at "mine steps"
            all_goals (
              rename News _ _ _ _ => N8
              refine hQ8 _ _ (tok_next ⟨_, _, _, _, _, rfl, (by assumption), (by first | exact news_front N8 | exact news_front (news_tl N8)), ?_, ⟨.wd, _, _, _, tk0, _, i0 + 1, _, _, _, _, rfl, tok_frame rfl rfl rfl, ?_, e4, rfl, ?_, ?_, ?_⟩⟩)
              · omega
              · rw [e3]; exact hs2
              · omega
              · omega
              · omega)
          · have hs2 := sc_sq_c c2 hs
            have p1 := sq_fact c2
            skip
            walk_at "mine steps"
            all_goals (
              rename News _ _ _ _ => N8
              refine hQ8 _ _ (tok_next ⟨_, _, _, _, _, rfl, (by assumption), (by first | exact news_front N8 | exact news_front (news_tl N8)), ?_, ⟨.sq, _, _, _, (tk0 ++ [c]), _, i0 + 1, _, _, _, _, rfl, tok_frame rfl rfl rfl, ?_, e4, rfl, ?_, ?_, ?_⟩⟩)
              · omega
              · rw [e3]; exact hs2
              · omega
              · omega
              · (simp only [List.length_append, List.length_cons, List.length_nil]; omega))
      | dq =>
        dsimp only [splitN, lexN, LS.val] at N9
        walk_at "mine steps"
        refine Halt.mk ?_
        rename News _ _ _ _ => N8
        cases hdr : x.cps.toList.drop i0 with
        | nil =>
          rw [hdr] at hs
          exact (sc_dq_nil hs).elim
        | cons c r =>
          obtain ⟨e1, e2, e3, e4⟩ := next_cons hdr
          rw [e1]
          rw [e2] at N8
          rw [hdr] at hs
          by_cases c2 : c = 34
          · subst c2
            have hs2 := sc_dq_d hs
            rw [one_34]
            walk_at "mine steps"
            all_goals (
              rename News _ _ _ _ => N8
              refine hQ8 _ _ (tok_next ⟨_, _, _, _, _, rfl, (by assumption), (by first | exact news_front N8 | exact news_front (news_tl N8)), ?_, ⟨.wd, _, _, _, tk0, _, i0 + 1, _, _, _, _, rfl, tok_frame rfl rfl rfl, ?_, e4, rfl, ?_, ?_, ?_⟩⟩)
              · omega
              · rw [e3]; exact hs2
              · omega
              · omega
              · omega)
          · by_cases c3 : c = 39
            · subst c3
              have hs2 := sc_dq_q hs
              rw [one_39]
              walk_at "mine steps"
              all_goals (
                rename News _ _ _ _ => N8
                refine hQ8 _ _ (tok_next ⟨_, _, _, _, _, rfl, (by assumption), (by first | exact news_front N8 | exact news_front (news_tl N8)), ?_, ⟨.dq, _, _, _, (tk0 ++ [39]), _, i0 + 1, _, _, _, _, rfl, tok_frame rfl rfl rfl, ?_, e4, rfl, ?_, ?_, ?_⟩⟩)
                · omega
                · rw [e3]; exact hs2
                · omega
                · omega
                · (simp only [List.length_append, List.length_cons, List.length_nil]; omega))
            · exact (sc_dq_c c2 c3 hs).elim
      | dn =>
        dsimp only [splitN, lexN, LS.val] at N9
        walk_at "mine steps"
        refine Halt.mk ?_
        rename News _ _ _ _ => N8
        cases hdr : x.cps.toList.drop i0 with
        | nil =>
          obtain ⟨e1, e2⟩ := next_nil hdr
          rw [e1]
          rw [e2] at N8
          rw [hdr] at hs
          obtain rfl := sc_dn_nil hs
          walk_at "mine steps"
          all_goals (
            rename News _ _ _ _ => N8
            refine hQ8 _ _ (tok_brk ⟨0, _, _, _, i0, _, _, _, _, _, rfl, tok_fr (by assumption) rfl rfl rfl, (by first | exact news_front N8 | exact news_front (news_tl N8)), ?_, ?_, ?_, hdr, (Nat.zero_le _)⟩)
            · omega
            · omega
            · omega)
        | cons c r =>
          rw [hdr] at hs
          exact (sc_dn_c hs).elim
  · intro s₃ hT
    obtain ⟨ts0, ln0, tl0, tt0, i0, tp0, te0, u0, h9, tk9, rfl, F9, N9, hl0, hl1, hi, hdr, htk⟩ := hT
    obtain ⟨Rt, Rq, Rs, Rr⟩ := R
    dsimp only at htk hdr F9
    clear F N h5 h1 h3 h4
    cases Rq with
    | true =>
      dsimp only [splitN, lexN] at N9
      walk_at "mine steps"
      rename News _ _ _ _ => N8
      rw [← (if_neg (fun h => nomatch h.2) : (if Rt = [] ∧ true = false then Value.none else Value.str (strN Rt) tt0) = _)]
      exact ret ts0 ln0 tl0 _ i0 tp0 tt0 _ _ hl0 hl1 hi hdr (by assumption) (by first | exact N8 | exact news_front N8)
    | false =>
      by_cases hRt : Rt = []
      · subst hRt
        dsimp only [splitN, lexN, strN] at N9
        walk_at "mine steps"
        rename News _ _ _ _ => N8
        rw [← (if_pos ⟨rfl, rfl⟩ : (if ([] : List Nat) = [] ∧ false = false then Value.none else Value.str (strN []) tt0) = _)]
        exact ret ts0 ln0 tl0 _ i0 tp0 tt0 _ _ hl0 hl1 hi hdr (by assumption) (by first | exact N8 | exact news_front N8)
      · have p1 : (strN Rt == Str.ofString "") = false := strN_ne hRt
        dsimp only [splitN, lexN] at N9
        walk_at "mine steps"
        rename News _ _ _ _ => N8
        rw [← (if_neg (fun h => hRt h.1) : (if Rt = [] ∧ false = false then Value.none else Value.str (strN Rt) tt0) = _)]
        exact ret ts0 ln0 tl0 _ i0 tp0 tt0 _ _ hl0 hl1 hi hdr (by assumption) (by first | exact N8 | exact news_front N8)
end

-- truth of an empty deque
theorem noBool_deque : typeLookup (.type "collections.deque") "__bool__" = pure none := by rw [typeLookup_type, builtinLookup_eq_fast]; kernel_rfl
theorem slot_deque_len : Slot "collections.deque" "__len__" "collections.deque.__len__" :=
  Slot.of (owner := "collections.deque") (n := "__len__") (by rw [typeLookup_type, builtinLookup_eq_fast]; kernel_rfl) (by decide +kernel) (by decide +kernel) (by decide +kernel) (.inl (by decide +kernel)) (by rw [isSubtype_type]; kernel_rfl)
theorem entry_deque_len : entryFor table "collections.deque.__len__" = some Builtin.«collections.deque.__len__» := entryFor_of_tree (by kernel_rfl)
theorem args_deque_len (a : Value) : argsOk "collections.deque.__len__" ⟨[a], []⟩ := by unfold argsOk; kernel_rfl
section
variable {prog : Program} {w : World} {A : Around} {E : Value → Shared → Prop} {s : Shared}
theorem truthy_deque {q : Addr} {Q : Bool → Shared → Prop} (hq : s.heap.get? q = some dqO) (h : Q false { s with toks := s.toks + 1 + 1 }) : wpAny (model prog w) A (truthy (.ref q)) Q E s := by
  have hT : s.TypeIs (.ref q) "collections.deque" := ⟨_, hq, rfl⟩
  have body : wpAny (model prog w) A.in1 (Builtin.«len» ⟨[.ref q], []⟩) (fun fin s' => ∃ r, fin = .done (.ret r) ∧ (r = .int 0 (s.toks + 1) ∧ Q false s')) E s := by
    unfold Builtin.«len»
    refine wpAny_bind (m := oneArg "len" _) (wpAny_pure ?_)
    refine wpAny_bind (m := callSpecial? (.ref q) (Str.ofString "__len__")) (wpAny_callSpecial?_slot (name := Str.ofString "__len__") hT slot_deque_len
      (wpAny_call_entry slot_deque_len hT entry_deque_len ?_ (args_deque_len _)))
    show wpAny _ _ (do retInt (← Deque.size (.ref q))) _ _ s
    unfold Deque.size
    refine wpAny_bind (wpAny_bind (wpAny_fieldsOf hq rfl (wpAny_pure ?_)))
    refine wpAny_bind (wpAny_mkInt (wpAny_pure ⟨_, rfl, ?_⟩))
    refine wpAny_bind (wpAny_holding (wpAny_pure ?_))
    refine wpAny_bind (wpAny_letGo ?_)
    exact wpAny_bind (wpAny_mkInt (wpAny_pure ⟨_, rfl, rfl, h⟩))
  have key : wpAny (model prog w) A (runValue (.builtin "len" ⟨[.ref q], []⟩)) (fun r s' => r = .int 0 (s.toks + 1) ∧ Q false s') E s := by
    refine wpAny_runValue (codeAny_builtin entry_len ?_)
    rw [Around.under_plainId plain_len _]
    exact wpAny_mono body (fun fin s' h' => by obtain ⟨r, rfl, hq⟩ := h'; exact hq) fun _ _ e => e
  unfold truthy
  first
    | refine wpAny_bind (wpAny_callSpecial?_none (name := Str.ofString "__bool__") hT noBool_deque ?_)
    | refine wpAny_bind (wpAny_pure (wpAny_bind (wpAny_callSpecial?_none (name := Str.ofString "__bool__") hT noBool_deque ?_)))
  first
    | refine wpAny_bind (wpAny_specialOf (name := Str.ofString "__len__") hT slot_deque_len.lookup ?_)
    | refine wpAny_bind (wpAny_pure (wpAny_bind (wpAny_specialOf (name := Str.ofString "__len__") hT slot_deque_len.lookup ?_)))
  first
    | exact wpAny_bind (wpAny_mono key (fun r s' h' => by obtain ⟨rfl, hq⟩ := h'; exact wpAny_pure hq) fun _ _ e => e)
    | exact wpAny_bind (wpAny_pure (wpAny_bind (wpAny_mono key (fun r s' h' => by obtain ⟨rfl, hq⟩ := h'; exact wpAny_pure hq) fun _ _ e => e)))
end

section
set_option maxHeartbeats 4000000 in
theorem rtok_v : ∀ (w : World) (p : Program) (loose : List Str) (mean : ExcName → Option Value) (mg mb : Str → Option Value) (dp un : Nat) (gd : Option (List Code)) (cn : Str) (cs : Scope) (a : Addr) (ccd : Value) (cl : List (Str × Addr)) (outer : List Env) (A₀ : Around) (base h₀ : Heap) (L : Addr) (m : Str → Option Value) (news : List (Addr × Obj)) (s : Shared) (Q E : Value → Shared → Prop) (S dS Io dI q1 q2 : Addr) (T' : LexT) (c0 : Tok) (st : LS) (ts : Tok) (ln : Int) (tl tt : Tok) (x : Str) (t : Tok) (i : Nat) (tp k1 k2 k3 : Tok) (R : List Nat × Bool × LS × List Nat) (v : Tok → Value),
  Below A₀ base outer h₀ → Fr h₀ L s.heap m → (Mine.H.K w.params).In h₀ → News h₀ L s.heap (splitN w.params T' S dS Io dI q1 q2 c0 st ts ln tl [] tt x t i tp k1 k2 k3 news) → Top p loose mean mg mb h₀ → cs.kind = .function → dp + 150 < recursionLimit → un + 1500 < cLine → x.length ≤ 1000 → i ≤ x.length → LexOrd news S dS Io dI q1 q2 → 0 ≤ ln → ln ≤ i + 1 → scan (x.cps.toList.drop i) st [] false = some R → (∀ tr, (if R.1 = [] ∧ R.2.1 = false then Value.none else .str (strN R.1) tr) = v tr) →
  (∀ (ts' : Tok) (ln' : Int) (tl' tt' : Tok) (i' : Nat) (tp' tr : Tok) (h' : Heap) (tk' : Nat), 0 ≤ ln' → ln' ≤ (i' : Int) + 1 → i' ≤ x.length → x.cps.toList.drop i' = R.2.2.2 → Fr h₀ L h' m → News h₀ L h' (splitN w.params T' S dS Io dI q1 q2 c0 R.2.2.1 ts' ln' tl' [] tt' x t i' tp' k1 k2 k3 news) → Q (v tr) {s with heap := h', toks := tk'}) →
  wpAny (model PySem.Challenge.rw_mq0393_01.prog w) (ktrTop dp un gd cn cs L a ccd cl outer) (call (.ref 707) [.ref S]) Q E s := by
  k_fill
  intro w p loose mean mg mb dp un gd cn cs a ccd cl outer A₀ base h₀ L m news s Q E S dS Io dI q1 q2 T' c0 st ts ln tl tt x t i tp k1 k2 k3 R v B F X N T hk hd hu h0 h1 h2 h3 h4 h5 h6 ret
  refine rtok_spec w p loose mean mg mb dp un gd cn cs a ccd cl outer A₀ base h₀ L m news s Q E S dS Io dI q1 q2 T' c0 st ts ln tl tt x t i tp k1 k2 k3 R B F X N T hk hd hu h0 h1 h2 h3 h4 h5 ?_
  intro a1 a2 a3 a4 a5 a6 a7 a8 a9 b1 b2 b3 b4 b5 b6
  rw [h6]
  exact ret a1 a2 a3 a4 a5 a6 a7 a8 a9 b1 b2 b3 b4 b5 b6


local macro_rules | `(tactic| walk_at "call ref") => `(tactic| (k_here; k_dflt (refine wpAny_call ?_; walk_at "mine plain")))



local macro_rules | `(tactic| walk_at "truthy ref") => `(tactic| (k_here; (rename News _ _ _ _ => kN'); (refine truthy_deque (News.get kN' ?km) ?_; (case km => k_mem))))
local macro_rules | `(tactic| walk_at "call ref") => `(tactic| (k_here; (with_reducible show wpAny _ _ (call (Value.ref 707) _) _ _ _); k_dflt (refine' rtok_v _ _ _ _ _ _ _ _ _ _ _ _ _ _ _ _ _ _ _ _ _ _ _ _ _ _ _ _ _ _ _ _ _ _ _ _ _ _ _ _ _ _ _ _ _ _ ?B ?F ?X ?N ?T ?hk ?hd ?hu ?h0 ?h1 ?h2 ?h3 ?h4 ?h5 ?h6 ?_; (case B | F | X | N | T => k_asm); (case hk => rfl); (case hd => ktr_room); (case hu => ktr_units); (case h0 | h1 | h2 | h3 | h4 | h5 | h6 => assumption)); intro ts' ln' tl' tt' i' tp' tr' h' tk' hn1' hn2' hn3' hn4' F' N'; (try dsimp only); (try k_fold)))

set_option maxHeartbeats 4000000 in
theorem gtok_spec : ∀ (w : World) (p : Program) (loose : List Str) (mean : ExcName → Option Value) (mg mb : Str → Option Value) (dp un : Nat) (gd : Option (List Code)) (cn : Str) (cs : Scope) (a : Addr) (ccd : Value) (cl : List (Str × Addr)) (outer : List Env) (A₀ : Around) (base h₀ : Heap) (L : Addr) (m : Str → Option Value) (news : List (Addr × Obj)) (s : Shared) (Q E : Value → Shared → Prop) (S dS Io dI q1 q2 : Addr) (T' : LexT) (c0 : Tok) (st : LS) (ts : Tok) (ln : Int) (tl tt : Tok) (x : Str) (t : Tok) (i : Nat) (tp k1 k2 k3 : Tok) (R : List Nat × Bool × LS × List Nat),
  Below A₀ base outer h₀ → Fr h₀ L s.heap m → (Mine.H.K w.params).In h₀ → News h₀ L s.heap (splitN w.params T' S dS Io dI q1 q2 c0 st ts ln tl [] tt x t i tp k1 k2 k3 news) → Top p loose mean mg mb h₀ → cs.kind = .function → dp + 200 < recursionLimit → un + 2000 < cLine → x.length ≤ 1000 → i ≤ x.length → LexOrd news S dS Io dI q1 q2 → 0 ≤ ln → ln ≤ i + 1 → scan (x.cps.toList.drop i) st [] false = some R →
  (∀ (ts' : Tok) (ln' : Int) (tl' tt' : Tok) (i' : Nat) (tp' tr : Tok) (h' : Heap) (tk' : Nat), 0 ≤ ln' → ln' ≤ (i' : Int) + 1 → i' ≤ x.length → x.cps.toList.drop i' = R.2.2.2 → Fr h₀ L h' m → News h₀ L h' (splitN w.params T' S dS Io dI q1 q2 c0 R.2.2.1 ts' ln' tl' [] tt' x t i' tp' k1 k2 k3 news) → Q (if R.1 = [] ∧ R.2.1 = false then .none else .str (strN R.1) tr) {s with heap := h', toks := tk'}) →
  wpAny (model PySem.Challenge.rw_mq0393_01.prog w) (ktrTop dp un gd cn cs L a ccd cl outer) (call (.ref 700) [.ref S]) Q E s := by
  k_fill
  intro w p loose mean mg mb dp un gd cn cs a ccd cl outer A₀ base h₀ L m news s Q E S dS Io dI q1 q2 T' c0 st ts ln tl tt x t i tp k1 k2 k3 R B F X N T hk hd hu h0 h1 h2 h3 h4 h5 ret
  have o0 := h2.h0
  have o1 := h2.h1
  have o2 := h2.h2
  have o3 := h2.h3
  have o4 := h2.h4
  have o5 := h2.h5
  have n1 : ∀ p ∈ news, p.1 ≠ dS := fun p hp => (o0 p hp).1
  have n2 : ∀ p ∈ news, p.1 ≠ dI := fun p hp => (o0 p hp).2
  k_lt2 o1
  k_lt2 o2
  k_lt2 o3
  k_lt2 o4
  k_lt2 o5
  by_cases hR : R.1 = [] ∧ R.2.1 = false
  · have hv : ∀ tr, (if R.1 = [] ∧ R.2.1 = false then Value.none else .str (strN R.1) tr) = (fun _ => Value.none) tr := fun tr => if_pos hR
    refine wpAny_call ?_
    k_dflt (walk_at "mine plain")
    walk_at "mine steps"
    rename News _ _ _ _ => N8
    rw [← (if_pos hR : (if R.1 = [] ∧ R.2.1 = false then Value.none else Value.str (strN R.1) 0) = _)]
    exact ret _ _ _ _ _ _ _ _ _ (by assumption) (by assumption) (by assumption) (by assumption) (by assumption) N8

  · have hv : ∀ tr, (if R.1 = [] ∧ R.2.1 = false then Value.none else .str (strN R.1) tr) = (fun tr => Value.str (strN R.1) tr) tr := fun tr => if_neg hR
    refine wpAny_call ?_
    k_dflt (walk_at "mine plain")
    walk_at "mine steps"
    rename News _ _ _ _ => N8
    rw [← (if_neg hR : (if R.1 = [] ∧ R.2.1 = false then Value.none else Value.str (strN R.1) _) = _)]
    exact ret _ _ _ _ _ _ _ _ _ (by assumption) (by assumption) (by assumption) (by assumption) (by assumption) N8
end

-- StopIteration out of a callee: the caller's ground behind it
section
variable {A₀ : Around} {base h₀ g h' : Heap} {outer : List Env} {L a e t : Addr} {m : Str → Option Value} {cn : Str} {cs : Scope} {ccd : Value} {vs : List Value} {news : List (Addr × Obj)}
theorem stop_turn (K : Below A₀ base outer h₀) (F : Fr h₀ L g m) (R : RaisedS base g (envOf cn cs L a ccd :: outer) e (.type "StopIteration") t vs news h') (U : g.UpToSlots h') :
    ∃ g', KtsTurn (outer.filterMap (·.frame)) h₀ g' ∧ Fr g' L h' m ∧ News g' L h' news ∧ Below A₀ base outer g' ∧ ∃ o, h'.get? e = some o ∧ o.cls = .type "StopIteration" := by
  obtain ⟨⟨B, hB, hBG, hl, hfl, hnew⟩, htup⟩ := R
  have hL : B.get? L = none := by
    obtain ⟨_, ⟨L', _, hf, hn', _⟩, _⟩ := hfl.2.2.1
    obtain rfl : L = L' := Option.some.inj hf
    exact hn'
  obtain ⟨g', T, F', K'⟩ := kts_ground K F hBG hfl.1 U
  obtain ⟨ob, hob, hobc⟩ := hfl.there
  exact ⟨g', T, F', fun q hq => ⟨hfl.1 _ _ (hl q hq).1, (fun z => by have := (hl q hq).1; rw [z, hL] at this; cases this), T.none_ _ (kts_none F.keep (hl q hq).2.1)⟩, K', ob, hob, hobc⟩
end

section
local macro_rules | `(tactic| walk_at "mine pad") => `(tactic| skip)
set_option maxHeartbeats 4000000 in
theorem gtok_v : ∀ (w : World) (p : Program) (loose : List Str) (mean : ExcName → Option Value) (mg mb : Str → Option Value) (dp un : Nat) (gd : Option (List Code)) (cn : Str) (cs : Scope) (a : Addr) (ccd : Value) (cl : List (Str × Addr)) (outer : List Env) (A₀ : Around) (base h₀ : Heap) (L : Addr) (m : Str → Option Value) (news : List (Addr × Obj)) (s : Shared) (Q E : Value → Shared → Prop) (S dS Io dI q1 q2 : Addr) (T' : LexT) (c0 : Tok) (st : LS) (ts : Tok) (ln : Int) (tl tt : Tok) (x : Str) (t : Tok) (i : Nat) (tp k1 k2 k3 : Tok) (R : List Nat × Bool × LS × List Nat) (v : Tok → Value),
  Below A₀ base outer h₀ → Fr h₀ L s.heap m → (Mine.H.K w.params).In h₀ → News h₀ L s.heap (splitN w.params T' S dS Io dI q1 q2 c0 st ts ln tl [] tt x t i tp k1 k2 k3 news) → Top p loose mean mg mb h₀ → cs.kind = .function → dp + 200 < recursionLimit → un + 2000 < cLine → x.length ≤ 1000 → i ≤ x.length → LexOrd news S dS Io dI q1 q2 → 0 ≤ ln → ln ≤ i + 1 → scan (x.cps.toList.drop i) st [] false = some R → (∀ tr, (if R.1 = [] ∧ R.2.1 = false then Value.none else .str (strN R.1) tr) = v tr) →
  (∀ (ts' : Tok) (ln' : Int) (tl' tt' : Tok) (i' : Nat) (tp' tr : Tok) (h' : Heap) (tk' : Nat), 0 ≤ ln' → ln' ≤ (i' : Int) + 1 → i' ≤ x.length → x.cps.toList.drop i' = R.2.2.2 → Fr h₀ L h' m → News h₀ L h' (splitN w.params T' S dS Io dI q1 q2 c0 R.2.2.1 ts' ln' tl' [] tt' x t i' tp' k1 k2 k3 news) → Q (v tr) {s with heap := h', toks := tk'}) →
  wpAny (model PySem.Challenge.rw_mq0393_01.prog w) (ktrTop dp un gd cn cs L a ccd cl outer) (call (.ref 700) [.ref S]) Q E s := by
  k_fill
  intro w p loose mean mg mb dp un gd cn cs a ccd cl outer A₀ base h₀ L m news s Q E S dS Io dI q1 q2 T' c0 st ts ln tl tt x t i tp k1 k2 k3 R v B F X N T hk hd hu h0 h1 h2 h3 h4 h5 h6 ret
  refine gtok_spec w p loose mean mg mb dp un gd cn cs a ccd cl outer A₀ base h₀ L m news s Q E S dS Io dI q1 q2 T' c0 st ts ln tl tt x t i tp k1 k2 k3 R B F X N T hk hd hu h0 h1 h2 h3 h4 h5 ?_
  intro a1 a2 a3 a4 a5 a6 a7 a8 a9 b1 b2 b3 b4 b5 b6
  rw [h6]
  exact ret a1 a2 a3 a4 a5 a6 a7 a8 a9 b1 b2 b3 b4 b5 b6


local macro_rules | `(tactic| walk_at "call ref") => `(tactic| (k_here; k_dflt (refine wpAny_call ?_; walk_at "mine plain")))



local macro_rules | `(tactic| walk_at "call ref") => `(tactic| (k_here; (with_reducible show wpAny _ _ (call (Value.ref 700) _) _ _ _); k_dflt (refine' gtok_v _ _ _ _ _ _ _ _ _ _ _ _ _ _ _ _ _ _ _ _ _ _ _ _ _ _ _ _ _ _ _ _ _ _ _ _ _ _ _ _ _ _ _ _ _ _ ?B ?F ?X ?N ?T ?hk ?hd ?hu ?h0 ?h1 ?h2 ?h3 ?h4 ?h5 ?h6 ?_; (case B | F | X | N | T => k_asm); (case hk => rfl); (case hd => ktr_room); (case hu => ktr_units); (case h0 | h1 | h2 | h3 | h4 | h5 | h6 => assumption)); intro ts' ln' tl' tt' i' tp' tr' h' tk' hn1' hn2' hn3' hn4' F' N'; (try dsimp only); (try k_fold)))
local macro_rules | `(tactic| walk_at "leaving ref") => `(tactic| (k_here; refine' leave_raiseS ?k1 (Heap.MadeExc.of (by assumption)) ?k2 ?k3 ?_; (case k1 | k2 => assumption); (case k3 => k_asm); k_whole; intro h' t' RS' RK' U'; (try dsimp only at RS' U' ⊢); refine Halt.out ?_))

set_option maxHeartbeats 4000000 in
theorem next_tok : ∀ (w : World) (p : Program) (loose : List Str) (mean : ExcName → Option Value) (mg mb : Str → Option Value) (dp un : Nat) (gd : Option (List Code)) (cn : Str) (cs : Scope) (a : Addr) (ccd : Value) (cl : List (Str × Addr)) (outer : List Env) (A₀ : Around) (base h₀ : Heap) (L : Addr) (m : Str → Option Value) (news : List (Addr × Obj)) (s : Shared) (Q E : Value → Shared → Prop) (S dS Io dI q1 q2 : Addr) (T' : LexT) (c0 : Tok) (st : LS) (ts : Tok) (ln : Int) (tl tt : Tok) (x : Str) (t : Tok) (i : Nat) (tp k1 k2 k3 : Tok) (R : List Nat × Bool × LS × List Nat),
  Below A₀ base outer h₀ → Fr h₀ L s.heap m → (Mine.H.K w.params).In h₀ → News h₀ L s.heap (splitN w.params T' S dS Io dI q1 q2 c0 st ts ln tl [] tt x t i tp k1 k2 k3 news) → Top p loose mean mg mb h₀ → cs.kind = .function → dp + 250 < recursionLimit → un + 2500 < cLine → x.length ≤ 1000 → i ≤ x.length → LexOrd news S dS Io dI q1 q2 → 0 ≤ ln → ln ≤ i + 1 → scan (x.cps.toList.drop i) st [] false = some R → ¬ (R.1 = [] ∧ R.2.1 = false) →
  (∀ (ts' : Tok) (ln' : Int) (tl' tt' : Tok) (i' : Nat) (tp' tr : Tok) (h' : Heap) (tk' : Nat), 0 ≤ ln' → ln' ≤ (i' : Int) + 1 → i' ≤ x.length → x.cps.toList.drop i' = R.2.2.2 → Fr h₀ L h' m → News h₀ L h' (splitN w.params T' S dS Io dI q1 q2 c0 R.2.2.1 ts' ln' tl' [] tt' x t i' tp' k1 k2 k3 news) → Q (.str (strN R.1) tr) {s with heap := h', toks := tk'}) →
  wpAny (model PySem.Challenge.rw_mq0393_01.prog w) (ktrTop dp un gd cn cs L a ccd cl outer) (call (.ref 736) [.ref S]) Q E s := by
  k_fill
  intro w p loose mean mg mb dp un gd cn cs a ccd cl outer A₀ base h₀ L m news s Q E S dS Io dI q1 q2 T' c0 st ts ln tl tt x t i tp k1 k2 k3 R B F X N T hk hd hu h0 h1 h2 h3 h4 h5 h6 ret
  have o0 := h2.h0
  have o1 := h2.h1
  have o2 := h2.h2
  have o3 := h2.h3
  have o4 := h2.h4
  have o5 := h2.h5
  have n1 : ∀ p ∈ news, p.1 ≠ dS := fun p hp => (o0 p hp).1
  have n2 : ∀ p ∈ news, p.1 ≠ dI := fun p hp => (o0 p hp).2
  k_lt2 o1
  k_lt2 o2
  k_lt2 o3
  k_lt2 o4
  k_lt2 o5
  have hv : ∀ tr, (if R.1 = [] ∧ R.2.1 = false then Value.none else .str (strN R.1) tr) = (fun tr => Value.str (strN R.1) tr) tr := fun tr => if_neg h6
  refine wpAny_call ?_
  k_dflt (walk_at "mine plain")
  walk_at "mine steps"
  rename News _ _ _ _ => N8
  exact ret _ _ _ _ _ _ _ _ _ (by assumption) (by assumption) (by assumption) (by assumption) (by assumption) N8


set_option maxHeartbeats 4000000 in
theorem next_stop : ∀ (w : World) (p : Program) (loose : List Str) (mean : ExcName → Option Value) (mg mb : Str → Option Value) (dp un : Nat) (gd : Option (List Code)) (cn : Str) (cs : Scope) (a : Addr) (ccd : Value) (cl : List (Str × Addr)) (outer : List Env) (A₀ : Around) (base h₀ : Heap) (L : Addr) (m : Str → Option Value) (news : List (Addr × Obj)) (s : Shared) (Q E : Value → Shared → Prop) (S dS Io dI q1 q2 : Addr) (T' : LexT) (c0 : Tok) (st : LS) (ts : Tok) (ln : Int) (tl tt : Tok) (x : Str) (t : Tok) (i : Nat) (tp k1 k2 k3 : Tok) (R : List Nat × Bool × LS × List Nat),
  Below A₀ base outer h₀ → Fr h₀ L s.heap m → (Mine.H.K w.params).In h₀ → News h₀ L s.heap (splitN w.params T' S dS Io dI q1 q2 c0 st ts ln tl [] tt x t i tp k1 k2 k3 news) → Top p loose mean mg mb h₀ → cs.kind = .function → dp + 250 < recursionLimit → un + 2500 < cLine → x.length ≤ 1000 → i ≤ x.length → LexOrd news S dS Io dI q1 q2 → 0 ≤ ln → ln ≤ i + 1 → scan (x.cps.toList.drop i) st [] false = some R → (∀ (e : Addr) (g' : Heap) (ts' : Tok) (ln' : Int) (tl' tt' : Tok) (i' : Nat) (tp' : Tok) (h' : Heap) (tk' : Nat), KtsTurn (outer.filterMap (·.frame)) h₀ g' → Fr g' L h' m → News g' L h' (splitN w.params T' S dS Io dI q1 q2 c0 R.2.2.1 ts' ln' tl' [] tt' x t i' tp' k1 k2 k3 news) → Below A₀ base outer g' → (∃ o, h'.get? e = some o ∧ o.cls = .type "StopIteration") → E (.ref e) {s with heap := h', toks := tk'}) → R.1 = [] ∧ R.2.1 = false →
  (True) →
  wpAny (model PySem.Challenge.rw_mq0393_01.prog w) (ktrTop dp un gd cn cs L a ccd [] outer) (call (.ref 736) [.ref S]) Q E s := by
  k_fill
  intro w p loose mean mg mb dp un gd cn cs a ccd cl outer A₀ base h₀ L m news s Q E S dS Io dI q1 q2 T' c0 st ts ln tl tt x t i tp k1 k2 k3 R B F X N T hk hd hu h0 h1 h2 h3 h4 h5 h6 h7 ret
  have o0 := h2.h0
  have o1 := h2.h1
  have o2 := h2.h2
  have o3 := h2.h3
  have o4 := h2.h4
  have o5 := h2.h5
  have n1 : ∀ p ∈ news, p.1 ≠ dS := fun p hp => (o0 p hp).1
  have n2 : ∀ p ∈ news, p.1 ≠ dI := fun p hp => (o0 p hp).2
  k_lt2 o1
  k_lt2 o2
  k_lt2 o3
  k_lt2 o4
  k_lt2 o5
  have hv : ∀ tr, (if R.1 = [] ∧ R.2.1 = false then Value.none else .str (strN R.1) tr) = (fun tr => Value.none) tr := fun tr => if_pos h7
  refine wpAny_call ?_
  k_dflt (walk_at "mine plain")
  walk_at "mine steps"
  refine Halt.mk ?_
  rename RaisedS _ _ _ _ _ _ _ _ _ => RS
  rename Heap.UpToSlots _ _ => U
  obtain ⟨g', T9, F9, N9, B9, hc⟩ := stop_turn B (by assumption) RS U
  exact h6 _ _ _ _ _ _ _ _ _ _ T9 F9 N9 B9 hc
end

inductive Lexes : List Nat → LS → List (List Nat) → Prop
  | stop {l st st' r} : scan l st [] false = some ([], false, st', r) → Lexes l st []
  | tok {l st t q st' r ts} : scan l st [] false = some (t, q, st', r) → ¬ (t = [] ∧ q = false) → Lexes r st' ts → Lexes l st (t :: ts)

-- list(lex)
theorem fi_next (P : Params) : findIn (Mine.H.K P) (.ref 739) "__next__" = some (some (.ref 736)) := by kernel_rfl
theorem fi_iter (P : Params) : findIn (Mine.H.K P) (.ref 739) "__iter__" = some (some (.ref 729)) := by kernel_rfl
theorem fi_len (P : Params) : findIn (Mine.H.K P) (.ref 739) "__len__" = some none := by kernel_rfl
theorem fi_hint (P : Params) : findIn (Mine.H.K P) (.ref 739) "__length_hint__" = some none := by kernel_rfl
theorem fn_next (P : Params) : isFn (Mine.H.K P) (.ref 736) = true := by kernel_rfl
theorem fn_iter (P : Params) : isFn (Mine.H.K P) (.ref 729) = true := by kernel_rfl
theorem sub_stop : isSubtype (.type "StopIteration") (.type "StopIteration") = pure true := by rw [isSubtype_type]; kernel_rfl
theorem news_perm {h₀ h : Heap} {L : Addr} {a b : List (Addr × Obj)} (hp : ∀ p ∈ b, p ∈ a) (N : News h₀ L h a) : News h₀ L h b := fun p hq => N p (hp p hq)
theorem perm_in {d a b c e f g : Addr × Obj} {t : List (Addr × Obj)} : ∀ p ∈ a :: b :: c :: e :: f :: g :: d :: t, p ∈ d :: a :: b :: c :: e :: f :: g :: t := by
  intro p hp
  simp only [List.mem_cons] at hp ⊢
  rcases hp with h | h | h | h | h | h | h | h <;> simp [h]
theorem perm_out {d a b c e f g : Addr × Obj} {t : List (Addr × Obj)} : ∀ p ∈ d :: a :: b :: c :: e :: f :: g :: t, p ∈ a :: b :: c :: e :: f :: g :: d :: t := by
  intro p hp
  simp only [List.mem_cons] at hp ⊢
  rcases hp with h | h | h | h | h | h | h | h <;> simp [h]
theorem perm_drop {d a b c e f g : Addr × Obj} {t : List (Addr × Obj)} : ∀ p ∈ d :: t, p ∈ a :: b :: c :: e :: f :: g :: d :: t := by
  intro p hp
  simp only [List.mem_cons] at hp ⊢
  rcases hp with h | h <;> simp [h]
theorem strVs_push (ts : List (Str × Tok)) (x : Str) (t : Tok) : (strVs ts).toArray.push (.str x t) = (strVs (ts ++ [(x, t)])).toArray := by
  simp [strVs]
section
variable {prog : Program} {w : World} {A : Around} {E : Value → Shared → Prop} {s : Shared} {h₀ : Heap} {L : Addr} {m : Str → Option Value} {news : List (Addr × Obj)}
theorem push_news {D : Addr} {ts : List (Str × Tok)} {c : Nat} {x : Str} {t : Tok} {Q : Unit → Shared → Prop} (F : Fr h₀ L s.heap m) (N : News h₀ L s.heap ((D, listO ts c) :: news)) (hne : ∀ p ∈ news, p.1 ≠ D) (hz : ts.length ≤ 3000)
    (h : ∀ h' c', Fr h₀ L h' m → News h₀ L h' ((D, listO (ts ++ [(x, t)]) c') :: news) → Q () { s with heap := h' }) :
    wpAny (model prog w) A (updateSeq D (·.push (.str x t))) Q E s := by
  have z := N _ (.head _)
  have e := Heap.get?_update_self (Obj.mapSeq (·.push (.str x t))) z.1 rfl
  have hs : Heap.SameBut D s.heap (s.heap.update D (Obj.mapSeq (·.push (.str x t)))) := Heap.SameBut.update ..
  refine wpAny_updateSeq z.1 rfl ?_ (by simp [strVs]; unfold sizeLine; omega) (by simp [strVs]; unfold sizeLine; omega)
  have e2 : ∃ c', (Obj.mapSeq (·.push (.str x t)) (listO ts c)) = listO (ts ++ [(x, t)]) c' := by
    simp only [Obj.mapSeq, listO]
    exact ⟨_, by rw [← strVs_push]⟩
  obtain ⟨c', e2⟩ := e2
  rw [e2] at e
  refine h _ c' (F.change hs z.2.1 z.2.2) ?_
  exact news_set (pre := []) N (fun _ h => nomatch h) hne hs e
end
theorem stop_is {M : Model} {A : Around} {Q : Option Value → Shared → Prop} {E : Value → Shared → Prop} {e : Addr} {s : Shared} (h : ∃ o, s.heap.get? e = some o ∧ o.cls = .type "StopIteration") (hq : Q none s) : OwitStop M A Q E (.ref e) s := by
  unfold OwitStop
  refine wpAny_isInstance (show s.TypeIs (.ref e) "StopIteration" from h) sub_stop ?_
  rw [if_pos rfl]
  exact hq
set_option maxHeartbeats 1000000 in
theorem lex_loop (w : World) (p : Program) (loose : List Str) (mean : ExcName → Option Value) (mg mb : Str → Option Value) (dp un : Nat) (gd : Option (List Code)) (cn : Str) (cs : Scope) (a : Addr) (ccd : Value) (outer : List Env) (A₀ : Around) (base h₀ : Heap) (L : Addr) (m : Str → Option Value) (news : List (Addr × Obj)) (R : Result → Shared → Prop)
    (S dS Io dI q1 q2 : Addr) (T' : LexT) (c0 : Tok) (x : Str) (t k1 k2 k3 : Tok) (D : Addr)
    (B : Below A₀ base outer h₀) (X : (Mine.H.K w.params).In h₀) (T : Top p loose mean mg mb h₀) (hk : cs.kind = .function) (hd : dp + 250 < recursionLimit) (hu : un + 2501 < cLine) (hx : x.length ≤ 1000) (O : LexOrd news S dS Io dI q1 q2) (hD : q2 < D) (hne : ∀ p ∈ news, p.1 ≠ D) :
    ∀ (l : List Nat) (st : LS) (toks : List (List Nat)), Lexes l st toks → ∀ (s : Shared) (ts : Tok) (ln : Int) (tl tt : Tok) (i : Nat) (tp : Tok) (acc : List (Str × Tok)) (c : Nat),
      Fr h₀ L s.heap m → News h₀ L s.heap ((D, listO acc c) :: splitN w.params T' S dS Io dI q1 q2 c0 st ts ln tl [] tt x t i tp k1 k2 k3 news) → i ≤ x.length → 0 ≤ ln → ln ≤ i + 1 → x.cps.toList.drop i = l → acc.length + toks.length ≤ 2000 →
      (∀ g' h' tk' acc' c', KtsTurn (outer.filterMap (·.frame)) h₀ g' → Fr g' L h' m → News g' L h' ((D, listO acc' c') :: news) → Below A₀ base outer g' → acc'.map Prod.fst = acc.map Prod.fst ++ toks.map strN → R (.ok (.ret .none)) { s with heap := h', toks := tk' }) →
      codeAny (model PySem.Challenge.rw_mq0393_01.prog w) (ktrTop dp un gd cn cs L a ccd [] outer) (.builtin "list.extend.loop" ⟨[.ref D, .ref S, .none], []⟩) R s := by
  have o1 := O.h1
  have o2 := O.h2
  have o3 := O.h3
  have o4 := O.h4
  have o5 := O.h5
  have nD : ∀ {a b c d e f : Obj}, ∀ p ∈ (S, a) :: (dS, b) :: (Io, c) :: (dI, d) :: (q1, e) :: (q2, f) :: news, p.1 ≠ D := by
    intro a b c d e f p hp
    simp only [List.mem_cons] at hp
    rcases hp with rfl | rfl | rfl | rfl | rfl | rfl | hp
    · exact Nat.ne_of_lt (Nat.lt_trans o2 (Nat.lt_trans o3 (Nat.lt_trans o4 (Nat.lt_trans o5 hD))))
    · exact Nat.ne_of_lt (Nat.lt_trans o1 (Nat.lt_trans o2 (Nat.lt_trans o3 (Nat.lt_trans o4 (Nat.lt_trans o5 hD)))))
    · exact Nat.ne_of_lt (Nat.lt_trans o4 (Nat.lt_trans o5 hD))
    · exact Nat.ne_of_lt (Nat.lt_trans o3 (Nat.lt_trans o4 (Nat.lt_trans o5 hD)))
    · exact Nat.ne_of_lt (Nat.lt_trans o5 hD)
    · exact Nat.ne_of_lt hD
    · exact hne p hp
  have O' : ∀ o : Obj, LexOrd ((D, o) :: news) S dS Io dI q1 q2 := fun o => ⟨by
    intro p hp
    rcases List.mem_cons.mp hp with rfl | hp
    · exact ⟨Nat.ne_of_gt (Nat.lt_trans o1 (Nat.lt_trans o2 (Nat.lt_trans o3 (Nat.lt_trans o4 (Nat.lt_trans o5 hD))))), Nat.ne_of_gt (Nat.lt_trans o3 (Nat.lt_trans o4 (Nat.lt_trans o5 hD)))⟩
    · exact O.h0 p hp, o1, o2, o3, o4, o5⟩
  intro l st toks hL
  induction hL with
  | @stop l st st' r hsc =>
    intro s ts ln tl tt i tp acc c F N hi hl0 hl1 hdr hlen hR
    refine codeAny_builtin PySem.F.entry_extend_loop ?_
    rw [Around.under_plainId PySem.F.plain_extend_loop _]
    show wpAny _ (ktrTop dp (un + 1) gd cn cs L a ccd [] outer) (pyNext (.ref S) >>= _) _ _ s
    have N2 := news_perm perm_in N
    refine wpAny_bind (owit_next F X (InstAt.of_news N (.tail _ (.head _)) (.tail _ (.tail _ (.head _)))) (fi_next _) (fn_next _) ?_)
    refine next_stop w p loose mean mg mb dp (un + 1) gd cn cs a ccd [] outer A₀ base h₀ L m ((D, listO acc c) :: news) s _ _ S dS Io dI q1 q2 T' c0 st ts ln tl tt x t i tp k1 k2 k3 ([], false, st', r) B F X N2 T hk hd (by omega) hx hi (O' _) hl0 hl1 (by rw [hdr]; exact hsc) ?_ ⟨rfl, rfl⟩ trivial
    intro e g' ts' ln' tl' tt' i' tp' h' tk' T9 F9 N9 B9 hc
    refine stop_is hc ?_
    exact wpAny_pure (hR g' h' tk' acc c T9 F9 (news_perm perm_drop N9) B9 (by simp))
  | @tok l st tk q st' r toks hsc hne' hrest ih =>
    intro s ts ln tl tt i tp acc c F N hi hl0 hl1 hdr hlen hR
    refine codeAny_builtin PySem.F.entry_extend_loop ?_
    rw [Around.under_plainId PySem.F.plain_extend_loop _]
    show wpAny _ (ktrTop dp (un + 1) gd cn cs L a ccd [] outer) (pyNext (.ref S) >>= _) _ _ s
    have N2 := news_perm perm_in N
    refine wpAny_bind (owit_next F X (InstAt.of_news N (.tail _ (.head _)) (.tail _ (.tail _ (.head _)))) (fi_next _) (fn_next _) ?_)
    refine next_tok w p loose mean mg mb dp (un + 1) gd cn cs a ccd [] outer A₀ base h₀ L m ((D, listO acc c) :: news) s _ _ S dS Io dI q1 q2 T' c0 st ts ln tl tt x t i tp k1 k2 k3 (tk, q, st', r) B F X N2 T hk hd (by omega) hx hi (O' _) hl0 hl1 (by rw [hdr]; exact hsc) hne' ?_
    intro ts' ln' tl' tt' i' tp' tr h' tk' b1 b2 b3 b4 F9 N9
    have N10 := news_perm perm_out N9
    show wpAny _ _ (updateSeq D (·.push (.str (strN tk) tr)) >>= _) _ _ _
    refine wpAny_bind (push_news (s := { s with heap := h', toks := tk' }) F9 N10 nD (by simp only [List.length_cons] at hlen; omega) fun h8 c8 F8 N8 => ?_)
    refine wpAny_pure ⟨plainId_quiet PySem.F.plain_extend_loop _, ?_⟩
    refine ih { s with heap := h8, toks := tk' } ts' ln' tl' tt' i' tp' (acc ++ [(strN tk, tr)]) c8 F8 N8 b3 b1 b2 b4 (by simp only [List.length_append, List.length_cons, List.length_nil] at hlen ⊢; omega) ?_
    intro g' h7 tk7 acc' c' T7 F7 N7 B7 he
    exact hR g' h7 tk7 acc' c' T7 F7 N7 B7 (by rw [he]; simp)

set_option maxHeartbeats 4000000 in
theorem iter_spec : ∀ (w : World) (p : Program) (loose : List Str) (mean : ExcName → Option Value) (mg mb : Str → Option Value) (dp un : Nat) (gd : Option (List Code)) (cn : Str) (cs : Scope) (a : Addr) (ccd : Value) (cl : List (Str × Addr)) (outer : List Env) (A₀ : Around) (base h₀ : Heap) (L : Addr) (m : Str → Option Value) (news : List (Addr × Obj)) (s : Shared) (Q E : Value → Shared → Prop) (S : Addr),
  Below A₀ base outer h₀ → Fr h₀ L s.heap m → (Mine.H.K w.params).In h₀ → News h₀ L s.heap (news) → Top p loose mean mg mb h₀ → cs.kind = .function → dp + 20 < recursionLimit → un + 200 < cLine →
  (∀ v h' tk', v = .ref S → Fr h₀ L h' m → News h₀ L h' news → Q v {s with heap := h', toks := tk'}) →
  wpAny (model PySem.Challenge.rw_mq0393_01.prog w) (ktrTop dp un gd cn cs L a ccd cl outer) (call (.ref 729) [.ref S]) Q E s := by
  k_fill
  intro w p loose mean mg mb dp un gd cn cs a ccd cl outer A₀ base h₀ L m news s Q E S B F X N T hk hd hu  ret
  refine wpAny_call ?_
  k_dflt (walk_at "mine plain")
  walk_at "mine steps"
  exact ret _ _ _ rfl (by assumption) (by assumption)


-- list(lex): the call
section
variable {prog : Program} {w : World} {A : Around} {E : Value → Shared → Prop} {s : Shared} {h₀ : Heap} {L : Addr} {m : Str → Option Value} {news : List (Addr × Obj)}
theorem set_news {D : Addr} {xs ys : Array Value} {c : Nat} {f : Array Value → Array Value} {Q : Unit → Shared → Prop} (F : Fr h₀ L s.heap m) (N : News h₀ L s.heap ((D, { cls := .type "list", data := .seq xs c }) :: news)) (hne : ∀ p ∈ news, p.1 ≠ D) (hf : f xs = ys) (hx : xs.size ≤ 1) (hy : ys.size ≤ 1)
    (h : ∀ h' c', Fr h₀ L h' m → News h₀ L h' ((D, { cls := .type "list", data := .seq ys c' }) :: news) → Q () { s with heap := h' }) :
    wpAny (model prog w) A (updateSeq D f) Q E s := by
  have z := N _ (.head _)
  have e := Heap.get?_update_self (Obj.mapSeq f) z.1 rfl
  have hs : Heap.SameBut D s.heap (s.heap.update D (Obj.mapSeq f)) := Heap.SameBut.update ..
  refine wpAny_updateSeq z.1 rfl ?_ (by unfold sizeLine; omega) (by rw [hf]; unfold sizeLine; omega)
  have e2 : ∃ c', (Obj.mapSeq f { cls := .type "list", data := .seq xs c }) = { cls := .type "list", data := .seq ys c' } := by
    simp only [Obj.mapSeq]
    exact ⟨_, by rw [← hf]⟩
  obtain ⟨c', e2⟩ := e2
  rw [e2] at e
  refine h _ c' (F.change hs z.2.1 z.2.2) ?_
  exact news_set (pre := []) N (fun _ h => nomatch h) hne hs e
end
set_option maxHeartbeats 1000000 in
theorem list_lex (w : World) (p : Program) (loose : List Str) (mean : ExcName → Option Value) (mg mb : Str → Option Value) (dp un : Nat) (gd : Option (List Code)) (cn : Str) (cs : Scope) (a : Addr) (ccd : Value) (outer : List Env) (A₀ : Around) (base h₀ : Heap) (L : Addr) (m : Str → Option Value) (news : List (Addr × Obj)) (s : Shared) (Q E : Value → Shared → Prop)
    (S dS Io dI q1 q2 : Addr) (T' : LexT) (c0 : Tok) (st : LS) (ts : Tok) (ln : Int) (tl tt : Tok) (x : Str) (t : Tok) (i : Nat) (tp k1 k2 k3 : Tok) (toks : List (List Nat))
    (B : Below A₀ base outer h₀) (F : Fr h₀ L s.heap m) (X : (Mine.H.K w.params).In h₀) (N : News h₀ L s.heap (splitN w.params T' S dS Io dI q1 q2 c0 st ts ln tl [] tt x t i tp k1 k2 k3 news)) (T : Top p loose mean mg mb h₀) (hk : cs.kind = .function) (hd : dp + 300 < recursionLimit) (hu : un + 2600 < cLine) (hx : x.length ≤ 1000) (hi : i ≤ x.length) (O : LexOrd news S dS Io dI q1 q2)
    (hl0 : 0 ≤ ln) (hl1 : ln ≤ i + 1) (hL : Lexes (x.cps.toList.drop i) st toks) (hlen : toks.length ≤ 1000)
    (ret : ∀ g' h' tk' D acc' c', KtsTurn (outer.filterMap (·.frame)) h₀ g' → Fr g' L h' m → News g' L h' ((D, listO acc' c') :: news) → Below A₀ base outer g' → acc'.map Prod.fst = toks.map strN → Q (.ref D) { s with heap := h', toks := tk' }) :
    wpAny (model PySem.Challenge.rw_mq0393_01.prog w) (ktrTop dp un gd cn cs L a ccd [] outer) (call (.type "list") [.ref S]) Q E s := by
  have hDall : ∀ p ∈ splitN w.params T' S dS Io dI q1 q2 c0 st ts ln tl [] tt x t i tp k1 k2 k3 news, p.1 ≠ s.heap.objs.size := fun p hp => Nat.ne_of_lt (Heap.lt_size (N p hp).1)
  have hq2 : q2 < s.heap.objs.size := Heap.lt_size (N (q2, dqO) (by simp)).1
  have hSD : S ≠ s.heap.objs.size := hDall (S, _) (.head _)
  have hnD : ∀ p ∈ news, p.1 ≠ s.heap.objs.size := fun p hp => hDall p (.tail _ (.tail _ (.tail _ (.tail _ (.tail _ (.tail _ hp))))))
  refine callType_codes (Q₁ := fun obj s₁ => obj = .ref s.heap.objs.size ∧ s₁ = { s with heap := s.heap.push { cls := .type "list", data := .seq #[] } }) PySem.F.called_list (PySem.F.typeCall_list_1 _) PySem.F.entry_list_init
    (code_list_new _ ⟨rfl, rfl⟩) fun obj s₁ h₁ => ?_
  obtain ⟨rfl, rfl⟩ := h₁
  have hS : (s.heap.push { cls := .type "list", data := .seq #[] }).get? s.heap.objs.size = some { cls := .type "list", data := .seq #[] } := Heap.get?_push_size _ rfl
  have N1 := N.push F { cls := .type "list", data := .seq #[] }
  have F1 := F.push { cls := .type "list", data := .seq #[] }
  refine ⟨⟨_, hS, rfl⟩, PySem.F.args_list_init_2 _ _, ?_⟩
  show wpAny _ (ktrTop dp (un + 2) gd cn cs L a ccd [] outer) (do let old ← Builtin.List.listItems (.ref s.heap.objs.size); Builtin.List.listUpdate (.ref s.heap.objs.size) (fun _ => #[]); letGo old.toList.reverse; Builtin.List.listExtendWith (.ref s.heap.objs.size) (.ref S) .none) _ _ _
  refine wpAny_bind ?_
  unfold Builtin.List.listItems
  refine wpAny_bind (wpAny_seqItems hS rfl (wpAny_pure ?_))
  show wpAny _ _ (updateSeq s.heap.objs.size (fun _ => #[]) >>= fun _ => letGo (#[] : Array Value).toList.reverse >>= fun _ => Builtin.List.listExtendWith (.ref s.heap.objs.size) (.ref S) .none) _ _ _
  refine wpAny_bind (set_news (s := { s with heap := s.heap.push { cls := .type "list", data := .seq #[] } }) F1 N1 hDall (ys := #[]) rfl (by simp) (by simp) fun h2 c2 F2 N2 => ?_)
  refine wpAny_bind (wpAny_letGo ?_)
  have I2 := InstAt.of_news N2 (.tail _ (.head _)) (.tail _ (.tail _ (.head _)))
  unfold Builtin.List.listExtendWith
  refine wpAny_bind (I2.type.here ?_)
  have h1 : Builtin.List.listSameRef (.ref s.heap.objs.size) (.ref S) = false := by simp [Builtin.List.listSameRef, Ne.symm hSD]
  have e2 : (Value.ref 739 == Value.type "list") = false := by decide
  have e3 : (Value.ref 739 == Value.type "tuple") = false := by decide
  simp only [h1, e2, e3, Bool.or_false, Bool.false_eq_true, if_false]
  refine wpAny_bind (owit_iter F2 X I2 (fi_iter _) (fn_iter _) ?_)
  refine iter_spec w p loose mean mg mb dp (un + 2) gd cn cs a ccd [] outer A₀ base h₀ L m _ _ _ _ S B F2 X N2 T hk (by omega) (by omega) ?_
  intro v h3 tk3 hv F3 N3
  subst hv
  have I3 := InstAt.of_news N3 (.tail _ (.head _)) (.tail _ (.tail _ (.head _)))
  refine owit_it F3 X I3 (fi_next _) ?_
  refine wpAny_bind (wpAny_holding ?_)
  have X3 := X.keeps F3.keep
  unfold Builtin.List.listLengthHint
  refine wpAny_bind (wpAny_bind (I3.type.here ((looks_findIn X3 (fi_len _)).here ?_)))
  show wpAny _ _ (specialOf (Value.ref S) (Str.ofString "__length_hint__") >>= _) _ _ _
  refine wpAny_bind (wpAny_bind (I3.type.here ((looks_findIn X3 (fi_hint _)).here ?_)))
  refine wpAny_pure ?_
  show wpAny _ _ (rule "list.extend.makes-room" >>= fun _ => Builtin.List.listTouch (.ref s.heap.objs.size) >>= fun _ =>
    again (.builtin "list.extend.loop" ⟨[.ref s.heap.objs.size, .ref S, .none], []⟩)) _ _ _
  refine wpAny_bind (wpAny_rule ?_)
  refine wpAny_bind ?_
  show wpAny _ _ (updateSeq s.heap.objs.size (·.push .none) >>= fun _ => updateSeq s.heap.objs.size (·.pop)) _ _ _
  refine wpAny_bind (set_news (s := { s with heap := h3, toks := tk3 }) F3 N3 hDall (ys := #[.none]) rfl (by simp) (by simp) fun h4 c4 F4 N4 => ?_)
  refine set_news (s := { s with heap := h4, toks := tk3 }) F4 N4 hDall (ys := #[]) rfl (by simp) (by simp) fun h5 c5 F5 N5 => ?_
  refine wpAny_pure ⟨plainId_quiet PySem.F.plain_extend_loop _, ?_⟩
  refine lex_loop w p loose mean mg mb dp (un + 1) gd cn cs a ccd outer A₀ base h₀ L m news _ S dS Io dI q1 q2 T' c0 x t k1 k2 k3 s.heap.objs.size B X T hk (by omega) (by omega) hx O hq2 hnD _ st toks hL { s with heap := h5, toks := tk3 } ts ln tl tt i tp [] c5 F5 N5 hi hl0 hl1 rfl (by simp only [List.length_nil]; omega) ?_
  intro g' h' tk' acc' c' T9 F9 N9 B9 he
  exact ⟨rfl, ret g' h' tk' _ acc' c' T9 F9 N9 B9 (by simpa using he)⟩

section
theorem mk_lexord {news : List (Addr × Obj)} {S dS X dX q1 q2 : Addr} (h0 : ∀ p ∈ news, p.1 < dS) (h1 : dS < S) (h2 : S < dX) (h3 : dX < X) (h4 : X < q1) (h5 : q1 < q2) : LexOrd news S dS X dX q1 q2 :=
  ⟨fun p hp => ⟨Nat.ne_of_lt (h0 p hp), Nat.ne_of_lt (Nat.lt_trans (h0 p hp) (Nat.lt_trans h1 h2))⟩, h1, h2, h3, h4, h5⟩
theorem LexOrd.nd {news : List (Addr × Obj)} {S dS X dX q1 q2 : Addr} (h : LexOrd news S dS X dX q1 q2) : ∀ p ∈ news, p.1 ≠ dS := fun p hp => (h.h0 p hp).1




local macro_rules | `(tactic| walk_at "mine turn") => `(tactic| (refine' code_defS0 ?k1 ?k2 ?k3 ?k4 ?k5 ?kA ?k6 ?k7 ?k8 ?k9 ?kB ?_ ?kK ?c2 ?c3 ?c4 ?c5; (case kA => exact rfl); (case kK => first | assumption | exact rfl); (case k1 | k2 | k3 | k4 | k5 => k_asm); (case k6 | k7 => k_is); (case k8 => ktr_room); (case k9 => first | exact BindsTo.of_eq rfl | exact binds_K (by k_in) rfl (by k_is) rfl rfl rfl); (case c5 => decide); (case kB => exact locs rfl); (case c2 | c3 | c4 => exact rfl); k_whole; intro g' L' h' FG' F' N' B' X' T' D'; (try dsimp only); (try k_lift B'); (try k_fold)))
local macro_rules | `(tactic| walk_at "call ref") => `(tactic| (k_here; (with_reducible show wpAny _ _ (call (Value.ref 739) _ _) _ _ _); k_dflt (refine' lex_spec _ _ _ _ _ _ _ _ _ _ _ _ _ _ _ _ _ _ _ _ _ _ _ _ _ _ ?B ?F ?X ?N ?T ?hk ?hd ?hu ?h0 ?_; (case B | F | X | N | T => k_asm); (case hk => rfl); (case hd => ktr_room); (case hu => ktr_units); (case h0 => assumption)); intro S' dS' Io' dI' q1' q2' T9' c0' c1' c2' c3' tp' k1' k2' k3' h' tk' l0' l1' l2' l3' l4' l5' F' N'; (have lex0' := mk_lexord l0' l1' l2' l3' l4' l5'); (k_lt2 l1'); (k_lt2 l2'); (k_lt2 l3'); (k_lt2 l4'); (k_lt2 l5'); (have nd' := LexOrd.nd lex0'); (try dsimp only); (try k_fold)))
local macro_rules | `(tactic| walk_at "call type:list") => `(tactic| (k_here; refine Halt.out ?_))

set_option maxHeartbeats 4000000 in
theorem split_spec : ∀ (w : World) (p : Program) (loose : List Str) (mean : ExcName → Option Value) (mg mb : Str → Option Value) (dp un : Nat) (gd : Option (List Code)) (cn : Str) (cs : Scope) (a : Addr) (ccd : Value) (cl : List (Str × Addr)) (outer : List Env) (A₀ : Around) (base h₀ : Heap) (L : Addr) (m : Str → Option Value) (news : List (Addr × Obj)) (s : Shared) (Q E : Value → Shared → Prop) (x : Str) (t : Tok) (toks : List (List Nat)),
  Below A₀ base [] h₀ → Fr h₀ L s.heap m → (Mine.H.K w.params).In h₀ → News h₀ L s.heap (news) → Top p loose mean mg mb h₀ → cs.kind = .function → dp + 400 < recursionLimit → un + 4000 < cLine → x.length ≤ 1000 → Lexes x.cps.toList .ws toks → toks.length ≤ 1000 →
  (∀ D acc c h' tk', acc.map Prod.fst = toks.map strN → Fr h₀ L h' m → News h₀ L h' ((D, listO acc c) :: news) → Q (.ref D) {s with heap := h', toks := tk'}) →
  wpAny (model PySem.Challenge.rw_mq0393_01.prog w) (ktrTop dp un gd cn cs L a ccd [] []) (call (.ref 751) [.str x t]) Q E s := by
  k_fill
  intro w p loose mean mg mb dp un gd cn cs a ccd cl outer A₀ base h₀ L m news s Q E x t toks B F X N T hk hd hu h0 h1 h2 ret
  refine wpAny_call ?_
  k_dflt (walk_at "mine turn")
  walk_at "mine steps"
  refine Halt.mk ?_
  rename News _ _ _ _ => N8
  rename LexOrd _ _ _ _ _ _ _ => O8
  rename Fr _ _ _ _ => F8
  rename KtsDicts _ _ => D8
  rename Top _ _ _ _ _ _ => T8
  rename Frag.In _ _ => X8
  k_dflt (refine' list_lex w p loose mean mg mb _ _ gd _ _ _ _ _ _ _ _ _ _ news _ _ _ _ _ _ _ _ _ _ _ .ws _ _ _ _ x t 0 _ _ _ _ toks ?B F8 X8 N8 T8 rfl ?hd ?hu h0 (Nat.zero_le _) O8 (by decide) (by decide) h1 h2 ?_)
  case B => k_asm
  case hd => ktr_room
  case hu => ktr_units
  intro g9 h9 tk9 D9 acc c9 T9 F9 N9 B9 he
  walk_at "mine steps"
  exact ret _ _ _ _ _ he (by assumption) (by assumption)
end

-- own comprehension rules: any target, one clause, tests
noncomputable def KeptBut (mu : List Addr) (h h' : Heap) : Prop := ∀ b o, b ∉ mu → h.get? b = some o → h'.get? b = some o
theorem KeptBut.refl (mu : List Addr) (h : Heap) : KeptBut mu h h := fun _ _ _ e => e
theorem KeptBut.trans {mu : List Addr} {h h' h'' : Heap} (x : KeptBut mu h h') (y : KeptBut mu h' h'') : KeptBut mu h h'' := fun b o hb e => y b o hb (x b o hb e)
theorem KeptBut.mono {mu mu' : List Addr} {h h' : Heap} (x : KeptBut mu h h') (k : ∀ b ∈ mu, b ∈ mu') : KeptBut mu' h h' := fun b o hb e => x b o (fun q => hb (k b q)) e
noncomputable abbrev testsOf (ifs : List Expr) (env : Env) : Sem Bool := forIn ifs true fun c r => if r = true then do let ok ← isTrue c env (eval c env); pure (ForInStep.yield ok) else pure (ForInStep.yield r)
section
variable {prog : Program} {w : World} {A : Around} {E : Value → Shared → Prop} {R : Result → Shared → Prop} {s : Shared}
theorem loop_gen {elt target iter : Expr} {ifs : List Expr} {scope : Scope} {pos : Pos} {it acc : Value} {env : Env} (I : Nat → Shared → Prop)
    (turn : ∀ n s, I n s → wpAny (model prog w) A (pyNext it) (fun r s₁ => match r with
      | none => R (.ok .next) s₁
      | some v => wpAny (model prog w) A (letOwnedTupleGo target it v) (fun _ s₁' => wpAny (model prog w) A (assign target env v) (fun _ s₂ =>
          wpAny (model prog w) A (testsOf ifs env) (fun ok s₃ =>
            if ok = true then wpAny (model prog w) A (eval elt env) (fun x s₄ =>
              wpAny (model prog w) A (call (.builtin "list.append") [acc, x]) (fun _ s₅ => ∃ m, m < n ∧ I m s₅) (notedBy (model prog w) A env fun e s' => R (.error e) s') s₄) (notedBy (model prog w) A env fun e s' => R (.error e) s') s₃
            else ∃ m, m < n ∧ I m s₃) (notedBy (model prog w) A env fun e s' => R (.error e) s') s₂) (notedBy (model prog w) A env fun e s' => R (.error e) s') s₁') (notedBy (model prog w) A env fun e s' => R (.error e) s') s₁) (notedBy (model prog w) A env fun e s' => R (.error e) s') s)
    (n : Nat) (h : I n s) : codeAny (model prog w) A (.compLoop (.ListComp elt [⟨target, iter, ifs, 0⟩] scope pos) 0 it acc env) R s := by
  refine codeAny_loop rfl I (fun n s hI => ?_) n h
  show wpAny _ A ((compTurn (.ListComp elt [⟨target, iter, ifs, 0⟩] scope pos) 0 it acc env).onRaise (fun x => do noteFrame x env; theTreesLotGoes x)) _ _ s
  refine wpAny_noted ?_
  rw [compTurn_list]
  refine wpAny_bind (wpAny_standAt (wpAny_bind (wpAny_mono (turn n s hI) (fun r s₁ h₁ => ?_) fun _ _ h' => h')))
  cases r with
  | none => exact wpAny_pure h₁
  | some v =>
    refine wpAny_bind (wpAny_mono h₁ (fun _ s₁' h₁' => ?_) fun _ _ h' => h')
    refine wpAny_bind (wpAny_mono h₁' (fun _ s₂ h₂ => wpAny_bind (wpAny_mono h₂ (fun ok s₃ h₃ => ?_) fun _ _ h' => h')) fun _ _ h' => h')
    cases ok with
    | false => exact wpAny_pure ⟨rfl, h₃⟩
    | true =>
      exact wpAny_bind (wpAny_bind (wpAny_mono h₃ (fun x s₄ h₄ => wpAny_bind (wpAny_mono h₄ (fun _ s₅ h₅ => wpAny_pure (wpAny_pure ⟨rfl, h₅⟩)) fun _ _ h' => h')) fun _ _ h' => h'))
theorem comp_loop_gen {elt target iter : Expr} {ifs : List Expr} {scope : Scope} {pos : Pos} {I D : Addr} {fp wr : List Addr} {n : Nat} {P : Nat → Value → Prop} {St : Nat → Heap → Prop} {cenv : Env}
    (W : Walks prog w A I fp wr n P St) (mu : List Addr) (Ok : Heap → Prop) (Bd : Nat → Heap → Prop) (p : Nat → Bool) (F : Nat → Value → Prop)
    (hOk : ∀ h h', Ok h → (∀ b ∈ mu, ∀ o, h.get? b = some o → h'.get? b = some o) → Ok h')
    (hBd : ∀ i h h', Bd i h → (∀ b ∈ mu, ∀ o, h.get? b = some o → h'.get? b = some o) → Bd i h') (hBO : ∀ i h, Bd i h → Ok h)
    (hDm : D ∉ mu) (hDf : D ∉ fp) (hmf : ∀ b ∈ mu, b ∉ fp) (hst : St 0 s.heap) (hacc : s.heap.PlainList D #[]) (hok : Ok s.heap)
    (hasg : ∀ i v s₂ (Q : Shared → Prop) E', P i v → i < n → St (i + 1) s₂.heap → Ok s₂.heap → KeptBut (D :: (mu ++ wr)) s.heap s₂.heap → (∀ h' tk, Bd i h' → KeptBut mu s₂.heap h' → Q { s₂ with heap := h', toks := tk }) →
      wpAny (model prog w) A (letOwnedTupleGo target (.ref I) v) (fun _ s₃ => wpAny (model prog w) A (assign target cenv v) (fun _ s₄ => Q s₄) E' s₃) E' s₂)
    (htests : ∀ i s₂ E', i < n → Bd i s₂.heap → KeptBut (D :: (mu ++ wr)) s.heap s₂.heap → wpAny (model prog w) A (testsOf ifs cenv) (fun ok s₃ => ok = p i ∧ Keeps s₂ s₃) E' s₂)
    (helt : ∀ i s₂ E', i < n → p i = true → Bd i s₂.heap → KeptBut (D :: (mu ++ wr)) s.heap s₂.heap → wpAny (model prog w) A (eval elt cenv) (fun y s₃ => F i y ∧ Keeps s₂ s₃) E' s₂)
    (hR : ∀ h' tk ys, Ok h' → h'.PlainList D ys → Paired F ((List.range n).filter p) ys.toList → KeptBut (D :: (mu ++ wr)) s.heap h' → R (.ok .next) { s with heap := h', toks := tk })
    (hsz : n ≤ sizeLine := by size_fits) :
    codeAny (model prog w) A (.compLoop (.ListComp elt [⟨target, iter, ifs, 0⟩] scope pos) 0 (.ref I) (.ref D) cenv) R s := by
  have mw : ∀ b ∈ mu, b ∉ wr := fun b hb q => hmf b hb (W.sub _ q)
  have hDw : D ∉ wr := fun q => hDf (W.sub _ q)
  refine loop_gen (fun k s' => ∃ h' tk ys j, s' = { s with heap := h', toks := tk } ∧ St j h' ∧ h'.PlainList D ys ∧ Ok h' ∧ Paired F ((List.range j).filter p) ys.toList ∧ j ≤ n ∧ k = n + 1 - j ∧ KeptBut (D :: (mu ++ wr)) s.heap h') ?_ (n + 1)
    ⟨s.heap, s.toks, #[], 0, rfl, hst, hacc, hok, by simpa using Paired.nil, Nat.zero_le _, rfl, KeptBut.refl _ _⟩
  rintro k s' ⟨H, tk, ys, j, rfl, hst', hacc', hok', hF, hj, rfl, hk⟩
  by_cases hlt : j < n
  · refine W.item j _ _ _ hlt hst' fun v h₁ tk₁ hPv hst₁ hk₁ => ?_
    have k1 : KeptBut (D :: (mu ++ wr)) H h₁ := fun b o hb e => hk₁ b o (fun q => hb (by simp [q])) e
    have ok1 : Ok h₁ := hOk _ _ hok' fun b hb o e => hk₁ b o (mw b hb) e
    refine hasg j v { s with heap := h₁, toks := tk₁ } _ _ hPv hlt hst₁ ok1 (hk.trans k1) fun h₂ tk₂ hb₂ hk₂ => ?_
    have k2 : KeptBut (D :: (mu ++ wr)) s.heap h₂ := (hk.trans k1).trans (hk₂.mono fun b hb => by simp [hb])
    have st2 : St (j + 1) h₂ := W.frame _ _ _ hst₁ fun b hb o e => hk₂ b o (fun q => hmf b q hb) e
    refine wpAny_mono (htests j { s with heap := h₂, toks := tk₂ } _ hlt hb₂ k2) (fun ok s₃ h₃ => ?_) fun _ _ e => e
    obtain ⟨rfl, h₃, tk₃, rfl, hk₃⟩ := h₃
    have k3 : KeptBut (D :: (mu ++ wr)) s.heap h₃ := fun b o hb e => hk₃ b o (k2 b o hb e)
    have st3 : St (j + 1) h₃ := W.frame _ _ _ st2 fun b _ o e => hk₃ b o e
    have bd3 : Bd j h₃ := hBd _ _ _ hb₂ fun b _ o e => hk₃ b o e
    have acc3 : h₃.PlainList D ys := hacc'.at fun o e => hk₃ _ o (hk₂ D o hDm (hk₁ D o hDw e))
    cases hpv : p j with
    | false =>
      simp only [Bool.false_eq_true, if_false]
      refine ⟨n + 1 - (j + 1), by omega, h₃, tk₃, ys, j + 1, rfl, st3, acc3, hBO _ _ bd3, ?_, hlt, rfl, k3⟩
      rw [List.range_succ, List.filter_append]; simpa [hpv] using hF
    | true =>
      simp only [if_true]
      refine wpAny_mono (helt j { s with heap := h₃, toks := tk₃ } _ hlt hpv bd3 k3) (fun y s₄ h₄ => ?_) fun _ _ e => e
      obtain ⟨hFy, h₄, tk₄, rfl, hk₄⟩ := h₄
      have hys : ys.size ≤ sizeLine := by
        have e1 := hF.length
        have e2 := List.length_filter_le p (List.range j)
        have e3 : ys.toList.length = ys.size := by simp
        rw [List.length_range] at e2
        omega
      refine wpAny_list_append_plain (hsz := hys) (acc3.at fun o e => hk₄ _ o e) fun h₅ hl₅ hs₅ => ?_
      refine ⟨n + 1 - (j + 1), by omega, h₅, tk₄, ys.push y, j + 1, rfl, ?_, hl₅, ?_, ?_, hlt, rfl, fun b o hb e => hs₅.extBut b o (fun q => hb (by simp [q])) (hk₄ b o (k3 b o hb e))⟩
      · exact W.frame _ _ h₅ st3 fun b hb o e => hs₅.extBut b o (fun h => hDf (h ▸ hb)) (hk₄ b o e)
      · exact hBO _ _ (hBd _ _ _ bd3 fun b hb o e => hs₅.extBut b o (fun h => hDm (h ▸ hb)) (hk₄ b o e))
      · rw [List.range_succ, List.filter_append]; simpa [hpv] using Paired.snoc hF hFy
  · have hin : j = n := by omega
    subst hin
    refine W.done _ _ _ hst' fun h₁ tk₁ hk₁ => ?_
    refine hR h₁ tk₁ ys (hOk _ _ hok' fun b hb o e => hk₁ b o (mw b hb) e) (hacc'.at fun o e => hk₁ _ o hDw e) hF fun b o hb e => hk₁ b o (fun q => hb (by simp [q])) (hk b o hb e)
end

section
variable {prog : Program} {w : World} {A : Around} {E : Value → Shared → Prop} {s : Shared} {env : Env}
/-- a comprehension whose target's names are plain locals -/
theorem comp_list_gen {elt target iter : Expr} {ifs : List Expr} {scope : Scope} {cl : List (Str × Addr)} {pos : Pos} {Q : Value → Shared → Prop}
    (hclos : closureFor scope env = pure cl) (hcell : ∀ y ∈ scope.names, y.2 ≠ .cell) (hkind : scope.kind = .function) (hnames : ∀ y ∈ scope.names, y.2 = .local → scope.names.lookup y.1 = some .local)
    (h : wpAny (model prog w) A (eval iter env) (fun xv s₁ => wpAny (model prog w) A (pyIter xv) (fun it s₂ => ∃ I fp wr n P St p F, ∃ Bm : Nat → (Str → Option Value) → Prop, it = .ref I ∧ Walks prog w A I fp wr n P St ∧ n ≤ sizeLine ∧ St 0 s₂.heap ∧ (∀ b ∈ fp, b < s₂.heap.objs.size) ∧
      (∀ C i v s₃ m₃ (Q' : Shared → Prop) E', s₂.heap.objs.size ≤ C → P i v → i < n → St (i + 1) s₃.heap → s₃.heap.Ns C m₃ → KeptBut wr s₂.heap s₃.heap → (∀ h' tk m', h'.Ns C m' → Bm i m' → KeptBut [C] s₃.heap h' → Q' { s₃ with heap := h', toks := tk }) →
        wpAny (model prog w) A (letOwnedTupleGo target (.ref I) v) (fun _ s₄ => wpAny (model prog w) A (assign target (compEnvC scope cl C env) v) (fun _ s₅ => Q' s₅) E' s₄) E' s₃) ∧
      (∀ C i s₃ m₃ E', s₂.heap.objs.size ≤ C → i < n → s₃.heap.Ns C m₃ → Bm i m₃ → KeptBut wr s₂.heap s₃.heap → wpAny (model prog w) A (testsOf ifs (compEnvC scope cl C env)) (fun ok s₄ => ok = p i ∧ Keeps s₃ s₄) E' s₃) ∧
      (∀ C i s₃ m₃ E', s₂.heap.objs.size ≤ C → i < n → p i = true → s₃.heap.Ns C m₃ → Bm i m₃ → KeptBut wr s₂.heap s₃.heap → wpAny (model prog w) A (eval elt (compEnvC scope cl C env)) (fun y s₄ => F i y ∧ Keeps s₃ s₄) E' s₃) ∧
      (∀ D h' tk ys, s₂.heap.get? D = none → h'.PlainList D ys → Paired F ((List.range n).filter p) ys.toList → KeptBut wr s₂.heap h' → Q (.ref D) { s₂ with heap := h', toks := tk })) E s₁) E s)
    (hs : ∀ x, foldedSetIterable iter env x = pure x := by intro _; rfl) :
    wpAny (model prog w) A (eval (.ListComp elt [⟨target, iter, ifs, 0⟩] scope pos) env) Q E s := by
  rw [eval_ListComp]
  refine wpAny_comprehension_free (use := none) rfl hs hclos hkind hnames (wpAny_mono h (fun xv s₁ h₁ => wpAny_mono h₁ (fun it s₂ h₂ => ?_) fun _ _ e => e) fun _ _ e => e)
  obtain ⟨I, fp, wr, n, P, St, p, F, Bm, rfl, W, hsz, hst, hfp, hasg, htests, helt, hQ⟩ := h₂
  refine wpAny_newObj_type (wpAny_newFunctionEnv hcell (by intro y hy; simp at hy) (fun h₁ hns₁ hsb₁ => ?_) hkind)
  dsimp only at hns₁ hsb₁ ⊢
  generalize hH2 : s₂.heap.push { cls := .type "list", dict := none, data := .seq ([] : List Value).toArray } = H2 at hns₁ hsb₁ ⊢
  have hC : H2.objs.size = s₂.heap.objs.size + 1 := by rw [← hH2, Heap.size_push]
  have hDC : s₂.heap.objs.size ≠ H2.objs.size := by rw [hC]; exact Nat.ne_of_lt (Nat.lt_succ_self _)
  have hCle : s₂.heap.objs.size ≤ H2.objs.size := by rw [hC]; exact Nat.le_succ _
  have below : ∀ b, b < s₂.heap.objs.size → b ≠ H2.objs.size ∧ b ≠ s₂.heap.objs.size := fun b hb => ⟨by rw [hC]; exact Nat.ne_of_lt (Nat.lt_succ_of_lt hb), Nat.ne_of_lt hb⟩
  have hDf : s₂.heap.objs.size ∉ fp := fun hm => Nat.lt_irrefl _ (hfp _ hm)
  have hCf : H2.objs.size ∉ fp := fun hm => by have := hfp _ hm; rw [hC] at this; exact Nat.lt_irrefl _ (Nat.lt_of_succ_lt this)
  have old : ∀ b o, s₂.heap.get? b = some o → h₁.get? b = some o := fun b o e => hsb₁.extBut b o (below b (Heap.lt_size e)).1 (Heap.get?_push_of_some _ (hH2 ▸ Heap.get?_push_of_some _ e))
  have hacc : h₁.PlainList s₂.heap.objs.size #[] := ⟨_, hsb₁.extBut _ _ hDC (Heap.get?_push_of_some _ (hH2 ▸ Heap.get?_push_size _ rfl))⟩
  have hst₁ : St 0 h₁ := W.frame _ _ _ hst fun b _ o e => old b o e
  have fresh : ∀ a, s₂.heap.objs.size ≤ a → s₂.heap.get? a = none := fun a ha => by
    cases e : s₂.heap.get? a with
    | none => rfl
    | some o' => exact absurd (Heap.lt_size e) (Nat.not_lt.mpr ha)
  have kept : ∀ {h' : Heap}, KeptBut (s₂.heap.objs.size :: ([H2.objs.size] ++ wr)) h₁ h' → KeptBut wr s₂.heap h' := fun hk b o hb e => hk b o (by
    have hb' := below b (Heap.lt_size e)
    simp only [List.mem_cons, List.mem_append, List.not_mem_nil, or_false, not_or]
    exact ⟨hb'.2, hb'.1, hb⟩) (old b o e)
  have loop : ∀ s₃ : Shared, s₃ = { s₂ with heap := h₁, toks := s₂.toks + ([] : List (Str × Value)).length } →
      codeAny (model prog w) A (.compLoop (.ListComp elt [⟨target, iter, ifs, 0⟩] scope pos) 0 (.ref I) (.ref s₂.heap.objs.size) (compEnvC scope cl H2.objs.size env))
        (compPost (model prog w) A E none Q (.ref s₂.heap.objs.size) H2.objs.size) s₃ := by
    rintro s₃ rfl
    refine comp_loop_gen W [H2.objs.size] (fun h => ∃ m, h.Ns H2.objs.size m) (fun i h => ∃ m, h.Ns H2.objs.size m ∧ Bm i m) p F ?_ ?_ ?_ (by simpa using hDC) hDf (by simpa using hCf) hst₁ hacc ⟨_, hns₁⟩ ?_ ?_ ?_ ?_ hsz
    · rintro h h' ⟨m, hm⟩ hk; exact ⟨m, hm.at' fun o e => hk _ (.head _) o e⟩
    · rintro i h h' ⟨m, hm, hb⟩ hk; exact ⟨m, hm.at' fun o e => hk _ (.head _) o e, hb⟩
    · rintro i h ⟨m, hm, _⟩; exact ⟨m, hm⟩
    · rintro i v s₃ Q' E' hP hi hst3 ⟨m, hm⟩ hk hq
      exact hasg _ i v s₃ m Q' E' hCle hP hi hst3 hm (kept hk) fun h' tk m' hn' hb' hk' => hq h' tk ⟨m', hn', hb'⟩ hk'
    · rintro i s₃ E' hi ⟨m, hm, hb⟩ hk
      exact htests _ i s₃ m E' hCle hi hm hb (kept hk)
    · rintro i s₃ E' hi hp ⟨m, hm, hb⟩ hk
      exact helt _ i s₃ m E' hCle hi hp hm hb (kept hk)
    · rintro h' tk ys ⟨m, hm⟩ hpl hF hk
      refine ⟨m, hm, fun h'' hs'' => hQ _ h'' tk ys (fresh _ (Nat.le_refl _)) (hpl.extBut hs''.extBut hDC) hF fun b o hb e => hs''.extBut b o (below b (Heap.lt_size e)).1 (kept hk b o hb e)⟩
  exact codeAny_compStart_list (loop _ rfl) (W.self 0 _ _ _ hst₁ (loop _ rfl))
/-- a comprehension whose one target is captured by what stands within (a cell) -/
theorem comp_cell_assign {elt iter : Expr} {x y : Str} {px py : Pos} {scope : Scope} {pos spos : Pos} {Q : Flow → Shared → Prop} {rest : List (Str × NameKind)}
    (hsw : swapsWith (.ListComp elt [⟨.Name x px, iter, [], 0⟩] scope pos) (some (.Name y py)) spos.line env = pure true) (hclos : closureFor scope env = pure []) (hsc : scope.names = (Str.ofString ".0", .local) :: (x, .cell) :: rest) (hrest : ∀ y ∈ rest, y.2 = .globalImplicit) (hx : (x == Str.ofString ".0") = false) (hkind : scope.kind = .function)
    (h : wpAny (model prog w) A (eval iter env) (fun xv s₁ => wpAny (model prog w) A (pyIter xv) (fun it s₂ => ∃ I fp wr n P St F, it = .ref I ∧ Walks prog w A I fp wr n P St ∧ n ≤ sizeLine ∧ St 0 s₂.heap ∧ (∀ b ∈ fp, b < s₂.heap.objs.size) ∧
      (∀ C i v s₃ m₃ E', s₂.heap.objs.size ≤ C → i < n → P i v → s₃.heap.Ns C m₃ → s₃.heap.IsCell (C + 1) (some v) → KeptBut wr s₂.heap s₃.heap → wpAny (model prog w) A (eval elt (compEnvC scope [(x, C + 1)] C env)) (fun y s₄ => F i y ∧ Keeps s₃ s₄) E' s₃) ∧
      (∀ C D h' tk ys m', s₂.heap.get? D = none → s₂.heap.get? C = none → D ≠ C → h'.Ns C m' → h'.PlainList D ys → Paired F (List.range n) ys.toList → KeptBut wr s₂.heap h' →
        wpAny (model prog w) A (assign (.Name y py) env (.ref D)) (fun _ s₄ => ∃ m, s₄.heap.Ns C m ∧ ∀ h'', Heap.SameBut C s₄.heap h'' → Q .next { s₄ with heap := h'' }) E { s₂ with heap := h', toks := tk })) E s₁) E s)
    (hs : ∀ x, foldedSetIterable iter env x = pure x := by intro _; rfl) :
    wpAny (model prog w) A (exec (.Assign [.Name y py] (.ListComp elt [⟨.Name x px, iter, [], 0⟩] scope pos) spos) env) Q E s := by
  have hnames : ∀ y ∈ scope.names, y.2 = .local → scope.names.lookup y.1 = some .local := by
    rw [hsc]
    intro y hy hl
    rcases List.mem_cons.mp hy with rfl | hy
    · rfl
    · rcases List.mem_cons.mp hy with rfl | hy
      · cases hl
      · rw [hrest y hy] at hl; cases hl
  have hcellsF : ∀ (l : List (Str × NameKind)), (∀ y ∈ l, y.2 = .globalImplicit) → ∀ n acc, cellsFrom n l acc = acc := by
    intro l
    induction l with
    | nil => intro _ n acc; rfl
    | cons a r ih =>
      intro ha n acc
      obtain ⟨nm, k⟩ := a
      have : k = .globalImplicit := ha _ (.head _)
      subst this
      exact ih (fun y hy => ha y (.tail _ hy)) n acc
  have hpushF : ∀ (l : List (Str × NameKind)), (∀ y ∈ l, y.2 = .globalImplicit) → ∀ h, pushCells h l = h := by
    intro l
    induction l with
    | nil => intro _ h; rfl
    | cons a r ih =>
      intro ha h
      obtain ⟨nm, k⟩ := a
      have : k = .globalImplicit := ha _ (.head _)
      subst this
      exact ih (fun y hy => ha y (.tail _ hy)) h
  rw [exec_Assign_Name_used _ _ _ _ hsw]
  refine wpAny_bind (wpAny_standAt (wpAny_bind ?_))
  show wpAny _ A (do let _ ← comprehension (.ListComp elt [⟨.Name x px, iter, [], 0⟩] scope pos) scope env _ (newList []) false (eval iter env) (some (assign (.Name y py) env))) _ _ s
  refine wpAny_bind (wpAny_mono (wpAny_comprehension_free (use := some (assign (.Name y py) env)) (Q := fun _ s' => Q .next s') rfl hs hclos hkind hnames
    (wpAny_mono h (fun xv s₁ h₁ => wpAny_mono h₁ (fun it s₂ h₂ => ?_) fun _ _ e => e) fun _ _ e => e)) (fun _ s' hq => wpAny_pure (wpAny_pure hq)) fun _ _ e => e)
  obtain ⟨I, fp, wr, n, P, St, F, rfl, W, hsz, hst, hfp, helt, hQ⟩ := h₂
  refine wpAny_newObj_type ?_
  simp only [newFunctionEnv, Option.isSome_some, if_true]
  refine wpAny_bind (wpAny_alloc ?_)
  refine wpAny_bind (wpAny_layCells _ (fun name kind cells => by cases hkc : kind == NameKind.cell <;> simp [hkc]) _ _ _ _ ?_)
  refine wpAny_bind (wpAny_pure (wpAny_pure ?_))
  dsimp only
  have e1 : ∀ k, cellsFrom k scope.names [] = [(x, k)] := by
    intro k
    rw [hsc]
    show cellsFrom k ((x, .cell) :: rest) [] = _
    show cellsFrom (k + 1) rest [(x, k)] = _
    exact hcellsF rest hrest _ _
  have e2 : ∀ g, pushCells g scope.names = g.push { cls := .type "cell", data := .cell none } := by
    intro g
    rw [hsc]
    show pushCells (g.push { cls := .type "cell", data := .cell none }) rest = _
    exact hpushF rest hrest _
  rw [e1, e2]
  generalize hH2 : s₂.heap.push { cls := .type "list", dict := none, data := .seq ([] : List Value).toArray } = H2
  have hC : H2.objs.size = s₂.heap.objs.size + 1 := by rw [← hH2, Heap.size_push]
  rw [Heap.size_push]
  generalize hH3 : H2.push { cls := .type "dict", dict := none, data := .dict #[] } = H3
  have hC3 : H3.objs.size = H2.objs.size + 1 := by rw [← hH3, Heap.size_push]
  have hns₁ : (H3.push { cls := .type "cell", data := .cell none }).Ns H2.objs.size (fun _ => none) := (hH3 ▸ Heap.Ns.new H2 (.type "dict")).keeps fun b o e => Heap.get?_push_of_some _ e
  have hcl₁ : (H3.push { cls := .type "cell", data := .cell none }).IsCell (H2.objs.size + 1) none := ⟨_, hC3 ▸ Heap.get?_push_size _ rfl, rfl⟩
  generalize hh₁ : H3.push { cls := .type "cell", data := .cell none } = h₁ at hns₁ hcl₁
  have hDC : s₂.heap.objs.size ≠ H2.objs.size := by rw [hC]; exact Nat.ne_of_lt (Nat.lt_succ_self _)
  have hDc : s₂.heap.objs.size ≠ H2.objs.size + 1 := by rw [hC]; omega
  have hCle : s₂.heap.objs.size ≤ H2.objs.size := by rw [hC]; exact Nat.le_succ _
  have below : ∀ b, b < s₂.heap.objs.size → b ≠ H2.objs.size ∧ b ≠ H2.objs.size + 1 ∧ b ≠ s₂.heap.objs.size := fun b hb => ⟨by rw [hC]; exact Nat.ne_of_lt (Nat.lt_succ_of_lt hb), by rw [hC]; exact Nat.ne_of_lt (Nat.lt_succ_of_lt (Nat.lt_succ_of_lt hb)), Nat.ne_of_lt hb⟩
  have hDf : s₂.heap.objs.size ∉ fp := fun hm => Nat.lt_irrefl _ (hfp _ hm)
  have hCf : H2.objs.size ∉ fp := fun hm => by have := hfp _ hm; rw [hC] at this; exact Nat.lt_irrefl _ (Nat.lt_of_succ_lt this)
  have hcf : H2.objs.size + 1 ∉ fp := fun hm => by have := hfp _ hm; rw [hC] at this; exact Nat.lt_irrefl _ (Nat.lt_of_succ_lt (Nat.lt_of_succ_lt this))
  have old : ∀ b o, s₂.heap.get? b = some o → h₁.get? b = some o := fun b o e => by
    rw [← hh₁, ← hH3, ← hH2]
    exact Heap.get?_push_of_some _ (Heap.get?_push_of_some _ (Heap.get?_push_of_some _ e))
  have hacc : h₁.PlainList s₂.heap.objs.size #[] := ⟨_, by
    rw [← hh₁, ← hH3, ← hH2]
    exact Heap.get?_push_of_some _ (Heap.get?_push_of_some _ (Heap.get?_push_size _ rfl))⟩
  have hst₁ : St 0 h₁ := W.frame _ _ _ hst fun b _ o e => old b o e
  have fresh : ∀ a, s₂.heap.objs.size ≤ a → s₂.heap.get? a = none := fun a ha => by
    cases e : s₂.heap.get? a with
    | none => rfl
    | some o' => exact absurd (Heap.lt_size e) (Nat.not_lt.mpr ha)
  have kept : ∀ {h' : Heap}, KeptBut (s₂.heap.objs.size :: ([H2.objs.size, H2.objs.size + 1] ++ wr)) h₁ h' → KeptBut wr s₂.heap h' := fun hk b o hb e => hk b o (by
    have hb' := below b (Heap.lt_size e)
    simp only [List.mem_cons, List.mem_append, List.not_mem_nil, or_false, not_or]
    exact ⟨hb'.2.2, ⟨hb'.1, hb'.2.1⟩, hb⟩) (old b o e)
  have hrel : (compEnvC scope [(x, H2.objs.size + 1)] H2.objs.size env).kindOf x = some .cell := by
    show (relabel scope env).names.lookup x = _
    unfold relabel
    rw [hsc]
    have hx2 : (x == (".0" : Str)) = false := hx
    simp [List.lookup_cons, hx]
  have hcf2 : (compEnvC scope [(x, H2.objs.size + 1)] H2.objs.size env).cells.lookup x = some (H2.objs.size + 1) := by
    show List.lookup x [(x, H2.objs.size + 1)] = _
    simp [List.lookup_cons]
  have loop : ∀ s₃ : Shared, s₃ = { s₂ with heap := h₁ } →
      codeAny (model prog w) A (.compLoop (.ListComp elt [⟨.Name x px, iter, [], 0⟩] scope pos) 0 (.ref I) (.ref s₂.heap.objs.size) (compEnvC scope [(x, H2.objs.size + 1)] H2.objs.size env))
        (compPost (model prog w) A E (some (assign (.Name y py) env)) (fun _ s' => Q .next s') (.ref s₂.heap.objs.size) H2.objs.size) s₃ := by
    rintro s₃ rfl
    refine comp_loop_gen W [H2.objs.size, H2.objs.size + 1] (fun h => (∃ m, h.Ns H2.objs.size m) ∧ ∃ v, h.IsCell (H2.objs.size + 1) v) (fun i h => (∃ m, h.Ns H2.objs.size m) ∧ ∃ v, P i v ∧ h.IsCell (H2.objs.size + 1) (some v)) (fun _ => true) F ?_ ?_ ?_ (by simp [hDC, hDc]) hDf (by simp [hCf, hcf]) hst₁ hacc ⟨⟨_, hns₁⟩, _, hcl₁⟩ ?_ ?_ ?_ ?_ hsz
    · rintro h h' ⟨⟨m, hm⟩, v, o, ho, hd⟩ hk; exact ⟨⟨m, hm.at' fun o e => hk _ (.head _) o e⟩, v, o, hk _ (.tail _ (.head _)) o ho, hd⟩
    · rintro i h h' ⟨⟨m, hm⟩, v, hp, o, ho, hd⟩ hk; exact ⟨⟨m, hm.at' fun o e => hk _ (.head _) o e⟩, v, hp, o, hk _ (.tail _ (.head _)) o ho, hd⟩
    · rintro i h ⟨hm, v, _, hc⟩; exact ⟨hm, _, hc⟩
    · rintro i v s₃ Q' E' hP hi _ ⟨⟨m, hm⟩, v0, hc0⟩ hk hq
      refine wpAny_pure ?_
      refine wpAny_assign_Name (wpAny_storeName_cell (by simp [compEnvC, relabel, hkind]) hrel hcf2 hc0 fun h' hc' hs' => ?_)
      refine hq h' s₃.toks ⟨⟨m, hm.at' fun o e => hs'.extBut _ o (Nat.ne_of_lt (Nat.lt_succ_self _)) e⟩, v, hP, hc'⟩ fun b o hb e => hs'.extBut b o (fun q => hb (by simp [q])) e
    · rintro i s₃ E' hi _ hk
      exact wpAny_tests_nil ⟨rfl, s₃.heap, s₃.toks, rfl, fun _ _ e => e⟩
    · rintro i s₃ E' hi _ ⟨⟨m, hm⟩, v, hP, hc⟩ hk
      exact helt _ i v s₃ m E' hCle hi hP hm hc (kept hk)
    · rintro h' tk ys ⟨⟨m, hm⟩, _⟩ hpl hF hk
      have e9 : (List.range n).filter (fun _ => true) = List.range n := List.filter_eq_self.mpr fun _ _ => rfl
      rw [e9] at hF
      exact hQ H2.objs.size _ h' tk ys m (fresh _ (Nat.le_refl _)) (fresh _ (by rw [hC]; exact Nat.le_succ _)) hDC hm hpl hF (kept hk)
  exact codeAny_compStart_list (loop _ rfl) (W.self 0 _ _ _ hst₁ (loop _ rfl))
end

section
local macro_rules | `(tactic| walk_at "mine pad") => `(tactic| skip)
-- the law's first comprehension
noncomputable abbrev scL1 : Scope := { kind := .function, names := [(Str.ofString ".0", .local), (Str.ofString "x", .cell), (Str.ofString "range", .globalImplicit)], isGenerator := false, isCoroutine := false }
noncomputable abbrev scL2 : Scope := { kind := .function, names := [(Str.ofString ".0", .local), (Str.ofString "k", .local), (Str.ofString "_law_sign", .globalImplicit), (Str.ofString "x", .free)], isGenerator := false, isCoroutine := false }
theorem nameG_B {M : Model} {A : Around} {K : Frag} {mg mb : Str → Option Value} {p : Program} {loose : List Str} {x : Str} {pos : Pos} {v : Value} {Q : Value → Shared → Prop} {E : Value → Shared → Prop} {s : Shared} {h₀ : Heap} {L : Addr} {m : Str → Option Value} {env : Env} (F : Fr h₀ L s.heap m) (X : K.In h₀) (T : TopRead p loose mg mb h₀)
    (e : nsIn K mainGlobals x = some none) (hv : bootBuiltins x = some v) (hn : x ≠ "__name__") (h : Q v s) (hg : env.globals = mainGlobals) (hb : env.builtins = builtinsNs) (hk : env.scope.kind = .function) (hx : env.kindOf x = some .globalImplicit) (hd : (x == ("__debug__" : Str)) = false) :
    wpAny M A (eval (.Name x pos) env) Q E s :=
  PySem.Calls.Name_function_global hk hx (PySem.Calls.loadGlobal_builtin (env := env) (by rw [hg]; exact T.g.keeps F.keep) (mg_none_of X T.g e) (by rw [hb]; exact T.b.keeps F.keep) ((T.builtins x hn).trans hv) h) hd
noncomputable def OneStr (y : Value) : Prop := ∃ c t, y = .str ⟨#[c]⟩ t ∧ c < 1114112
noncomputable def WordV (y : Value) : Prop := ∃ x t, y = .str x t ∧ x.length ≤ 10 ∧ PyData.strOk x = true
theorem keeps_of {s : Shared} {h' : Heap} {tk tk' : Nat} (k : KeptIn s.heap h') : Keeps s { s with heap := h', toks := tk' } := ⟨h', tk', rfl, k⟩

noncomputable abbrev envL1 (c C1 : Addr) (env0 : Env) : Env := compEnvC scL1 [(Str.ofString "x", c)] C1 env0
noncomputable abbrev envL2 (c C C1 : Addr) (env0 : Env) : Env := compEnvC scL2 [(Str.ofString "x", c)] C (envL1 c C1 env0)
theorem kd_k (c C C1 : Addr) (env0 : Env) : (envL2 c C C1 env0).kindOf (Str.ofString "k") = some .local := by kernel_rfl
theorem kd_x (c C C1 : Addr) (env0 : Env) : (envL2 c C C1 env0).kindOf (Str.ofString "x") = some .cell := by kernel_rfl
theorem kd_s (c C C1 : Addr) (env0 : Env) : (envL2 c C C1 env0).kindOf (Str.ofString "_law_sign") = some .globalImplicit := by kernel_rfl
theorem kd_x1 (c C1 : Addr) (env0 : Env) : (envL1 c C1 env0).kindOf (Str.ofString "x") = some .cell := by kernel_rfl
theorem kd_r1 (c C1 : Addr) (env0 : Env) : (envL1 c C1 env0).kindOf (Str.ofString "range") = some .globalImplicit := by kernel_rfl
theorem lk_x (c : Addr) : [(Str.ofString "x", c)].lookup (Str.ofString "x") = some c := by kernel_rfl
theorem nd_s : (Str.ofString "_law_sign" == ("__debug__" : Str)) = false := by decide +kernel
theorem nd_r : (Str.ofString "range" == ("__debug__" : Str)) = false := by decide +kernel
theorem nd_k : (Str.ofString "k" == ("__debug__" : Str)) = false := by decide +kernel
theorem nd_x : (Str.ofString "x" == ("__debug__" : Str)) = false := by decide +kernel
theorem nn_r : Str.ofString "range" ≠ "__name__" := by decide +kernel
theorem ni_s (P : Params) : nsIn (Mine.H.K P) mainGlobals (Str.ofString "_law_sign") = some (some (.ref 773)) := by kernel_rfl
theorem ni_r (P : Params) : nsIn (Mine.H.K P) mainGlobals (Str.ofString "range") = some none := by kernel_rfl
theorem bt_r : bootBuiltins (Str.ofString "range") = some (.type "range") := by kernel_rfl
section
variable {w : World} {prog : Program} {A : Around} {E : Value → Shared → Prop} {s : Shared} {h₀ : Heap} {C C1 c : Addr} {m mg mb : Str → Option Value} {env0 : Env} {pos : Pos} {Q : Value → Shared → Prop} {v : Value} {p : Program} {loose : List Str} {mean : ExcName → Option Value}
theorem ev_k (F : Fr h₀ C s.heap m) (hm : m (Str.ofString "k") = some v) (h : Q v s) : wpAny (model prog w) A (eval (.Name (Str.ofString "k") pos) (envL2 c C C1 env0)) Q E s := ldVarK F.ns hm h rfl (kd_k c C C1 env0) nd_k
theorem ev_x (hc : s.heap.IsCell c (some v)) (h : Q v s) : wpAny (model prog w) A (eval (.Name (Str.ofString "x") pos) (envL2 c C C1 env0)) Q E s := ldCellK (lk_x c) hc h rfl (kd_x c C C1 env0) nd_x
theorem ev_x1 (hc : s.heap.IsCell c (some v)) (h : Q v s) : wpAny (model prog w) A (eval (.Name (Str.ofString "x") pos) (envL1 c C1 env0)) Q E s := ldCellK (lk_x c) hc h rfl (kd_x1 c C1 env0) nd_x
theorem ev_s (hg : env0.globals = mainGlobals) (F : Fr h₀ C s.heap m) (X : (Mine.H.K w.params).In h₀) (T : Top p loose mean mg mb h₀) (h : Q (.ref 773) s) : wpAny (model prog w) A (eval (.Name (Str.ofString "_law_sign") pos) (envL2 c C C1 env0)) Q E s :=
  nameG_K F X (topRead_of T) (ni_s _) h hg rfl (kd_s c C C1 env0) nd_s
theorem ev_r (hg : env0.globals = mainGlobals) (hb : env0.builtins = builtinsNs) (F : Fr h₀ C s.heap m) (X : (Mine.H.K w.params).In h₀) (T : Top p loose mean mg mb h₀) (h : Q (.type "range") s) : wpAny (model prog w) A (eval (.Name (Str.ofString "range") pos) (envL1 c C1 env0)) Q E s :=
  nameG_B F X (topRead_of T) (ni_r _) bt_r nn_r h hg hb rfl (kd_r1 c C1 env0) nd_r
end

theorem pow12 {k : Int} (h0 : 0 ≤ k) (h5 : k < 5) : (12 : Int) ^ k.toNat ≠ 0 ∧ ((12 : Int) ^ k.toNat).natAbs < 1073741824 := by
  have : k = 0 ∨ k = 1 ∨ k = 2 ∨ k = 3 ∨ k = 4 := by omega
  rcases this with rfl | rfl | rfl | rfl | rfl <;> decide

theorem paired_one {α : Type} : ∀ {l : List α} {ys : List Value}, Paired (fun _ y => OneStr y) l ys → ∃ ss : List Str, StrsAre ys ss ∧ ss.length = l.length ∧ ∀ s ∈ ss, s.length = 1 ∧ PyData.strOk s = true
  | _, _, .nil => ⟨[], .nil, rfl, fun _ h => nomatch h⟩
  | _, _, .cons h t => by
    obtain ⟨c, u, rfl, hc⟩ := h
    obtain ⟨ss, h1, h2, h3⟩ := paired_one t
    refine ⟨⟨#[c]⟩ :: ss, .cons _ _ h1, by simp [h2], fun s hs => ?_⟩
    rcases List.mem_cons.mp hs with rfl | hs
    · exact ⟨rfl, by simp [PyData.strOk]; omega⟩
    · exact h3 s hs
theorem join_ones (ss : List Str) (h : ∀ s ∈ ss, s.length = 1 ∧ PyData.strOk s = true) : (Txt.join (Str.ofString "") ss).length = ss.length ∧ PyData.strOk (Txt.join (Str.ofString "") ss) = true := by
  have e : (Txt.join (Str.ofString "") ss).cps.toList = ss.flatMap fun a => a.cps.toList := by unfold Txt.join; rw [StrLaws.glued_eq_join, join_empty]
  have hl : ∀ l : List Str, (∀ s ∈ l, s.length = 1 ∧ PyData.strOk s = true) → (l.flatMap fun a => a.cps.toList).length = l.length ∧ ∀ c ∈ (l.flatMap fun a => a.cps.toList), c < 0x110000 := by
    intro l
    induction l with
    | nil => intro _; exact ⟨rfl, fun _ h => nomatch h⟩
    | cons a r ih =>
      intro ha
      obtain ⟨h1, h2⟩ := ih fun s hs => ha s (.tail _ hs)
      obtain ⟨h3, h4⟩ := ha a (.head _)
      refine ⟨?_, fun c hc => ?_⟩
      · rw [List.flatMap_cons, List.length_append, h1, List.length_cons]
        have : a.cps.toList.length = 1 := by simpa [Str.length] using h3
        omega
      · rw [List.flatMap_cons] at hc
        rcases List.mem_append.mp hc with hc | hc
        · have := (Array.all_eq_true'.mp h4) c (Array.mem_toList_iff.mp hc)
          simpa using this
        · exact h2 c hc
  obtain ⟨h1, h2⟩ := hl ss h
  refine ⟨?_, ?_⟩
  · show (Txt.join (Str.ofString "") ss).cps.size = _
    rw [← Array.length_toList, e, h1]
  · unfold PyData.strOk
    refine Array.all_eq_true'.mpr fun c hc => ?_
    have := h2 c (by rw [← e]; exact Array.mem_toList_iff.mpr hc)
    simpa using this



local macro_rules | `(tactic| walk_at "eval Name") => `(tactic| (k_here; first | (with_reducible refine ev_k (by assumption) (by assumption) ?_) | (with_reducible refine ev_x (by assumption) ?_) | (with_reducible refine ev_s (by assumption) (by assumption) (by assumption) (by assumption) ?_) | (with_reducible refine ev_x1 (by assumption) ?_) | (with_reducible refine ev_r (by assumption) (by assumption) (by assumption) (by assumption) (by assumption) ?_)))
local macro_rules | `(tactic| walk_at "call ref") => `(tactic| (k_here; (with_reducible show wpAny _ _ (call (Value.ref 773) [Value.int _ _]) _ _ _); k_dflt (refine' signG_spec _ _ _ _ _ _ _ _ none (Str.ofString "") { kind := .function, names := [], isGenerator := false, isCoroutine := false } 0 .none [] [] callerA _ _ _ _ _ _ _ _ _ ?B ?F ?X ?N ?T ?hk ?hd ?hu ?_; (case B => exact below_caller _); (case F | X => k_asm); (case N => exact News.nil); (case T => k_asm); (case hk => rfl); (case hd => ktr_room); (case hu => ktr_units)); intro v' h' tk' hv' hk'; (try dsimp only); (try k_fold)))
local macro_rules | `(tactic| walk_at "binaryOp FloorDiv int int") => `(tactic| (k_here; with_reducible refine floordiv_int (pow12 (by assumption) (by assumption)).1 ?_ (Or.inl (PyProof.noPylong_small (pow12 (by assumption) (by assumption)).2))))

set_option maxHeartbeats 4000000 in
theorem elt_sign : ∀ (w : World) (p : Program) (loose : List Str) (mean : ExcName → Option Value) (mg mb : Str → Option Value) (dp un : Nat) (h₀ : Heap) (env0 : Env) (C1 C : Addr) (t : Shared) (m : Str → Option Value) (k n : Int) (u u2 : Tok) (c : Addr) (E : Value → Shared → Prop),
  env0.globals = mainGlobals → Fr h₀ C t.heap m → (Mine.H.K w.params).In h₀ → Top p loose mean mg mb h₀ → dp + 100 < recursionLimit → un + 1000 < cLine → m (Str.ofString "k") = some (.int k u) → 0 ≤ k → k < 5 → t.heap.IsCell c (some (.int n u2)) →
  wpAny (model PySem.Challenge.rw_mq0393_01.prog w) (kBare dp un) (eval (.Call (.Name (Str.ofString "_law_sign") ⟨792, 20, 792, 29⟩) [.BinOp (.BinOp (.Name (Str.ofString "x") ⟨792, 30, 792, 31⟩) .FloorDiv (.Constant (.int 5) 0 ⟨792, 35, 792, 36⟩) ⟨792, 30, 792, 36⟩) .FloorDiv (.BinOp (.Constant (.int 12) 0 ⟨792, 40, 792, 42⟩) .Pow (.Name (Str.ofString "k") ⟨792, 46, 792, 47⟩) ⟨792, 40, 792, 47⟩) ⟨792, 30, 792, 47⟩] [] ⟨792, 20, 792, 48⟩) (envL2 c C C1 env0)) (fun y s₃ => OneStr y ∧ Keeps t s₃) E t := by
  k_fill
  intro w p loose mean mg mb dp un h₀ env0 C1 C t m k n u u2 c E hg F X T hd hu hm hk0 hk5 hc
  walk_at "mine steps"
  · rename ∃ _ _, _ => hv; exact hv
  · rename KeptIn _ _ => hk9; exact keeps_of (tk := 0) hk9

local macro_rules | `(tactic| walk_at "eval ListComp") => `(tactic| (k_here; refine Halt.out ?_))
set_option maxHeartbeats 4000000 in
theorem elt_word : ∀ (w : World) (p : Program) (loose : List Str) (mean : ExcName → Option Value) (mg mb : Str → Option Value) (dp un : Nat) (h₀ : Heap) (env0 : Env) (C1 : Addr) (t : Shared) (m : Str → Option Value) (n : Int) (u2 : Tok) (c : Addr) (oc : Obj) (E : Value → Shared → Prop),
  env0.globals = mainGlobals → env0.builtins = builtinsNs → Fr h₀ C1 t.heap m → (Mine.H.K w.params).In h₀ → Top p loose mean mg mb h₀ → dp + 200 < recursionLimit → un + 2000 < cLine → News h₀ C1 t.heap [(c, oc)] → oc.data = .cell (some (.int n u2)) →
  wpAny (model PySem.Challenge.rw_mq0393_01.prog w) (kBare dp un) (eval (.Call (.Attribute (.Constant (.str (Str.ofString "")) 0 ⟨792, 11, 792, 13⟩) (Str.ofString "join") ⟨792, 11, 792, 18⟩) [.ListComp (.Call (.Name (Str.ofString "_law_sign") ⟨792, 20, 792, 29⟩) [.BinOp (.BinOp (.Name (Str.ofString "x") ⟨792, 30, 792, 31⟩) .FloorDiv (.Constant (.int 5) 0 ⟨792, 35, 792, 36⟩) ⟨792, 30, 792, 36⟩) .FloorDiv (.BinOp (.Constant (.int 12) 0 ⟨792, 40, 792, 42⟩) .Pow (.Name (Str.ofString "k") ⟨792, 46, 792, 47⟩) ⟨792, 40, 792, 47⟩) ⟨792, 30, 792, 47⟩] [] ⟨792, 20, 792, 48⟩) [⟨.Name (Str.ofString "k") ⟨792, 53, 792, 54⟩, .Call (.Name (Str.ofString "range") ⟨792, 58, 792, 63⟩) [.BinOp (.Name (Str.ofString "x") ⟨792, 64, 792, 65⟩) .Mod (.Constant (.int 5) 0 ⟨792, 68, 792, 69⟩) ⟨792, 64, 792, 69⟩] [] ⟨792, 58, 792, 70⟩, [], 0⟩] scL2 ⟨792, 19, 792, 71⟩] [] ⟨792, 11, 792, 72⟩) (envL1 c C1 env0)) (fun y s₃ => WordV y ∧ Keeps t s₃) E t := by
  k_fill
  intro w p loose mean mg mb dp un h₀ env0 C1 t m n u2 c oc E hg hb F X T hd hu N hoc
  have hc : t.heap.IsCell c (some (.int n u2)) := ⟨oc, N.get (.head _), hoc⟩
  walk_at "mine steps"
  refine Halt.mk ?_
  refine comp_list_gen (cl := [(Str.ofString "x", c)]) (by kernel_rfl) (by decide) rfl (by decide) ?_
  walk_at "mine steps"
  refine Halt.mk ?_
  rename_i F0 N0 h1 tk1 t1 u1 v1 hr F1 N1 hk1
  have hm5 := fm_pos n (k := 5) (by decide)
  obtain ⟨q, hq⟩ : ∃ q : Nat, n.fmod 5 = (q : Int) := ⟨(n.fmod 5).toNat, by omega⟩
  rw [hq] at hr
  have hq5 : q < 5 := by omega
  refine wpAny_pyIter_range hr (small_len (by omega)) ?_
  have hsz := size_len q
  have low : ∀ b o, h1.get? b = some o → b ∉ [h1.objs.size] := fun b o e hm => Nat.lt_irrefl _ ((List.mem_singleton.mp hm) ▸ Heap.lt_size e)
  refine ⟨h1.objs.size, [h1.objs.size], [h1.objs.size], q, _, _, fun _ => true, fun _ y => OneStr y, fun i m => ∃ u, m (Str.ofString "k") = some (.int (i : Int) u), rfl, (Walks.range rfl _ 0 1 q).bound, by unfold sizeLine; omega, ?st, ?fp, ?asg, ?tests, ?elt, ?done⟩
  case st =>
    show IsRangeIter _ _ _ _ _
    rw [hsz]
    simpa using Heap.get?_push_size h1 rfl
  case fp =>
    intro b hb
    rw [List.mem_singleton.mp hb]
    show h1.objs.size < (h1.push _).objs.size
    rw [Heap.size_push]
    exact Nat.lt_succ_self _
  case asg =>
    intro C i v s₃ m₃ Q' E' hC hP hi _ hn hk hq'
    obtain ⟨_, tt, rfl⟩ := hP
    refine wpAny_pure ?_
    refine wpAny_assign_Name (wpAny_storeName_local (kd_k c C C1 env0) hn (fun h' hn' hs' => ?_) (by rfl))
    refine hq' h' (s₃.toks + 1) _ hn' ⟨tt, ?_⟩ fun b o hb e => hs'.extBut b o (fun q => hb (List.mem_singleton.mpr q)) e
    simp
  case tests =>
    intro C i s₃ m₃ E' hC hi hn hb hk
    exact wpAny_tests_nil ⟨rfl, Keeps.rfl' _⟩
  case elt =>
    intro C i s₃ m₃ E' hC hi _ hn hb hk
    obtain ⟨uu, hmk⟩ := hb
    have up : ∀ b o, h1.get? b = some o → s₃.heap.get? b = some o := fun b o e => hk b o (low b o e) (Heap.get?_push_of_some _ e)
    refine elt_sign w p loose mean mg mb dp un h₀ env0 C1 C s₃ m₃ i n uu u2 c E' hg ⟨hn, fun b o e => up b o (F1.keep b o e), ?_⟩ X T (by omega) (by omega) hmk (by omega) (by omega) ⟨oc, up _ _ (N1.get (.head _)), hoc⟩
    refine Nat.le_trans F1.above (Nat.le_trans (Nat.le_of_lt F1.ns.lt) (Nat.le_trans ?_ hC))
    show h1.objs.size ≤ (h1.push _).objs.size
    rw [Heap.size_push]
    exact Nat.le_succ _
  case done =>
    intro D h' tk ys hD hpl hF hk
    have e9 : (List.range q).filter (fun _ => true) = List.range q := List.filter_eq_self.mpr fun _ _ => rfl
    rw [e9] at hF
    obtain ⟨ss, a1, a2, a3⟩ := paired_one hF
    rw [List.length_range] at a2
    obtain ⟨b1, b2⟩ := join_ones ss a3
    walk_at "mine steps"
    have hsum : (ss.map (·.length)).sum ≤ ss.length := by
      clear a1 a2 b1 b2
      induction ss with
      | nil => simp
      | cons a r ih =>
        have := ih fun s hs => a3 s (.tail _ hs)
        have ha := (a3 a (.head _)).1
        simp only [List.map_cons, List.sum_cons, List.length_cons]
        omega
    have e0 : (Str.ofString "").length = 0 := by decide +kernel
    refine join_list hpl.isList a1 (by rw [e0]; omega) fun t' k => ⟨⟨_, t', rfl, by rw [b1]; omega, b2⟩, h', k, rfl, fun b o e => ?_⟩
    exact hk b o (low b o (hk1 b o e)) (Heap.get?_push_of_some _ (hk1 b o e))
end

-- comprehensions over the pieces (pairs)
theorem paired_map {α β γ : Type} {F : β → γ → Prop} {g : α → β} : ∀ {l : List α} {ys : List γ}, Paired (fun i y => F (g i) y) l ys → Paired F (l.map g) ys
  | _, _, .nil => .nil
  | _, _, .cons h t => .cons h (paired_map t)
theorem range_getD {α : Type} (l : List α) (d : α) : (List.range l.length).map (fun i => l.getD i d) = l := by
  apply List.ext_getElem?
  intro j
  by_cases hj : j < l.length
  · simp [hj, List.getD_eq_getElem?_getD]
  · rw [List.getElem?_eq_none (by simpa using hj), List.getElem?_eq_none (by simpa using hj)]
theorem filter_getD {α : Type} (l : List α) (d : α) (p : α → Bool) : ((List.range l.length).filter fun i => p (l.getD i d)).map (fun i => l.getD i d) = l.filter p := by
  have e := List.filter_map (f := fun i => l.getD i d) (p := p) (l := List.range l.length)
  rw [range_getD] at e
  rw [e]
  rfl
noncomputable def pairOf (p : Addr × Str × Tok × Bool) : Str × Bool := (p.2.1, p.2.2.2)
theorem neq_part_bare : Str.ofString "part" ≠ Str.ofString "bare" := by decide +kernel
section
variable {prog : Program} {w : World} {A : Around} {E : Value → Shared → Prop} {s : Shared} {env : Env} {h₀ : Heap} {L : Addr} {m : Str → Option Value} {news : List (Addr × Obj)}
theorem comp_pairs {elt iter : Expr} {ifs : List Expr} {scope : Scope} {pos pp1 pp2 tp : Pos} {kk : Nat} {Q : Value → Shared → Prop} {P : Addr} {ps : List (Addr × Str × Tok × Bool)} {e : Nat} (pz : Str × Bool → Bool) (FF : Str × Bool → Value → Prop)
    (hh : A.handled = none) (hclos : closureFor scope env = pure []) (hcell : ∀ y ∈ scope.names, y.2 ≠ .cell) (hkind : scope.kind = .function) (hnames : ∀ y ∈ scope.names, y.2 = .local → scope.names.lookup y.1 = some .local)
    (ha : scope.names.lookup (Str.ofString "part") = some .local) (hb : scope.names.lookup (Str.ofString "bare") = some .local)
    (hiter : ∀ Q' : Value → Shared → Prop, Q' (.ref P) s → wpAny (model prog w) A (eval iter env) Q' E s)
    (F : Fr h₀ L s.heap m) (N : News h₀ L s.heap news) (hP : (P, partsO ps e) ∈ news) (hps : ∀ p ∈ ps.map tupE, p ∈ news) (hn : ps.length ≤ 1000)
    (htests : ∀ C a x t b s₃ m₃ E', (a, x, t, b) ∈ ps → Fr h₀ C s₃.heap m₃ → m₃ (Str.ofString "part") = some (.str x t) → m₃ (Str.ofString "bare") = some (.bool b) → wpAny (model prog w) A (testsOf ifs (compEnvC scope [] C env)) (fun ok s₄ => ok = pz (x, b) ∧ Keeps s₃ s₄) E' s₃)
    (helt : ∀ C a x t b s₃ m₃ E', (a, x, t, b) ∈ ps → pz (x, b) = true → Fr h₀ C s₃.heap m₃ → m₃ (Str.ofString "part") = some (.str x t) → m₃ (Str.ofString "bare") = some (.bool b) → wpAny (model prog w) A (eval elt (compEnvC scope [] C env)) (fun y s₄ => FF (x, b) y ∧ Keeps s₃ s₄) E' s₃)
    (hQ : ∀ D h' tk ys, Fr h₀ L h' m → News h₀ L h' news → h₀.get? D = none → D ≠ L → (∀ p ∈ news, p.1 ≠ D) → h'.PlainList D ys → Paired FF ((ps.map pairOf).filter pz) ys.toList → Q (.ref D) { s with heap := h', toks := tk })
    (hs : ∀ x, foldedSetIterable iter env x = pure x := by intro _; rfl) :
    wpAny (model prog w) A (eval (.ListComp elt [⟨.Tuple [.Name (Str.ofString "part") pp1, .Name (Str.ofString "bare") pp2] kk tp, iter, ifs, 0⟩] scope pos) env) Q E s := by
  have hl : s.heap.IsList P (ps.map fun p => Value.ref p.1).toArray := ⟨_, N.get hP, rfl, e, rfl⟩
  have hPlt : P < s.heap.objs.size := Heap.lt_size (N.get hP)
  have hPne : P ≠ s.heap.objs.size := Nat.ne_of_lt hPlt
  have hsz : (ps.map fun p => Value.ref p.1).toArray.size = ps.length := by simp
  refine comp_list_gen hclos hcell hkind hnames (hiter _ (wpAny_pyIter_list hl ?_)) hs
  generalize hit : ({ cls := .type "list_iterator", data := .fields #[.ref P, .int 0 0] } : Obj) = ito
  have upP : ∀ b o, s.heap.get? b = some o → (s.heap.push ito).get? b = some o := fun b o q => Heap.get?_push_of_some _ q
  have low : ∀ b o, s.heap.get? b = some o → b ∉ [s.heap.objs.size] := fun b o q hm => Nat.lt_irrefl _ ((List.mem_singleton.mp hm) ▸ Heap.lt_size q)
  have frC : ∀ C (h : Heap) m₃, (s.heap.push ito).objs.size ≤ C → h.Ns C m₃ → KeptBut [s.heap.objs.size] (s.heap.push ito) h → Fr h₀ C h m₃ := fun C h m₃ hC hn hk =>
    ⟨hn, fun b o q => hk b o (low b o (F.keep b o q)) (upP b o (F.keep b o q)), Nat.le_trans F.above (Nat.le_trans (Nat.le_of_lt F.ns.lt) (Nat.le_trans (by rw [Heap.size_push]; exact Nat.le_succ _) hC))⟩
  let d : Str × Bool := (⟨#[]⟩, false)
  refine ⟨s.heap.objs.size, [s.heap.objs.size, P], [s.heap.objs.size], ps.length, fun i v => (ps.map fun p => Value.ref p.1).toArray[i]? = some v, fun i h => h.IsListIter s.heap.objs.size P i ∧ h.IsList P (ps.map fun p => Value.ref p.1).toArray,
    fun i => pz ((ps.map pairOf).getD i d), fun i y => FF ((ps.map pairOf).getD i d) y, fun i m => ∃ a x t b, ps[i]? = some (a, x, t, b) ∧ m (Str.ofString "part") = some (.str x t) ∧ m (Str.ofString "bare") = some (.bool b), rfl, ?W, by unfold sizeLine; omega, ?st, ?fp, ?asg, ?tests, ?elt, ?done⟩
  case W =>
    have W := Walks.list (prog := prog) (w := w) (A := A) hh s.heap.objs.size P hPne (ps.map fun p => Value.ref p.1).toArray
    rw [hsz] at W
    exact W
  case st =>
    refine ⟨⟨_, Heap.get?_push_size _ (by rw [← hit]; rfl), by rw [← hit], by rw [← hit]; rfl⟩, ?_⟩
    obtain ⟨o, ho, r⟩ := hl
    exact ⟨o, upP _ _ ho, r⟩
  case fp =>
    intro b hb
    show b < (s.heap.push ito).objs.size
    rw [Heap.size_push]
    rcases List.mem_cons.mp hb with rfl | hb
    · exact Nat.lt_succ_self _
    · rw [List.mem_singleton.mp hb]; exact Nat.lt_succ_of_lt hPlt
  case asg =>
    intro C i v s₃ m₃ Q' E' hC hv hi hst hnC hk hq'
    have hv' : (ps.map fun p => Value.ref p.1)[i]? = some v := by simpa using hv
    rw [List.getElem?_map] at hv'
    cases hpi : ps[i]? with
    | none => rw [hpi] at hv'; cases hv'
    | some q =>
      obtain ⟨a, x, t, b⟩ := q
      rw [hpi] at hv'
      cases hv'
      have hT : s₃.heap.get? a = some (tupO [.str x t, .bool b]) := by
        have h1 := N.get (hps (tupE (a, x, t, b)) (List.mem_map_of_mem (List.mem_of_getElem? hpi)))
        exact hk _ _ (low _ _ h1) (upP _ _ h1)
      refine wpAny_letOwnedTupleGo_listiter hst.1 ?_
      refine kcp_assign hh (x := .str x t) (y := .bool b) ⟨_, hT, rfl, _, rfl⟩ (lookup_relabel_local ha) (lookup_relabel_local hb) (by simp [compEnvC, relabel, hkind]) hnC fun h' tk hn' hk' => ?_
      refine hq' h' tk _ hn' ⟨a, x, t, b, hpi, ?_, ?_⟩ fun b o hb q => hk' b o (fun z => hb (List.mem_singleton.mpr z)) q
      · dsimp only; rw [if_neg neq_part_bare, if_pos rfl]
      · dsimp only; rw [if_pos rfl]
  case tests =>
    rintro C i s₃ m₃ E' hC hi hnC ⟨a, x, t, b, hpi, h1, h2⟩ hk
    have e2 : (ps.map pairOf).getD i d = (x, b) := by rw [List.getD_eq_getElem?_getD, List.getElem?_map, hpi]; rfl
    dsimp only
    rw [e2]
    exact htests C a x t b s₃ m₃ E' (List.mem_of_getElem? hpi) (frC C _ m₃ hC hnC hk) h1 h2
  case elt =>
    rintro C i s₃ m₃ E' hC hi hp hnC ⟨a, x, t, b, hpi, h1, h2⟩ hk
    have e2 : (ps.map pairOf).getD i d = (x, b) := by rw [List.getD_eq_getElem?_getD, List.getElem?_map, hpi]; rfl
    dsimp only at hp ⊢
    rw [e2] at hp ⊢
    exact helt C a x t b s₃ m₃ E' (List.mem_of_getElem? hpi) hp (frC C _ m₃ hC hnC hk) h1 h2
  case done =>
    intro D h' tk ys hD hpl hF hk
    have upD : ∀ b o, s.heap.get? b = some o → h'.get? b = some o := fun b o q => hk b o (low b o q) (upP b o q)
    have hD' : (s.heap.push ito).get? D = none := hD
    have hDs : s.heap.get? D = none := by
      cases q : s.heap.get? D with
      | none => rfl
      | some o => rw [upP D o q] at hD'; cases hD'
    have hF2 := paired_map (g := fun i => (ps.map pairOf).getD i d) hF
    have hlen : ps.length = (ps.map pairOf).length := by simp
    rw [hlen, filter_getD] at hF2
    refine hQ D h' tk ys (F.keeps upD) (N.grown upD) ?_ ?_ ?_ hpl hF2
    · cases q : h₀.get? D with
      | none => rfl
      | some o => rw [F.keep _ _ q] at hDs; cases hDs
    · rintro rfl
      obtain ⟨o, _, _, ho, _⟩ := F.ns
      rw [hDs] at ho; cases ho
    · rintro q hq rfl
      rw [(N q hq).1] at hDs; cases hDs
end

noncomputable abbrev PW := List Nat × Bool
noncomputable def goL : List Nat → List Nat → List Nat
  | [], acc => acc
  | c :: r, acc => if c = 58 ∨ c = 10 then acc else if c = 46 then goL r [] else goL r (acc ++ [c])
noncomputable def dispL (p : PW) : List Nat := if p.2 then p.1 else 39 :: (escL p.1 ++ [39])
noncomputable def sepL : List (List Nat) → List Nat
  | [] => []
  | [a] => a
  | a :: b :: r => a ++ 32 :: sepL (b :: r)
noncomputable def inW : List Nat → Bool → List Nat → List PW → List Nat → Sum (List Nat × List PW × List Nat) (List Nat × List PW × List Nat)
  | [], _, f, d, u => .inr (f, d, u)
  | c :: r, b, f, d, u => if c = 58 ∨ c = 10 then .inl (f, d ++ [(u, b)], if b then [] else [39]) else if c = 46 then inW r b (if b then [] else [39]) [] [] else inW r b f d (u ++ [c])
noncomputable def goW : List PW → List Nat → List PW → List Nat × List PW × List Nat
  | [], f, d => (f, d, [])
  | w :: ws, f, d => match inW w.1 w.2 f d [] with
    | .inl r => r
    | .inr (f', d', u') => goW ws f' (d' ++ [(u', w.2)])
noncomputable def preL (d : List PW) : List Nat := d.flatMap fun p => dispL p ++ [32]
noncomputable def openL (u : List Nat) (b : Bool) : List Nat := if b then u else 39 :: escL u
noncomputable def rendL (d : List PW) (u : List Nat) (b : Bool) : List Nat := preL d ++ openL u b
theorem sepL_snoc : ∀ (d : List PW) (p : PW), sepL ((d ++ [p]).map dispL) = preL d ++ dispL p
  | [], p => by simp [sepL, preL]
  | [a], p => by simp [sepL, preL]
  | a :: b :: r, p => by
    have ih := sepL_snoc (b :: r) p
    simp only [List.cons_append, List.map_cons, sepL, preL, List.flatMap_cons] at ih ⊢
    rw [ih]; simp
theorem sepL_close (d : List PW) (u : List Nat) (b : Bool) : sepL ((d ++ [(u, b)]).map dispL) = rendL d u b ++ (if b then [] else [39]) := by
  rw [sepL_snoc]; unfold rendL openL dispL; cases b <;> simp
theorem preL_snoc (d : List PW) (u : List Nat) (b : Bool) : preL (d ++ [(u, b)]) = rendL d u b ++ (if b then [] else [39]) ++ [32] := by
  unfold preL rendL openL; rw [List.flatMap_append]; cases b <;> simp [dispL, preL]
noncomputable def bodyL (cs : List Nat) (b : Bool) : List Nat := if b then cs else escL cs
theorem in_step {R : List Nat} {b : Bool} : ∀ (cs f acc : List Nat) (d : List PW) (u : List Nat), f ++ acc = rendL d u b →
    (match inW cs b f d u with
     | .inl (f', ps, bk) => f' ++ goL (bodyL cs b ++ R) acc ++ bk = sepL (ps.map dispL)
     | .inr (f', d', u') => ∃ acc', goL (bodyL cs b ++ R) acc = goL R acc' ∧ f' ++ acc' = rendL d' u' b)
  | [], f, acc, d, u, h => ⟨acc, by unfold bodyL; cases b <;> simp [escL], h⟩
  | c :: r, f, acc, d, u, h => by
    unfold inW
    by_cases h1 : c = 58 ∨ c = 10
    · rw [if_pos h1]
      have e : goL (bodyL (c :: r) b ++ R) acc = acc := by
        unfold bodyL
        cases b
        · have : c ≠ 39 := by omega
          simp [escL, this, goL, h1]
        · simp [goL, h1]
      dsimp only
      rw [e, sepL_close, h]
    · rw [if_neg h1]
      by_cases h2 : c = 46
      · rw [if_pos h2]
        subst h2
        have e : goL (bodyL (46 :: r) b ++ R) acc = goL (bodyL r b ++ R) [] := by
          unfold bodyL
          cases b <;> simp [escL, goL]
        rw [e]
        exact in_step r _ [] [] [] (by unfold rendL preL openL; cases b <;> simp [escL])
      · rw [if_neg h2]
        have e : ∃ x, goL (bodyL (c :: r) b ++ R) acc = goL (bodyL r b ++ R) (acc ++ x) ∧ rendL d (u ++ [c]) b = rendL d u b ++ x := by
          unfold bodyL rendL openL
          cases b
          · by_cases h3 : c = 39
            · subst h3
              refine ⟨[39, 34, 39, 34, 39], ?_, ?_⟩
              · simp [escL, goL]
              · simp [escL]
            · refine ⟨[c], ?_, ?_⟩
              · simp [escL, h3, goL, h1, h2]
              · simp [escL, h3]
          · exact ⟨[c], by simp [goL, h1, h2], by simp⟩
        obtain ⟨x, e1, e2⟩ := e
        rw [e1]
        exact in_step r f (acc ++ x) d (u ++ [c]) (by rw [e2, ← h, List.append_assoc])
theorem word_step {R : List Nat} (w : PW) (f acc : List Nat) (d : List PW) (h : f ++ acc = preL d) :
    (match inW w.1 w.2 f d [] with
     | .inl (f', ps, bk) => f' ++ goL (dispL w ++ R) acc ++ bk = sepL (ps.map dispL)
     | .inr (f', d', u') => ∃ acc', goL (dispL w ++ R) acc = goL R acc' ∧ f' ++ acc' = rendL d' u' w.2 ++ (if w.2 then [] else [39])) := by
  obtain ⟨x, b⟩ := w
  cases b with
  | true =>
    have := in_step (R := R) (b := true) x f acc d [] (by rw [h]; simp [rendL, openL])
    simpa [dispL, bodyL] using this
  | false =>
    have := in_step (R := 39 :: R) (b := false) x f (acc ++ [39]) d [] (by rw [← List.append_assoc, h]; simp [rendL, openL, escL])
    have e : goL (dispL (x, false) ++ R) acc = goL (bodyL x false ++ 39 :: R) (acc ++ [39]) := by
      simp [dispL, bodyL, goL]
    simp only [e]
    revert this
    cases inW x false f d [] with
    | inl r => exact fun h => h
    | inr r =>
      rintro ⟨acc', h1, h2⟩
      refine ⟨acc' ++ [39], ?_, ?_⟩
      · rw [h1]; simp [goL]
      · rw [← List.append_assoc, h2]; rfl
theorem line_is : ∀ (ws : List PW) (f acc : List Nat) (d : List PW), ws ≠ [] → f ++ acc = preL d →
    (goW ws f d).1 ++ goL (sepL (ws.map dispL)) acc ++ (goW ws f d).2.2 = sepL ((goW ws f d).2.1.map dispL)
  | [], _, _, _, h, _ => absurd rfl h
  | [w], f, acc, d, _, h => by
    have := word_step (R := []) w f acc d h
    unfold goW
    simp only [List.map_cons, List.map_nil, sepL, List.append_nil] at this ⊢
    revert this
    cases inW w.1 w.2 f d [] with
    | inl r => exact fun h => h
    | inr r =>
      rintro ⟨acc', h1, h2⟩
      obtain ⟨f', d', u'⟩ := r
      simp only [goW, List.append_nil]
      rw [h1, sepL_close]
      exact h2
  | w :: w2 :: rest, f, acc, d, _, h => by
    have := word_step (R := 32 :: sepL ((w2 :: rest).map dispL)) w f acc d h
    have e : sepL ((w :: w2 :: rest).map dispL) = dispL w ++ 32 :: sepL ((w2 :: rest).map dispL) := rfl
    rw [e]
    unfold goW
    revert this
    cases inW w.1 w.2 f d [] with
    | inl r => exact fun h => h
    | inr r =>
      rintro ⟨acc', h1, h2⟩
      obtain ⟨f', d', u'⟩ := r
      dsimp only at h2 ⊢
      rw [h1]
      have e2 : goL (32 :: sepL ((w2 :: rest).map dispL)) acc' = goL (sepL ((w2 :: rest).map dispL)) (acc' ++ [32]) := by simp [goL]
      rw [e2]
      exact line_is (w2 :: rest) f' (acc' ++ [32]) (d' ++ [(u', w.2)]) (by simp) (by rw [preL_snoc, ← List.append_assoc, h2])
theorem law_line (ws : List PW) : (goW ws [] []).1 ++ goL (sepL (ws.map dispL)) [] ++ (goW ws [] []).2.2 = sepL ((goW ws [] []).2.1.map dispL) := by
  cases ws with
  | nil => rfl
  | cons w r => exact line_is (w :: r) [] [] [] (by simp) rfl
-- split
theorem scan_wd {R : List Nat} {q : Bool} : ∀ (cs t : List Nat), (∀ c ∈ cs, openC c = true) → scan (cs ++ R) .wd t q = scan R .wd (t ++ cs) q
  | [], t, _ => by simp
  | c :: r, t, h => by
    have hc := h c (.head _)
    have h1 : c ≠ 32 ∧ c ≠ 39 ∧ c ≠ 34 := by
      unfold openC at hc
      refine ⟨?_, ?_, ?_⟩ <;> (rintro rfl; simp at hc)
    rw [List.cons_append, scan, if_neg h1.1, if_neg h1.2.1, if_neg h1.2.2, if_pos hc, scan_wd r _ fun c hc => h c (.tail _ hc)]
    simp
theorem scan_sq {R : List Nat} : ∀ (cs t : List Nat) (q : Bool), scan (escL cs ++ 39 :: R) .sq t q = scan R .wd (t ++ cs) true
  | [], t, q => by simp [escL, scan]
  | c :: r, t, q => by
    have ih := scan_sq (R := R) r (t ++ [c]) true
    have e : escL (c :: r) = (if c = 39 then [39, 34, 39, 34, 39] else [c]) ++ escL r := rfl
    rw [e]
    by_cases h : c = 39
    · subst h
      rw [if_pos rfl]
      simp only [List.cons_append, List.nil_append]
      simp only [scan, if_true, if_false, show ¬ (34 = 32) by decide, show ¬ (34 = 39) by decide, show ¬ (39 = 34) by decide, show ¬ (39 = 32) by decide]
      rw [ih]; simp
    · rw [if_neg h]
      simp only [List.cons_append, List.nil_append]
      rw [scan, if_neg h, ih]; simp
theorem lexes_sp {l : List Nat} {ts : List (List Nat)} (h : Lexes l .ws ts) : Lexes (32 :: l) .ws ts := by
  have e : scan (32 :: l) .ws [] false = scan l .ws [] false := by rw [scan]; simp
  cases h with
  | stop h => exact .stop (e.trans h)
  | tok h n r => exact .tok (e.trans h) n r
theorem lexes_nil_ws : Lexes [] .ws [] := .stop (st' := .dn) (r := []) rfl
theorem lexes_nil_dn : Lexes [] .dn [] := .stop (st' := .dn) (r := []) rfl
noncomputable def keptP (p : PW) : Bool := !(p.1 == []) || !p.2
theorem lexes_word {R : List Nat} {ts : List (List Nat)} (p : PW) (hp : p.2 = true → ∀ c ∈ p.1, openC c = true) (hk : keptP p = true) (hR : (R = [] ∧ ts = []) ∨ ∃ r, R = 32 :: r ∧ Lexes r .ws ts) : Lexes (dispL p ++ R) .ws (p.1 :: ts) := by
  obtain ⟨x, b⟩ := p
  have fin : ∀ q, ¬ (x = [] ∧ q = false) → scan (dispL (x, b) ++ R) .ws [] false = scan R .wd x q → Lexes (dispL (x, b) ++ R) .ws (x :: ts) := by
    intro q hq e
    rcases hR with ⟨rfl, rfl⟩ | ⟨r, rfl, hl⟩
    · exact .tok (q := q) (st' := .dn) (r := []) (e.trans rfl) hq lexes_nil_dn
    · exact .tok (q := q) (st' := .ws) (r := r) (by rw [e, scan, if_pos rfl, if_neg hq]) hq hl
  cases b with
  | true =>
    cases x with
    | nil => simp [keptP] at hk
    | cons c r =>
      have hc := hp rfl c (.head _)
      have h1 : c ≠ 32 ∧ c ≠ 39 := by
        unfold openC at hc
        refine ⟨?_, ?_⟩ <;> (rintro rfl; simp at hc)
      refine fin false (by simp) ?_
      have e : dispL (c :: r, true) ++ R = c :: (r ++ R) := rfl
      rw [e, scan, if_neg h1.1, if_neg h1.2, if_pos hc, scan_wd r [c] fun c hc => hp rfl c (.tail _ hc)]
      rfl
  | false =>
    refine fin true (by simp) ?_
    have e : dispL (x, false) ++ R = 39 :: (escL x ++ 39 :: R) := by simp [dispL]
    rw [e, scan, if_neg (by decide), if_pos rfl, scan_sq]
    rfl
theorem lexes_line : ∀ ps : List PW, (∀ p ∈ ps, p.2 = true → ∀ c ∈ p.1, openC c = true) → Lexes (sepL (ps.map dispL)) .ws ((ps.filter keptP).map (·.1))
  | [], _ => lexes_nil_ws
  | [p], h => by
    by_cases hk : keptP p = true
    · have := lexes_word (R := []) (ts := []) p (h p (.head _)) hk (.inl ⟨rfl, rfl⟩)
      simpa [sepL, hk] using this
    · have hk' : p.1 = [] ∧ p.2 = true := by simpa [keptP] using hk
      have e : dispL p = [] := by unfold dispL; rw [hk'.2, hk'.1]; rfl
      simp only [List.map_cons, List.map_nil, sepL, e, List.filter_cons, hk, List.filter_nil]
      exact lexes_nil_ws
  | p :: p2 :: r, h => by
    have ih := lexes_line (p2 :: r) fun q hq => h q (.tail _ hq)
    have e : sepL ((p :: p2 :: r).map dispL) = dispL p ++ 32 :: sepL ((p2 :: r).map dispL) := rfl
    rw [e]
    by_cases hk : keptP p = true
    · have := lexes_word (R := 32 :: sepL ((p2 :: r).map dispL)) p (h p (.head _)) hk (.inr ⟨_, rfl, ih⟩)
      rw [List.filter_cons, if_pos hk, List.map_cons]
      exact this
    · have hk' : p.1 = [] ∧ p.2 = true := by simpa [keptP] using hk
      have e : dispL p = [] := by unfold dispL; rw [hk'.2, hk'.1]; rfl
      rw [e, List.filter_cons, if_neg hk]
      exact lexes_sp ih
-- the pieces of a bare word are open
noncomputable def OkP (ps : List PW) : Prop := ∀ p ∈ ps, p.2 = true → ∀ c ∈ p.1, openC c = true
theorem okP_snoc {d : List PW} {p : PW} (h : OkP d) (hp : p.2 = true → ∀ c ∈ p.1, openC c = true) : OkP (d ++ [p]) := by
  intro q hq
  rcases List.mem_append.mp hq with hq | hq
  · exact h q hq
  · rw [List.mem_singleton.mp hq]; exact hp
theorem in_ok {b : Bool} : ∀ (cs f : List Nat) (d : List PW) (u : List Nat), (b = true → ∀ c ∈ cs, openC c = true) → OkP d → (b = true → ∀ c ∈ u, openC c = true) →
    (match inW cs b f d u with | .inl (_, ps, _) => OkP ps | .inr (_, d', u') => OkP d' ∧ (b = true → ∀ c ∈ u', openC c = true))
  | [], _, _, _, _, hd, hu => ⟨hd, hu⟩
  | c :: r, f, d, u, hc, hd, hu => by
    unfold inW
    by_cases h1 : c = 58 ∨ c = 10
    · rw [if_pos h1]; exact okP_snoc hd hu
    · rw [if_neg h1]
      by_cases h2 : c = 46
      · rw [if_pos h2]
        exact in_ok r _ [] [] (fun hb c h => hc hb c (.tail _ h)) (fun _ h => nomatch h) (fun _ _ h => nomatch h)
      · rw [if_neg h2]
        refine in_ok r f d (u ++ [c]) (fun hb c h => hc hb c (.tail _ h)) hd fun hb x hx => ?_
        rcases List.mem_append.mp hx with hx | hx
        · exact hu hb x hx
        · rw [List.mem_singleton.mp hx]; exact hc hb c (.head _)
theorem go_ok : ∀ (ws : List PW) (f : List Nat) (d : List PW), OkP ws → OkP d → OkP (goW ws f d).2.1
  | [], _, _, _, hd => hd
  | w :: ws, f, d, hw, hd => by
    have := in_ok w.1 f d [] (hw w (.head _)) hd (fun _ _ h => nomatch h)
    unfold goW
    revert this
    cases inW w.1 w.2 f d [] with
    | inl r => exact fun h => h
    | inr r =>
      rintro ⟨h1, h2⟩
      exact go_ok ws _ _ (fun q hq => hw q (.tail _ hq)) (okP_snoc h1 h2)
theorem law_split (ws : List PW) (h : OkP ws) : Lexes (sepL ((goW ws [] []).2.1.map dispL)) .ws (((goW ws [] []).2.1.filter keptP).map (·.1)) :=
  lexes_line _ (go_ok ws [] [] h fun _ h => nomatch h)

theorem flat_nil {α β : Type} : ∀ (l : List α) (g : α → List β), (∀ a ∈ l, g a = []) → l.flatMap g = []
  | [], _, _ => rfl
  | a :: r, g, h => by rw [List.flatMap_cons, h a (.head _), flat_nil r g fun b hb => h b (.tail _ hb)]; rfl
theorem flat_congr {α β : Type} : ∀ (l : List α) (g h : α → List β), (∀ a ∈ l, g a = h a) → l.flatMap g = l.flatMap h
  | [], _, _, _ => rfl
  | a :: r, g, h, e => by rw [List.flatMap_cons, List.flatMap_cons, e a (.head _), flat_congr r g h fun b hb => e b (.tail _ hb)]
noncomputable def wdL (W : List PW) (i : Nat) : PW := W.getD i ([], false)
noncomputable def frontL (W : List PW) (b : Nat × Nat) : List Nat := if b.2 > 0 ∧ (wdL W b.1).2 = false then [39] else []
noncomputable def backL (W : List PW) (s : Nat × Nat) : List Nat := if s.1 < W.length ∧ (wdL W s.1).2 = false then [39] else []
noncomputable def fromL (b : Nat × Nat) (i : Nat) : Nat := if i = b.1 then b.2 else 0
noncomputable def pieceL (W : List PW) (c : (Nat × Nat) × (Nat × Nat)) (i : Nat) : List PW :=
  if c.1.1 ≤ i ∧ i ≤ c.2.1 then [(((wdL W i).1.take (if i = c.2.1 then c.2.2 else (wdL W i).1.length)).drop (fromL c.1 i), (wdL W i).2)] else []
noncomputable def dnL (W : List PW) (b : Nat × Nat) (i : Nat) : List PW := (List.range i).flatMap fun j => if b.1 ≤ j then [((wdL W j).1.drop (fromL b j), (wdL W j).2)] else []
theorem dnL_self (W : List PW) (i k : Nat) : dnL W (i, k) i = [] := flat_nil _ _ fun j hj => by
  have := List.mem_range.mp hj
  rw [if_neg (by simpa using this)]
theorem dnL_succ (W : List PW) (b : Nat × Nat) (i : Nat) (h : b.1 ≤ i) : dnL W b (i + 1) = dnL W b i ++ [((wdL W i).1.drop (fromL b i), (wdL W i).2)] := by
  unfold dnL; rw [List.range_succ, List.flatMap_append]; simp [h]
theorem inW_cut (W : List PW) (i : Nat) (w : PW) (hw : wdL W i = w) : ∀ (cs : List Nat) (k : Nat) (b : Nat × Nat), w.1.drop k = cs → k ≤ w.1.length → b.1 ≤ i → (b.1 = i → b.2 ≤ k) →
    (match cutW i k cs b with
     | .error r => ∃ k', r.2 = (i, k') ∧ r.1.1 ≤ i ∧ inW cs w.2 (frontL W b) (dnL W b i) ((w.1.take k).drop (fromL b i)) = .inl (frontL W r.1, dnL W r.1 i ++ [((w.1.take k').drop (fromL r.1 i), w.2)], if w.2 then [] else [39])
     | .ok b' => b'.1 ≤ i ∧ inW cs w.2 (frontL W b) (dnL W b i) ((w.1.take k).drop (fromL b i)) = .inr (frontL W b', dnL W b' i, w.1.drop (fromL b' i)))
  | [], k, b, hc, hk, hb, _ => by
    have e : w.1.take k = w.1 := List.take_of_length_le (List.drop_eq_nil_iff.mp hc)
    refine ⟨hb, ?_⟩
    unfold inW; rw [e]
  | c :: cs, k, b, hc, hk, hb, hbk => by
    have hk' : k < w.1.length := by
      by_cases q : k < w.1.length
      · exact q
      · rw [List.drop_eq_nil_of_le (by omega)] at hc; cases hc
    have hc2 : w.1.drop (k + 1) = cs := by rw [← List.drop_drop, hc]; rfl
    have hg : w.1[k] = c := by
      have e := List.drop_eq_getElem_cons hk'
      rw [hc] at e; injection e with e _; exact e.symm
    unfold cutW inW
    by_cases h1 : c = 58 ∨ c = 10
    · rw [if_pos h1, if_pos h1]
      exact ⟨k, rfl, hb, rfl⟩
    · rw [if_neg h1, if_neg h1]
      by_cases h2 : c = 46
      · rw [if_pos h2, if_pos h2]
        have ih := inW_cut W i w hw cs (k + 1) (i, k + 1) hc2 hk' (Nat.le_refl _) (fun _ => Nat.le_refl _)
        have e1 : frontL W (i, k + 1) = if w.2 = true then [] else [39] := by
          unfold frontL; rw [hw]; cases w.2 <;> simp
        have e2 : (w.1.take (k + 1)).drop (fromL (i, k + 1) i) = [] := by
          unfold fromL; rw [if_pos rfl]; exact List.drop_eq_nil_of_le (by simp; omega)
        rw [e1, e2, dnL_self] at ih
        exact ih
      · rw [if_neg h2, if_neg h2]
        have ih := inW_cut W i w hw cs (k + 1) b hc2 hk' hb (fun e => Nat.le_succ_of_le (hbk e))
        have e2 : (w.1.take (k + 1)).drop (fromL b i) = (w.1.take k).drop (fromL b i) ++ [c] := by
          rw [← hg, List.take_succ_eq_append_getElem hk', List.drop_append_of_le_length]
          unfold fromL
          rw [List.length_take]
          split
          · next e => have := hbk e.symm; omega
          · omega
        rw [e2] at ih
        exact ih
noncomputable def cutRl : Nat → List PW → Nat × Nat → (Nat × Nat) × (Nat × Nat)
  | i, [], b => (b, (i, 0))
  | i, w :: ws, b => match cutW i 0 w.1 b with
    | .error r => r
    | .ok b' => cutRl (i + 1) ws b'
theorem pieces_end (W : List PW) (b : Nat × Nat) : (List.range W.length).flatMap (pieceL W (b, (W.length, 0))) = dnL W b W.length := by
  refine flat_congr _ _ _ fun j hj => ?_
  have hj := List.mem_range.mp hj
  unfold pieceL
  dsimp only
  by_cases h : b.1 ≤ j
  · rw [if_pos ⟨h, by omega⟩, if_pos h, if_neg (by omega), List.take_length]
  · rw [if_neg (fun q => h q.1), if_neg h]
theorem pieces_stop (W : List PW) (b : Nat × Nat) (i k : Nat) (hi : i < W.length) (hb : b.1 ≤ i) :
    (List.range W.length).flatMap (pieceL W (b, (i, k))) = dnL W b i ++ [(((wdL W i).1.take k).drop (fromL b i), (wdL W i).2)] := by
  have e : W.length = i + 1 + (W.length - (i + 1)) := by omega
  have e3 : (List.range i).flatMap (pieceL W (b, (i, k))) = dnL W b i := by
    refine flat_congr _ _ _ fun j hj => ?_
    have hj := List.mem_range.mp hj
    unfold pieceL
    dsimp only
    by_cases h : b.1 ≤ j
    · rw [if_pos ⟨h, by omega⟩, if_pos h, if_neg (by omega), List.take_length]
    · rw [if_neg (fun q => h q.1), if_neg h]
  rw [e, List.range_add, List.flatMap_append, List.range_succ, List.flatMap_append, e3, List.append_assoc]
  congr 1
  rw [show (List.map (fun x => i + 1 + x) (List.range (W.length - (i + 1)))).flatMap (pieceL W (b, (i, k))) = [] from flat_nil _ _ fun j hj => by
    obtain ⟨x, _, rfl⟩ := List.mem_map.mp hj
    unfold pieceL
    rw [if_neg]
    dsimp only; omega]
  unfold pieceL
  dsimp only
  simp [hb]
theorem goW_cuts (W : List PW) : ∀ (ws : List PW) (i : Nat) (b : Nat × Nat), W.drop i = ws → i ≤ W.length → b.1 ≤ i → (b.1 = i → b.2 = 0) →
    goW ws (frontL W b) (dnL W b i) = (frontL W (cutRl i ws b).1, (List.range W.length).flatMap (pieceL W (cutRl i ws b)), backL W (cutRl i ws b).2)
  | [], i, b, h, hi, hb, _ => by
    have : i = W.length := Nat.le_antisymm hi (List.drop_eq_nil_iff.mp h)
    subst this
    unfold goW cutRl
    rw [pieces_end]
    unfold backL
    rw [if_neg (by simp)]
  | w :: ws, i, b, h, hi, hb, hb0 => by
    have hi' : i < W.length := by
      by_cases q : i < W.length
      · exact q
      · rw [List.drop_eq_nil_of_le (by omega)] at h; cases h
    have h2 : W.drop (i + 1) = ws := by rw [← List.drop_drop, h]; rfl
    have hw : wdL W i = w := by
      have e := List.drop_eq_getElem_cons hi'
      rw [h] at e; injection e with e _
      unfold wdL
      rw [List.getD_eq_getElem?_getD, List.getElem?_eq_getElem hi', e]; rfl
    have key := inW_cut W i w hw w.1 0 b rfl (Nat.zero_le _) hb (fun e => Nat.le_of_eq (hb0 e))
    have e0 : (w.1.take 0).drop (fromL b i) = [] := by simp
    rw [e0] at key
    unfold goW cutRl
    revert key
    cases cutW i 0 w.1 b with
    | error r =>
      rintro ⟨k', e1, e2, e3⟩
      obtain ⟨r1, r2⟩ := r
      dsimp only at e1 e2 e3 ⊢
      subst e1
      rw [e3]
      dsimp only
      rw [pieces_stop W r1 i k' hi' e2, hw]
      unfold backL
      rw [hw]
      cases w.2 <;> simp [hi']
    | ok b' =>
      rintro ⟨e1, e2⟩
      dsimp only
      rw [e2]
      dsimp only
      have e4 := dnL_succ W b' i e1
      rw [hw] at e4
      rw [← e4]
      exact goW_cuts W ws (i + 1) b' h2 hi' (Nat.le_succ_of_le e1) (fun e => by omega)
theorem goW_row (W : List PW) : goW W [] [] = (frontL W (cutRl 0 W (0, 0)).1, (List.range W.length).flatMap (pieceL W (cutRl 0 W (0, 0))), backL W (cutRl 0 W (0, 0)).2) := by
  have := goW_cuts W W 0 (0, 0) rfl (Nat.zero_le _) (Nat.le_refl _) (fun _ => rfl)
  exact this

-- _strip_exception_details on numbers
section
open PySem.StrLaws
theorem at_one {x : Str} {c hi i : Nat} : At x ⟨#[c]⟩ hi i ↔ i < hi ∧ x.cps.toList[i]? = some c := by
  unfold At
  rw [subAt_eq]
  show (i + 1 ≤ hi ∧ ((x.cps.toList.drop i).take 1 == [c]) = true) ↔ _
  rw [take1_drop]
  exact Iff.rfl
theorem first_one (x : Str) (c hi : Nat) :
    (occurrences x ⟨#[c]⟩ 0 hi 1 = [] ∧ ∀ i, i < hi → x.cps.toList[i]? ≠ some c) ∨ ∃ i r, occurrences x ⟨#[c]⟩ 0 hi 1 = i :: r ∧ i < hi ∧ x.cps.toList[i]? = some c ∧ ∀ k, k < i → x.cps.toList[k]? ≠ some c := by
  rw [occ_eq]
  rcases occ_first x ⟨#[c]⟩ hi 1 (Nat.le_refl _) (List.range' 0 (hi + 1 - 0)) 0 (fun _ _ => Nat.zero_le _) with ⟨h0, hn⟩ | ⟨pre, a, post, e, h0, ha, hn⟩
  · refine .inl ⟨by rw [h0], fun i hi' hc => ?_⟩
    exact hn i (by simp [List.mem_range'] <;> omega) (at_one.mpr ⟨hi', hc⟩)
  · obtain ⟨ha1, ha2⟩ := at_one.mp ha
    refine .inr ⟨a, ((forIn (List.range' 0 (hi + 1 - 0)) ((#[] : Array Nat), 0) (occBody x ⟨#[c]⟩ hi 1)).run.fst.toList).tail, ?_, ha1, ha2, fun k hk hc => hn k (range'_split e k hk) (at_one.mpr ⟨by omega, hc⟩)⟩
    generalize (forIn (List.range' 0 (hi + 1 - 0)) ((#[] : Array Nat), 0) (occBody x ⟨#[c]⟩ hi 1)).run.fst = arr at h0
    have h1 : arr.toList[0]? = some a := by simpa using h0
    cases hL : arr.toList with
    | nil => rw [hL] at h1; cases h1
    | cons b t => rw [hL] at h1; simp at h1; rw [h1]; rfl
theorem last_one (x : Str) (c hi : Nat) : (lastOccurrence x ⟨#[c]⟩ 0 hi = none ∧ ∀ i, i < hi → x.cps.toList[i]? ≠ some c) ∨ ∃ i, lastOccurrence x ⟨#[c]⟩ 0 hi = some i ∧ i < hi ∧ x.cps.toList[i]? = some c ∧ ∀ k, i < k → k < hi → x.cps.toList[k]? ≠ some c := by
  rw [last_eq]
  have key := last_run x ⟨#[c]⟩ hi (List.range' 0 (hi + 1 - 0)) [] none (fun _ h => nomatch h) (fun _ h => nomatch h) (by simpa using List.pairwise_lt_range' (s := 0) (n := hi + 1 - 0))
  have mem : ∀ i, i < hi → i ∈ [] ++ List.range' 0 (hi + 1 - 0) := fun i hi => by simp [List.mem_range'] <;> omega
  cases hr : (forIn (List.range' 0 (hi + 1 - 0)) none (lastBody x ⟨#[c]⟩ hi)).run with
  | none => rw [hr] at key; exact .inl ⟨rfl, fun i hi' hc => key i (mem i hi') (at_one.mpr ⟨hi', hc⟩)⟩
  | some a =>
    rw [hr] at key
    obtain ⟨ha1, ha2⟩ := at_one.mp key.1
    exact .inr ⟨a, rfl, ha1, ha2, fun k hk hk' hc => key.2 k (mem k hk') hk (at_one.mpr ⟨hk', hc⟩)⟩
end
theorem goL_plain : ∀ (l acc : List Nat), (∀ c ∈ l, c ≠ 58 ∧ c ≠ 10 ∧ c ≠ 46) → goL l acc = acc ++ l
  | [], acc, _ => by simp [goL]
  | c :: r, acc, h => by
    obtain ⟨h1, h2, h3⟩ := h c (.head _)
    rw [goL, if_neg (by omega), if_neg h3, goL_plain r _ fun c hc => h c (.tail _ hc)]
    simp
theorem goL_app : ∀ (l r acc : List Nat), (∀ c ∈ l, c ≠ 58 ∧ c ≠ 10) → goL (l ++ r) acc = goL r (goL l acc)
  | [], r, acc, _ => rfl
  | c :: l, r, acc, h => by
    obtain ⟨h1, h2⟩ := h c (.head _)
    have h0 : ¬ (c = 58 ∨ c = 10) := by omega
    simp only [List.cons_append, goL, if_neg h0]
    split
    · exact goL_app l r _ fun c hc => h c (.tail _ hc)
    · exact goL_app l r _ fun c hc => h c (.tail _ hc)
theorem fromIndex_0 (n : Nat) : fromIndex n 0 = 0 := by unfold fromIndex; simp
theorem fromIndex_n {n k : Nat} (h : k ≤ n) : min (fromIndex n (k : Int)) n = k := by
  unfold fromIndex
  rw [if_neg (by omega)]
  omega
theorem newline1 : Str.ofString "\n" = ⟨#[10]⟩ := by decide +kernel
theorem colon1 : Str.ofString ":" = ⟨#[58]⟩ := by decide +kernel
theorem dot1 : Str.ofString "." = ⟨#[46]⟩ := by decide +kernel
theorem e1_spec (x : Str) : ∃ n : Nat, e1F x = n ∧ n ≤ x.length ∧ (∀ k, k < n → x.cps.toList[k]? ≠ some 10) ∧ (n < x.length → x.cps.toList[n]? = some 10) := by
  unfold e1F
  have e : Txt.find x (Str.ofString "\n") = match occurrences x ⟨#[10]⟩ 0 x.length 1 with | i :: _ => (i : Int) | [] => -1 := by rw [newline1]; rfl
  rcases first_one x 10 x.length with ⟨h, hn⟩ | ⟨i, r, h, h1, h2, h3⟩
  · rw [e, h]
    exact ⟨x.length, by simp, Nat.le_refl _, hn, fun h => absurd h (Nat.lt_irrefl _)⟩
  · rw [e, h]
    exact ⟨i, by simp, Nat.le_of_lt h1, h3, fun _ => h2⟩
theorem e2_spec (x : Str) (n : Nat) (hn : n ≤ x.length) (he : e1F x = n) : ∃ m : Nat, e2F x = m ∧ m ≤ n ∧ (∀ k, k < m → x.cps.toList[k]? ≠ some 58) ∧ (m < n → x.cps.toList[m]? = some 58) := by
  unfold e2F
  rw [he]
  have e : find4 x (Str.ofString ":") 0 n = match occurrences x ⟨#[58]⟩ 0 n 1 with | i :: _ => (i : Int) | [] => -1 := by
    unfold find4; rw [colon1, fromIndex_0, fromIndex_n hn]
    all_goals rfl
  rcases first_one x 58 n with ⟨h, hn⟩ | ⟨i, r, h, h1, h2, h3⟩
  · rw [e, h]
    exact ⟨n, by simp, Nat.le_refl _, hn, fun h => absurd h (Nat.lt_irrefl _)⟩
  · rw [e, h]
    exact ⟨i, by simp, Nat.le_of_lt h1, h3, fun _ => h2⟩
theorem b2_spec (x : Str) (n : Nat) (hn : n ≤ x.length) (he : e2F x = n) : (b2F x = 0 ∧ ∀ k, k < n → x.cps.toList[k]? ≠ some 46) ∨ ∃ d : Nat, b2F x = (d + 1 : Nat) ∧ d < n ∧ x.cps.toList[d]? = some 46 ∧ ∀ k, d < k → k < n → x.cps.toList[k]? ≠ some 46 := by
  unfold b2F
  rw [he]
  have e : rfind4 x (Str.ofString ".") 0 n = match lastOccurrence x ⟨#[46]⟩ 0 n with | some i => (i : Int) | none => -1 := by
    unfold rfind4; rw [dot1, fromIndex_0, fromIndex_n hn]
    all_goals rfl
  rcases last_one x 46 n with ⟨h, hn⟩ | ⟨i, h, h1, h2, h3⟩
  · rw [e, h]
    exact .inl ⟨by simp, hn⟩
  · rw [e, h]
    exact .inr ⟨i, by simp, h1, h2, h3⟩
theorem slice_nat (x : Str) (a b : Nat) (h : a ≤ b) (hb : b ≤ x.length) : (Txt.slice x (some (a : Int)) (some (b : Int))).cps.toList = (x.cps.toList.take b).drop a := by
  have := slice_closesL (x := x) (i := (a : Int)) (j := (b : Int)) (by omega) (by omega) (by omega)
  rw [eq_of_beq this]
  have e : ((b : Int) - (a : Int)).toNat = b - a := by omega
  rw [e, Int.toNat_natCast, List.drop_take]
theorem strip_go (x : Str) : (stripF x).cps.toList = goL x.cps.toList [] := by
  obtain ⟨n1, e1, l1, f1, s1⟩ := e1_spec x
  obtain ⟨n2, e2, l2, f2, s2⟩ := e2_spec x n1 l1 e1
  have hlen : x.cps.toList.length = x.length := by simp [Str.length]
  have split : goL x.cps.toList [] = goL (x.cps.toList.take n2) [] := by
    have noStop : ∀ c ∈ x.cps.toList.take n2, c ≠ 58 ∧ c ≠ 10 := by
      intro c hc
      obtain ⟨k, hk, hkc⟩ := List.mem_take_iff_getElem.mp hc
      have hk1 : k < n2 := by omega
      have hk2 : x.cps.toList[k]? = some c := by rw [← hkc]; exact List.getElem?_eq_getElem _
      exact ⟨fun q => f2 k hk1 (q ▸ hk2), fun q => f1 k (by omega) (q ▸ hk2)⟩
    have ends : ∀ acc, goL (x.cps.toList.drop n2) acc = acc := by
      intro acc
      by_cases h : n2 < x.length
      · have hs : x.cps.toList[n2]? = some 58 ∨ x.cps.toList[n2]? = some 10 := by
          by_cases h2 : n2 < n1
          · exact .inl (s2 h2)
          · have : n2 = n1 := by omega
            subst this
            exact .inr (s1 h)
        have hl : n2 < x.cps.toList.length := by omega
        rw [List.drop_eq_getElem_cons hl]
        rw [List.getElem?_eq_getElem hl] at hs
        rw [goL, if_pos]
        rcases hs with hs | hs
        · exact .inl (Option.some.inj hs)
        · exact .inr (Option.some.inj hs)
      · rw [List.drop_eq_nil_of_le (by omega)]; rfl
    conv => lhs; rw [← List.take_append_drop n2 x.cps.toList]
    rw [goL_app _ _ _ noStop, ends]
  have noStop : ∀ k c, k < n2 → x.cps.toList[k]? = some c → c ≠ 58 ∧ c ≠ 10 := fun k c hk hc => ⟨fun q => f2 k hk (q ▸ hc), fun q => f1 k (by omega) (q ▸ hc)⟩
  rw [split]
  unfold stripF
  rw [e2]
  rcases b2_spec x n2 (by omega) e2 with ⟨hb, hd⟩ | ⟨d, hb, h1, h2, h3⟩
  · rw [hb]
    have : (0 : Int) = ((0 : Nat) : Int) := rfl
    rw [this, slice_nat x 0 n2 (Nat.zero_le _) (by omega), List.drop_zero, goL_plain]
    · rfl
    · intro c hc
      obtain ⟨k, hk, hkc⟩ := List.mem_take_iff_getElem.mp hc
      have hk2 : x.cps.toList[k]? = some c := by rw [← hkc]; exact List.getElem?_eq_getElem _
      have := noStop k c (by omega) hk2
      exact ⟨this.1, this.2, fun q => hd k (by omega) (q ▸ hk2)⟩
  · rw [hb, slice_nat x (d + 1) n2 h1 (by omega)]
    have hd : d < (x.cps.toList.take n2).length := by rw [List.length_take]; omega
    have hget : (x.cps.toList.take n2)[d] = 46 := by
      rw [List.getElem_take]
      rw [List.getElem?_eq_getElem (by omega)] at h2
      exact Option.some.inj h2
    have e : x.cps.toList.take n2 = (x.cps.toList.take n2).take d ++ 46 :: (x.cps.toList.take n2).drop (d + 1) := by
      conv => lhs; rw [← List.take_append_drop d (x.cps.toList.take n2), List.drop_eq_getElem_cons hd, hget]
    conv => rhs; rw [e]
    rw [goL_app, goL, if_neg (by decide), if_pos rfl, goL_plain]
    · rfl
    · intro c hc
      obtain ⟨k, hk, hkc⟩ := List.getElem_of_mem hc
      rw [List.length_drop, List.length_take] at hk
      have hk2 : x.cps.toList[d + 1 + k]? = some c := by
        rw [← hkc, List.getElem_drop, List.getElem_take]
        exact List.getElem?_eq_getElem _
      have := noStop _ c (by omega) hk2
      exact ⟨this.1, this.2, fun q => h3 (d + 1 + k) (by omega) (by omega) (q ▸ hk2)⟩
    · intro c hc
      have hc := List.mem_of_mem_take hc
      obtain ⟨k, hk, hkc⟩ := List.mem_take_iff_getElem.mp hc
      have hk2 : x.cps.toList[k]? = some c := by rw [← hkc]; exact List.getElem?_eq_getElem _
      exact noStop k c (by omega) hk2

-- the row's law
theorem range_none {p q : Int} (h : ¬ p < q) : sliceRange p q 1 = [] := by
  unfold sliceRange
  simp [h]
theorem slice_any (x : Str) (a b : Nat) : (Txt.slice x (some (a : Int)) (some (b : Int))).cps.toList = (x.cps.toList.take b).drop a := by
  have ea : ∀ n : Nat, max (0 : Int) (min (n : Int) (x.length : Int)) = ((min n x.length : Nat) : Int) := by intro n; omega
  have hlen : x.cps.toList.length = x.length := by simp [Str.length]
  have e : Txt.slice x (some (a : Int)) (some (b : Int)) = Txt.slice x (some ((min a x.length : Nat) : Int)) (some ((min b x.length : Nat) : Int)) := by
    unfold Txt.slice
    have : strSliceIndices (some (a : Int)) (some (b : Int)) 1 x.length = strSliceIndices (some ((min a x.length : Nat) : Int)) (some ((min b x.length : Nat) : Int)) 1 x.length := by
      unfold strSliceIndices
      dsimp only
      have h1 : ¬ ((a : Int) < 0) := by omega
      have h2 : ¬ ((b : Int) < 0) := by omega
      have h3 : ¬ (((min a x.length : Nat) : Int) < 0) := by omega
      have h4 : ¬ (((min b x.length : Nat) : Int) < 0) := by omega
      rw [if_neg h1, if_neg h2, if_neg h3, if_neg h4]
      rw [if_pos (by decide), if_pos (by decide), if_pos (by decide), if_pos (by decide), ea, ea, ea, ea]
      congr 2 <;> omega
    rw [this]
  rw [e]
  by_cases h : min a x.length ≤ min b x.length
  · rw [slice_nat x _ _ h (Nat.min_le_right ..)]
    have e1 : x.cps.toList.take (min b x.length) = x.cps.toList.take b := by
      by_cases q : b ≤ x.length
      · rw [Nat.min_eq_left q]
      · rw [Nat.min_eq_right (by omega), List.take_of_length_le (by omega), List.take_of_length_le (by omega)]
    rw [e1]
    by_cases q : a ≤ x.length
    · rw [Nat.min_eq_left q]
    · rw [Nat.min_eq_right (by omega), List.drop_eq_nil_of_le (by rw [List.length_take]; omega), List.drop_eq_nil_of_le (by rw [List.length_take]; omega)]
  · have e2 : strSliceIndices (some ((min a x.length : Nat) : Int)) (some ((min b x.length : Nat) : Int)) 1 x.length = [] := by
      unfold strSliceIndices
      dsimp only
      have h3 : ¬ (((min a x.length : Nat) : Int) < 0) := by omega
      have h4 : ¬ (((min b x.length : Nat) : Int) < 0) := by omega
      rw [if_neg h3, if_neg h4, if_pos (by decide), if_pos (by decide), ea, ea]
      exact range_none (by omega)
    unfold Txt.slice
    rw [e2, if_neg (by simp; omega)]
    have : (x.cps.toList.take b).drop a = [] := List.drop_eq_nil_of_le (by rw [List.length_take]; omega)
    rw [this]
    rfl
noncomputable def wordL (p : Str × Tok) : PW := (p.1.cps.toList, bareF p.1)
theorem cutR_l : ∀ (ws : List (Str × Tok)) (i : Nat) (b : Nat × Nat), cutR i ws b = cutRl i (ws.map wordL) b
  | [], _, _ => rfl
  | w :: ws, i, b => by
    unfold cutR
    rw [List.map_cons]
    unfold cutRl
    show (match cutW i 0 w.1.cps.toList b with | .error r => r | .ok b' => cutR (i + 1) ws b') = match cutW i 0 w.1.cps.toList b with | .error r => r | .ok b' => cutRl (i + 1) (ws.map wordL) b'
    cases cutW i 0 w.1.cps.toList b with
    | error r => rfl
    | ok b' => exact cutR_l ws (i + 1) b'
theorem bare_empty : bareF ⟨#[]⟩ = false := by rw [bareF_iff]; rfl
theorem wdL_word (ws : List (Str × Tok)) (i : Nat) : wdL (ws.map wordL) i = ((wordAt ws i).cps.toList, bareF (wordAt ws i)) := by
  unfold wdL wordAt
  rw [List.getD_eq_getElem?_getD, List.getD_eq_getElem?_getD, List.getElem?_map]
  cases ws[i]? with
  | some p => rfl
  | none =>
    show (([] : List Nat), false) = _
    rw [show (none.getD ((⟨#[]⟩ : Str), (0 : Tok))).1 = ⟨#[]⟩ from rfl, bare_empty]
noncomputable def strL (p : Str × Bool) : PW := (p.1.cps.toList, p.2)
theorem piece_l (ws : List (Str × Tok)) (c : (Nat × Nat) × (Nat × Nat)) (i : Nat) : (pieceAt ws c i).map strL = pieceL (ws.map wordL) c i := by
  unfold pieceAt pieceL
  split
  · rw [wdL_word]
    simp only [List.map_cons, List.map_nil, strL]
    congr 2
    have e1 : (if i = c.1.1 then (c.1.2 : Int) else 0) = ((fromL c.1 i : Nat) : Int) := by unfold fromL; split <;> rfl
    have e2 : (if i = c.2.1 then (c.2.2 : Int) else ((wordAt ws i).length : Int)) = (((if i = c.2.1 then c.2.2 else (wordAt ws i).cps.toList.length) : Nat) : Int) := by
      split
      · rfl
      · simp [Str.length]
    rw [e1, e2, slice_any]
  · rfl
theorem quote1L : (Str.ofString "'").cps.toList = [39] := by decide +kernel
theorem empty1L : (Str.ofString "").cps.toList = [] := by decide +kernel
theorem blank1L : (Str.ofString " ").cps.toList = [32] := by decide +kernel
theorem row_l (ws : List (Str × Tok)) : goW (ws.map wordL) [] [] = ((frontF ws).cps.toList, (piecesF ws).map strL, (backF ws).cps.toList) := by
  rw [goW_row]
  have ec : cutRl 0 (ws.map wordL) (0, 0) = cutsF ws := (cutR_l ws 0 (0, 0)).symm
  rw [ec]
  refine Prod.ext ?_ (Prod.ext ?_ ?_)
  · show frontL _ _ = _
    unfold frontL frontF
    rw [wdL_word]
    dsimp only
    split
    · exact quote1L.symm
    · exact empty1L.symm
  · show List.flatMap _ _ = _
    unfold piecesF piecesTo
    rw [List.map_flatMap, List.length_map]
    exact flat_congr _ _ _ fun j _ => (piece_l ws _ j).symm
  · show backL _ _ = _
    unfold backL backF
    rw [wdL_word, List.length_map]
    dsimp only
    split
    · exact quote1L.symm
    · exact empty1L.symm
theorem joinL (l : List Str) : (Txt.join (Str.ofString " ") l).cps.toList = sepL (l.map fun x => x.cps.toList) := by
  unfold Txt.join
  rw [StrLaws.glued_eq_join]
  induction l with
  | nil => exact empty1L
  | cons a r ih =>
    cases r with
    | nil => rfl
    | cons b t =>
      show (a ++ Str.ofString " " ++ Str.join (Str.ofString " ") (b :: t)).cps.toList = _
      simp only [Str.cps_append, Array.toList_append, ih, blank1L, List.map_cons, sepL]
      simp
theorem spelled_l (x : Str) (b : Bool) : (spelledF x b).cps.toList = dispL (x.cps.toList, b) := by
  unfold spelledF dispL
  cases b with
  | true => rfl
  | false =>
    simp only [Bool.false_eq_true, if_false]
    show (Str.ofString "'" ++ spellJ x ++ Str.ofString "'").cps.toList = _
    simp only [Str.cps_append, Array.toList_append, quote1L, spellJ_esc]
    simp
theorem str_ext {x y : Str} (h : x.cps.toList = y.cps.toList) : x = y := by
  obtain ⟨⟨a⟩⟩ := x; obtain ⟨⟨b⟩⟩ := y; simp only at h; rw [h]
noncomputable def lineF (ws : List (Str × Tok)) : Str := Txt.join (Str.ofString " ") ((piecesF ws).map fun p => spelledF p.1 p.2)
theorem lineF_l (ws : List (Str × Tok)) : (lineF ws).cps.toList = sepL (((piecesF ws).map strL).map dispL) := by
  unfold lineF
  rw [joinL, List.map_map, List.map_map]
  congr 1
  exact List.map_congr_left fun p _ => spelled_l p.1 p.2
theorem joinF_l (ws : List (Str × Tok)) : (joinF ws).cps.toList = sepL ((ws.map wordL).map dispL) := by
  unfold joinF
  rw [joinL, List.map_map, List.map_map]
  congr 1
  exact List.map_congr_left fun p _ => spelled_l p.1 (bareF p.1)
/-- the first half of the law -/
theorem law_one (ws : List (Str × Tok)) : frontF ws ++ stripF (joinF ws) ++ backF ws = lineF ws := by
  apply str_ext
  rw [lineF_l]
  have h := law_line (ws.map wordL)
  rw [row_l] at h
  dsimp only at h
  rw [← h]
  simp only [Str.cps_append, Array.toList_append, strip_go, joinF_l]
theorem bare_open : ∀ c ∈ bareL, openC c = true := by decide
theorem words_ok (ws : List (Str × Tok)) : OkP (ws.map wordL) := by
  intro p hp hb c hc
  obtain ⟨q, _, rfl⟩ := List.mem_map.mp hp
  have hb : bareF q.1 = true := hb
  rw [bareF_iff, Bool.and_eq_true, List.all_eq_true] at hb
  exact bare_open c (of_decide_eq_true (hb.2 c hc))
noncomputable def keptS (p : Str × Bool) : Bool := (p.1 != Str.ofString "") || !p.2
theorem keptS_l (p : Str × Bool) : keptP (strL p) = keptS p := by
  unfold keptP keptS strL
  congr 1
  rw [Bool.eq_iff_iff]
  simp only [Bool.not_eq_true', beq_eq_false_iff_ne, bne_iff_ne, ne_eq]
  constructor
  · intro h q; rw [q] at h; exact h empty1L
  · intro h q; exact h (str_ext (q.trans empty1L.symm))
/-- the second half -/
theorem law_two (ws : List (Str × Tok)) : Lexes (lineF ws).cps.toList .ws (((piecesF ws).filter keptS).map fun p => p.1.cps.toList) := by
  have h := law_split (ws.map wordL) (words_ok ws)
  rw [row_l] at h
  dsimp only at h
  rw [← lineF_l] at h
  have e : (((piecesF ws).map strL).filter keptP).map (·.1) = ((piecesF ws).filter keptS).map fun p => p.1.cps.toList := by
    rw [List.filter_map, List.map_map]
    congr 1
    exact List.filter_congr fun p _ => keptS_l p
  rw [e] at h
  exact h

section
-- the two comprehensions over the pieces, their elements
noncomputable abbrev scS : Scope := { kind := .function, names := [(Str.ofString ".0", .local), (Str.ofString "part", .local), (Str.ofString "bare", .local), (Str.ofString "_law_spelled", .globalImplicit)], isGenerator := false, isCoroutine := false }
noncomputable abbrev scT : Scope := { kind := .function, names := [(Str.ofString ".0", .local), (Str.ofString "part", .local), (Str.ofString "bare", .local)], isGenerator := false, isCoroutine := false }
noncomputable abbrev envS (C : Addr) (env0 : Env) : Env := compEnvC scS [] C env0
noncomputable abbrev envT (C : Addr) (env0 : Env) : Env := compEnvC scT [] C env0
theorem kd_sp (C : Addr) (env0 : Env) : (envS C env0).kindOf (Str.ofString "part") = some .local := by kernel_rfl
theorem kd_sb (C : Addr) (env0 : Env) : (envS C env0).kindOf (Str.ofString "bare") = some .local := by kernel_rfl
theorem kd_ss (C : Addr) (env0 : Env) : (envS C env0).kindOf (Str.ofString "_law_spelled") = some .globalImplicit := by kernel_rfl
theorem kd_tp (C : Addr) (env0 : Env) : (envT C env0).kindOf (Str.ofString "part") = some .local := by kernel_rfl
theorem kd_tb (C : Addr) (env0 : Env) : (envT C env0).kindOf (Str.ofString "bare") = some .local := by kernel_rfl
theorem nd_p : (Str.ofString "part" == ("__debug__" : Str)) = false := by decide +kernel
theorem nd_b : (Str.ofString "bare" == ("__debug__" : Str)) = false := by decide +kernel
theorem nd_sp : (Str.ofString "_law_spelled" == ("__debug__" : Str)) = false := by decide +kernel
theorem ni_sp (P : Params) : nsIn (Mine.H.K P) mainGlobals (Str.ofString "_law_spelled") = some (some (.ref 797)) := by kernel_rfl
section
variable {w : World} {prog : Program} {A : Around} {E : Value → Shared → Prop} {s : Shared} {h₀ : Heap} {C : Addr} {m mg mb : Str → Option Value} {env0 : Env} {pos : Pos} {Q : Value → Shared → Prop} {v : Value} {p : Program} {loose : List Str} {mean : ExcName → Option Value}
theorem ev_sp (F : Fr h₀ C s.heap m) (hm : m (Str.ofString "part") = some v) (h : Q v s) : wpAny (model prog w) A (eval (.Name (Str.ofString "part") pos) (envS C env0)) Q E s := ldVarK F.ns hm h rfl (kd_sp C env0) nd_p
theorem ev_sb (F : Fr h₀ C s.heap m) (hm : m (Str.ofString "bare") = some v) (h : Q v s) : wpAny (model prog w) A (eval (.Name (Str.ofString "bare") pos) (envS C env0)) Q E s := ldVarK F.ns hm h rfl (kd_sb C env0) nd_b
theorem ev_tp (F : Fr h₀ C s.heap m) (hm : m (Str.ofString "part") = some v) (h : Q v s) : wpAny (model prog w) A (eval (.Name (Str.ofString "part") pos) (envT C env0)) Q E s := ldVarK F.ns hm h rfl (kd_tp C env0) nd_p
theorem ev_tb (F : Fr h₀ C s.heap m) (hm : m (Str.ofString "bare") = some v) (h : Q v s) : wpAny (model prog w) A (eval (.Name (Str.ofString "bare") pos) (envT C env0)) Q E s := ldVarK F.ns hm h rfl (kd_tb C env0) nd_b
theorem ev_ss (hg : env0.globals = mainGlobals) (F : Fr h₀ C s.heap m) (X : (Mine.H.K w.params).In h₀) (T : Top p loose mean mg mb h₀) (h : Q (.ref 797) s) : wpAny (model prog w) A (eval (.Name (Str.ofString "_law_spelled") pos) (envS C env0)) Q E s :=
  nameG_K F X (topRead_of T) (ni_sp _) h hg rfl (kd_ss C env0) nd_sp
end
noncomputable def SpelledV (q : Str × Bool) (y : Value) : Prop := ∃ t', y = .str (spelledF q.1 q.2) t'
noncomputable def PartV (q : Str × Bool) (y : Value) : Prop := ∃ t', y = .str q.1 t'



local macro_rules | `(tactic| walk_at "eval Name") => `(tactic| (k_here; first | (with_reducible refine ev_sp (by assumption) (by assumption) ?_) | (with_reducible refine ev_sb (by assumption) (by assumption) ?_) | (with_reducible refine ev_ss (by assumption) (by assumption) (by assumption) (by assumption) ?_) | (with_reducible refine ev_tp (by assumption) (by assumption) ?_) | (with_reducible refine ev_tb (by assumption) (by assumption) ?_)))
local macro_rules | `(tactic| walk_at "call ref") => `(tactic| (k_here; (with_reducible show wpAny _ _ (call (Value.ref 797) [Value.str _ _, Value.bool _]) _ _ _); k_dflt (refine' spelledG_spec _ _ _ _ _ _ _ _ none (Str.ofString "") { kind := .function, names := [], isGenerator := false, isCoroutine := false } 0 .none [] [] callerA _ _ _ _ _ _ _ _ _ _ ?B ?F ?X ?N ?T ?hk ?hd ?hu ?h0 ?_; (case B => exact below_caller _); (case F | X => k_asm); (case N => exact News.nil); (case T => k_asm); (case hk => rfl); (case hd => ktr_room); (case hu => ktr_units); (case h0 => assumption)); intro v' h' tk' hv' hk'; (try dsimp only); (try k_fold)))

set_option maxHeartbeats 4000000 in
theorem elt_spelled : ∀ (w : World) (p : Program) (loose : List Str) (mean : ExcName → Option Value) (mg mb : Str → Option Value) (dp un : Nat) (h₀ : Heap) (env0 : Env) (C : Addr) (s : Shared) (m : Str → Option Value) (x : Str) (t : Tok) (b : Bool) (E : Value → Shared → Prop), env0.globals = mainGlobals → Fr h₀ C s.heap m → (Mine.H.K w.params).In h₀ → Top p loose mean mg mb h₀ → dp + 100 < recursionLimit → un + 1000 < cLine → m (Str.ofString "part") = some (.str x t) → m (Str.ofString "bare") = some (.bool b) → x.length ≤ 10 →
  wpAny (model PySem.Challenge.rw_mq0393_01.prog w) (kBare dp un) (eval (.Call (.Name (Str.ofString "_law_spelled") ⟨798, 33, 798, 45⟩) [.Name (Str.ofString "part") ⟨798, 46, 798, 50⟩, .Name (Str.ofString "bare") ⟨798, 52, 798, 56⟩] [] ⟨798, 33, 798, 57⟩) (envS C env0)) (fun y s₃ => SpelledV (x, b) y ∧ Keeps s s₃) E s := by
  k_fill
  intro w p loose mean mg mb dp un h₀ env0 C s m x t b E hg F X T hd hu hm1 hm2 hx
  walk_at "mine steps"
  · rename ∃ _, _ => hv; exact hv
  · rename KeptIn _ _ => hk9; exact keeps_of (tk := 0) hk9

set_option maxHeartbeats 4000000 in
theorem elt_part : ∀ (w : World) (p : Program) (loose : List Str) (mean : ExcName → Option Value) (mg mb : Str → Option Value) (dp un : Nat) (h₀ : Heap) (env0 : Env) (C : Addr) (s : Shared) (m : Str → Option Value) (x : Str) (t : Tok) (b : Bool) (E : Value → Shared → Prop), env0.globals = mainGlobals → Fr h₀ C s.heap m → (Mine.H.K w.params).In h₀ → Top p loose mean mg mb h₀ → dp + 100 < recursionLimit → un + 1000 < cLine → m (Str.ofString "part") = some (.str x t) → m (Str.ofString "bare") = some (.bool b) → x.length ≤ 10 →
  wpAny (model PySem.Challenge.rw_mq0393_01.prog w) (kBare dp un) (eval (.Name (Str.ofString "part") ⟨800, 31, 800, 35⟩) (envT C env0)) (fun y s₃ => PartV (x, b) y ∧ Keeps s s₃) E s := by
  k_fill
  intro w p loose mean mg mb dp un h₀ env0 C s m x t b E hg F X T hd hu hm1 hm2 hx
  refine ev_tp F hm1 ?_
  exact ⟨⟨_, rfl⟩, Keeps.rfl' _⟩

set_option maxHeartbeats 4000000 in
theorem test_part : ∀ (w : World) (p : Program) (loose : List Str) (mean : ExcName → Option Value) (mg mb : Str → Option Value) (dp un : Nat) (h₀ : Heap) (env0 : Env) (C : Addr) (s : Shared) (m : Str → Option Value) (x : Str) (t : Tok) (b : Bool) (E : Value → Shared → Prop), env0.globals = mainGlobals → Fr h₀ C s.heap m → (Mine.H.K w.params).In h₀ → Top p loose mean mg mb h₀ → dp + 100 < recursionLimit → un + 1000 < cLine → m (Str.ofString "part") = some (.str x t) → m (Str.ofString "bare") = some (.bool b) → x.length ≤ 10 →
  wpAny (model PySem.Challenge.rw_mq0393_01.prog w) (kBare dp un) (testsOf [(.BoolOp .Or [.Compare (.Name (Str.ofString "part") ⟨800, 63, 800, 67⟩) [.NotEq] [.Constant (.str (Str.ofString "")) 0 ⟨800, 71, 800, 73⟩] ⟨800, 63, 800, 73⟩, .UnaryOp .Not (.Name (Str.ofString "bare") ⟨800, 81, 800, 85⟩) ⟨800, 77, 800, 85⟩] ⟨800, 63, 800, 85⟩)] (envT C env0)) (fun ok s₃ => ok = keptS (x, b) ∧ Keeps s s₃) E s := by
  k_fill
  intro w p loose mean mg mb dp un h₀ env0 C s m x t b E hg F X T hd hu hm1 hm2 hx
  refine wpAny_tests_one ?_
  walk_at "mine steps"
  all_goals first
    | exact ⟨_, _, rfl, fun _ _ e => e⟩
    | (unfold keptS; simp_all; done)
end

-- the law's first statement in its frame
theorem ints_mem : ∀ {vs : List Value} {ns : List Int}, IntsAre vs ns → ∀ v ∈ vs, ∃ n u, v = .int n u := by
  intro vs ns h
  induction h with
  | nil => intro v hv; cases hv
  | cons _ _ _ ih =>
    intro v hv
    rcases List.mem_cons.mp hv with rfl | hv
    · exact ⟨_, _, rfl⟩
    · exact ih v hv
noncomputable def WordsOk (ws : List (Str × Tok)) : Prop := ∀ p ∈ ws, p.1.length ≤ 10 ∧ PyData.strOk p.1 = true
theorem paired_words {α : Type} : ∀ {l : List α} {ys : List Value}, Paired (fun _ y => WordV y) l ys → ∃ ws : List (Str × Tok), ys = strVs ws ∧ ws.length = l.length ∧ WordsOk ws
  | _, _, .nil => ⟨[], rfl, rfl, fun _ h => nomatch h⟩
  | _, _, .cons h t => by
    obtain ⟨x, u, rfl, h1, h2⟩ := h
    obtain ⟨ws, e1, e2, e3⟩ := paired_words t
    refine ⟨(x, u) :: ws, by rw [e1]; rfl, by simp [e2], fun p hp => ?_⟩
    rcases List.mem_cons.mp hp with rfl | hp
    · exact ⟨h1, h2⟩
    · exact e3 p hp
section
variable {prog : Program} {w : World} {A : Around} {E : Value → Shared → Prop} {s : Shared} {env : Env} {h₀ : Heap} {m : Str → Option Value} {news : List (Addr × Obj)}
theorem assign_row {y : Str} {py : Pos} {v : Value} {C : Addr} {mC : Str → Option Value} {L : Addr} (F : Fr h₀ L s.heap m) (N : News h₀ L s.heap news) (hC : s.heap.Ns C mC) (hCL : C ≠ L) (hC0 : h₀.get? C = none) (hCn : ∀ p ∈ news, p.1 ≠ C)
    (hy : env.kindOf y = some .local) (hp : (env.scope.kind == .class || (env.scope.kind == .module && env.locals != env.globals)) = false) (hLe : env.locals = L) :
    wpAny (model prog w) A (assign (.Name y py) env v) (fun _ s₄ => ∃ h₂ tk, s₄ = { s with heap := h₂, toks := tk } ∧ h₂.Ns C mC ∧ ∀ h'', Heap.SameBut C h₂ h'' → Fr h₀ L h'' (fun z => if z = y then some v else m z) ∧ News h₀ L h'' news) E s := by
  subst hLe
  refine wpAny_assign_Name (wpAny_storeName_local hy F.ns (fun h₂ hn₂ hs₂ => ?_) hp)
  have hL₀ : h₀.get? env.locals = none := Heap.get?_none_of_le F.above
  refine ⟨h₂, _, rfl, hC.at' fun o e => hs₂.extBut _ o hCL e, fun h'' hs'' => ?_⟩
  refine ⟨⟨hn₂.at' fun o e => hs''.extBut _ o (Ne.symm hCL) e, fun b o e => ?_, F.above⟩, fun p hp => ⟨?_, (N p hp).2⟩⟩
  · exact hs''.extBut b o (fun q => by rw [q, hC0] at e; cases e) (hs₂.extBut b o (fun q => by rw [q, hL₀] at e; cases e) (F.keep b o e))
  · exact hs''.extBut _ _ (hCn p hp) (hs₂.extBut _ _ (N p hp).2.1 (N p hp).1)
end

-- the law's loops over ranges, its row and its slices
theorem slice_strs {ws : List (Str × Tok)} {a b : Int} (h0 : 0 ≤ a) (h1 : a ≤ b) (h2 : b ≤ ws.length) :
    slicePick (strVs ws).toArray (some a) (some b) none = (strVs ((ws.drop a.toNat).take (b.toNat - a.toNat))).toArray := by
  rw [slicePick_plain]
  have e : (strVs ws).toArray.size = ws.length := by simp [strVs]
  simp only [Option.elim, e]
  rw [clipAt_in h0 (by omega), clipAt_in (by omega) h2]
  simp [strVs, List.map_take, List.map_drop]
section
variable {prog : Program} {w : World} {A : Around} {E : Value → Shared → Prop} {s : Shared} {h₀ : Heap} {L : Addr} {m : Str → Option Value} {news : List (Addr × Obj)}
theorem row_add {l b : Addr} {ws us : List (Str × Tok)} {n k : Nat} {o : Obj} {Q : Value → Shared → Prop} (F : Fr h₀ L s.heap m) (N : News h₀ L s.heap news) (hl : (l, listO ws n) ∈ news) (hb : (b, o) ∈ news) (ho : o = listO us k)
    (hw : ws.length ≤ 100) (hu : us.length ≤ 100)
    (h : ∀ D h', Fr h₀ L h' m → News h₀ L h' ((D, listO (ws ++ us) 0) :: news) → (∀ p ∈ news, p.1 < D) → Q (.ref D) { s with heap := h' }) :
    wpAny (model prog w) A (binaryOp .Add (.ref l) (.ref b)) Q E s := by
  subst ho
  refine add_lists F N (vs := strVs ws) (ws := strVs us) ⟨_, N.get hl, rfl, n, rfl⟩ ⟨_, N.get hb, rfl, k, rfl⟩ (fun h' F' N' => h _ h' F' ?_ fun p hp => Heap.lt_size (N p hp).1) (by rw [strVs_len, strVs_len, sizeLine_eq]; omega)
  have e : strVs ws ++ strVs us = strVs (ws ++ us) := by simp [strVs]
  rw [e] at N'
  exact N'
theorem row_slice {value slice : Expr} {R : Addr} {ws : List (Str × Tok)} {n : Nat} {a b : Int} {ta tb : Tok} {Q : Value → Shared → Prop}
    (F : Fr h₀ L s.heap m) (N : News h₀ L s.heap news) (hm : (R, listO ws n) ∈ news) (h0 : 0 ≤ a) (h1 : a ≤ b) (h2 : b ≤ ws.length) (hw : ws.length ≤ 100)
    (h : ∀ D h', Fr h₀ L h' m → News h₀ L h' ((D, listO ((ws.drop a.toNat).take (b.toNat - a.toNat)) 0) :: news) → (∀ p ∈ news, p.1 < D) → Q (.ref D) { s with heap := h' })
    (hs : subscripted slice false (.ref R) (.ref s.heap.objs.size) = operate [.ref s.heap.objs.size, .ref R] (getItem (.ref R) (.ref s.heap.objs.size)) := by with_unfolding_all rfl)
    (ht : ∀ r, letTemporaryGo value (.ref R) r = pure () := by intro _; with_unfolding_all rfl) :
    wpAny (model prog w) A (subscriptTail value slice (.ref R) (.ref s.heap.objs.size)) Q E { s with heap := s.heap.push { cls := .type "slice", data := .fields #[.int a ta, .int b tb, .none] } } := by
  refine slice_list F N ⟨_, N.get hm, rfl, n, rfl⟩ (.int _ _) (.int _ _) (fun h' F' N' => h _ h' F' ?_ fun p hp => Nat.lt_succ_of_lt (Heap.lt_size (N p hp).1)) hs ht (by simp only [List.size_toArray, strVs_len, sizeLine_eq]; omega)
  rw [slice_strs h0 h1 h2] at N'
  exact N'
end
noncomputable def SliceOf (ws : List (Str × Tok)) (a b : Int) (us : List (Str × Tok)) : Prop := us = (ws.drop a.toNat).take (b.toNat - a.toNat) ∧ 0 ≤ a ∧ a ≤ b ∧ b ≤ ws.length ∧ ws.length ≤ 6
theorem slice_of {ws : List (Str × Tok)} {a b : Int} (hok : WordsOk ws) (hl : ws.length ≤ 6) (h0 : 0 ≤ a) (h1 : a ≤ b) (h2 : b ≤ ws.length) : ∃ us, SliceOf ws a b us ∧ us.length ≤ 6 ∧ (∀ p ∈ us, p.1.length ≤ 10) ∧ (∀ p ∈ us, PyData.strOk p.1 = true) := by
  have hm : ∀ p ∈ (ws.drop a.toNat).take (b.toNat - a.toNat), p ∈ ws := fun p hp => List.mem_of_mem_drop (List.mem_of_mem_take hp)
  refine ⟨_, ⟨rfl, h0, h1, h2, hl⟩, ?_, fun p hp => (hok p (hm p hp)).1, fun p hp => (hok p (hm p hp)).2⟩
  rw [List.length_take, List.length_drop]
  omega
section
variable {prog : Program} {w : World} {A : Around} {E : Value → Shared → Prop} {s : Shared} {h₀ : Heap} {L : Addr} {m : Str → Option Value} {news : List (Addr × Obj)}
theorem ne_753 {ps : Array Value} {q : Addr} {o : Obj} (N : News h₀ L s.heap news) (h1 : (753, tabO ps) ∈ news) (h2 : (q, o) ∈ news) (hc : o.cls ≠ .none) : q ≠ 753 := by
  rintro rfl
  have e1 := N.get h1
  have e2 := N.get h2
  rw [e1] at e2
  injection e2 with e2
  rw [← e2] at hc
  exact hc rfl
theorem law_slice {value slice : Expr} {R : Addr} {ws us : List (Str × Tok)} {n : Nat} {a b : Int} {ta tb : Tok} {Q : Value → Shared → Prop}
    (F : Fr h₀ L s.heap m) (N : News h₀ L s.heap news) (hm : (R, listO ws n) ∈ news) (hus : SliceOf ws a b us)
    (h : ∀ D h', Fr h₀ L h' m → News h₀ L h' ((D, listO us 0) :: news) → (∀ p ∈ news, p.1 < D) → Q (.ref D) { s with heap := h' })
    (hs : subscripted slice false (.ref R) (.ref s.heap.objs.size) = operate [.ref s.heap.objs.size, .ref R] (getItem (.ref R) (.ref s.heap.objs.size)) := by with_unfolding_all rfl)
    (ht : ∀ r, letTemporaryGo value (.ref R) r = pure () := by intro _; with_unfolding_all rfl) :
    wpAny (model prog w) A (subscriptTail value slice (.ref R) (.ref s.heap.objs.size)) Q E { s with heap := s.heap.push { cls := .type "slice", data := .fields #[.int a ta, .int b tb, .none] } } := by
  obtain ⟨e, h0, h1, h2, hw⟩ := hus
  subst e
  exact row_slice F N hm h0 h1 h2 (by omega) h hs ht
theorem law_add {l b : Addr} {ws : List (Str × Tok)} {n k : Nat} {t1 t2 : Tok} {Q : Value → Shared → Prop} (F : Fr h₀ L s.heap m) (N : News h₀ L s.heap news) (hl : (l, listO ws n) ∈ news) (hb : (b, listO [(Str.ofString "m.E", t1), (Str.ofString "it's: c.d", t2)] k) ∈ news)
    (hok : WordsOk ws) (hw : ws.length ≤ 4)
    (h : ∀ D h' ws', WordsOk ws' → ws'.length ≤ 6 → Fr h₀ L h' m → News h₀ L h' ((D, listO ws' 0) :: news) → (∀ p ∈ news, p.1 < D) → Q (.ref D) { s with heap := h' }) :
    wpAny (model prog w) A (binaryOp .Add (.ref l) (.ref b)) Q E s := by
  refine row_add F N hl hb rfl (by omega) (by show 2 ≤ 100; decide) fun D h' F' N' l1 => h D h' _ ?_ ?_ F' N' l1
  · intro p hp
    rcases List.mem_append.mp hp with hp | hp
    · exact hok p hp
    · rcases List.mem_cons.mp hp with rfl | hp
      · exact ⟨by show (Str.ofString "m.E").length ≤ 10; decide +kernel, by show PyData.strOk (Str.ofString "m.E") = true; decide +kernel⟩
      · rw [List.mem_singleton.mp hp]; exact ⟨by show (Str.ofString "it's: c.d").length ≤ 10; decide +kernel, by show PyData.strOk (Str.ofString "it's: c.d") = true; decide +kernel⟩
  · simp only [List.length_append, List.length_cons, List.length_nil]; omega
end
section
variable {prog : Program} {w : World} {A : Around} {E : Value → Shared → Prop} {s : Shared} {env : Env} {h₀ : Heap}
noncomputable def LawFor (prog : Program) (w : World) (A : Around) (E : Value → Shared → Prop) (env : Env) (v : Str) (body : List Stmt) (Q : Flow → Shared → Prop) (it : Value) (s₂ : Shared) : Prop :=
  ∃ (I : Addr) (Inv : Nat → Shared → Prop) (n : Nat), it = .ref I ∧ Inv n s₂ ∧ ∀ k s', Inv k s' → wpAny (model prog w) A (pyNext (.ref I)) (OwitTurn prog w A E env v body Q (fun s₃ => ∃ k', k' < k ∧ Inv k' s₃)) E s'
theorem for_law {v : Str} {px pos : Pos} {iter : Expr} {body : List Stmt} {Q : Flow → Shared → Prop}
    (h : wpAny (model prog w) A (eval iter env) (fun xv s₁ => wpAny (model prog w) A (pyIter xv) (LawFor prog w A E env v body Q) E s₁) E s)
    (hs : ∀ x, foldedSetIterable iter env x = pure x := by intro _; rfl) (hE : PassesOwn (model prog w) A env E := by passes_own) :
    wpAny (model prog w) A (exec (.For (.Name v px) iter body [] pos) env) Q E s := by
  refine wpAny_For (wpAny_mono h (fun xv s₁ h₁ => wpAny_mono h₁ (fun it s₂ h₂ => ?_) fun _ _ z => z) fun _ _ z => z) hs
  obtain ⟨I, Inv, n, rfl, h0, step⟩ := h₂
  refine codeAny_forLoop (R := fun r s' => match r with | .ok f => Q f s' | .error e => cameBackBy (model prog w) A env E e s') Inv ?_ n h0
  intro k s' hk
  refine wpAny_passesOwn hE (wpAny_mono (step k s' hk) (fun r s₁ hr => ?_) fun _ _ z => z)
  cases r with
  | none => exact wpAny_execs_nil hr
  | some y =>
    refine wpAny_passesOwn hE (wpAny_assign_Name (wpAny_mono hr (fun _ s₂ h₂ => ?_) fun _ _ z => z))
    refine wpAny_passesOwn hE (wpAny_mono h₂ (fun f s₃ h₃ => ?_) fun _ _ z => z)
    cases f with
    | next => exact h₃
    | cont => exact h₃
    | brk => exact h₃
    | ret _ => exact h₃
noncomputable def TurnEnd (h₀ : Heap) (L : Addr) (fx : (Str → Option Value) → Str → Option Value) (news : List (Addr × Obj)) (os : OsState) (Q : Flow → Shared → Prop) (f : Flow) (s₃ : Shared) : Prop := match f with
  | .next => ∃ u ps, TabAt joinPos ps ∧ Fr h₀ L s₃.heap (fx u) ∧ News h₀ L s₃.heap ((753, tabO ps) :: news) ∧ AllBare s₃.gens ∧ s₃.os = os
  | .cont => ∃ u ps, TabAt joinPos ps ∧ Fr h₀ L s₃.heap (fx u) ∧ News h₀ L s₃.heap ((753, tabO ps) :: news) ∧ AllBare s₃.gens ∧ s₃.os = os
  | .brk => Q .next s₃
  | .ret v => Q (.ret v) s₃
theorem law_range {r : Addr} {a₀ b₀ : Int} {t₀ u₀ v₀ : Tok} {n : Nat} {x : Str} {body : List Stmt} {Q : Flow → Shared → Prop} {rest : List (Addr × Obj)} {u₁ : Str → Option Value} {ps₁ : Array Value} (fx : (Str → Option Value) → Str → Option Value)
    (hh : A.handled = none) (hr : IsRange s.heap r a₀ b₀ 1 t₀ u₀ v₀) (hsmall : Builtin.Range.small a₀ b₀ 1 = true) (hn : Builtin.Range.rangeSize a₀ b₀ 1 = (n : Int))
    (hx : env.kindOf x = some .local) (hp : (env.scope.kind == .class || (env.scope.kind == .module && env.locals != env.globals)) = false)
    (F : Fr h₀ env.locals s.heap (fx u₁)) (N : News h₀ env.locals s.heap ((753, tabO ps₁) :: rest)) (hps : TabAt joinPos ps₁) (G : AllBare s.gens)
    (turn : ∀ (i : Nat) (I : Addr) (o : Obj) s₁ u ps t, i < n → (∀ p ∈ (753, tabO ps₁) :: rest, p.1 < I) → TabAt joinPos ps → Fr h₀ env.locals s₁.heap (fun y => if y = x then some (.int (a₀ + (i : Int)) t) else fx u y) → News h₀ env.locals s₁.heap ((753, tabO ps) :: (I, o) :: rest) → AllBare s₁.gens → s₁.os = s.os →
      wpAny (model prog w) A (execs body env) (TurnEnd h₀ env.locals fx ((I, o) :: rest) s.os Q) E s₁)
    (done : ∀ s₁ u ps, TabAt joinPos ps → Fr h₀ env.locals s₁.heap (fx u) → News h₀ env.locals s₁.heap ((753, tabO ps) :: rest) → AllBare s₁.gens → s₁.os = s.os → Q .next s₁) :
    wpAny (model prog w) A (pyIter (.ref r)) (LawFor prog w A E env x body Q) E s := by
  refine wpAny_pyIter_range hr hsmall ?_
  have W := Walks.range (prog := prog) (w := w) hh s.heap.objs.size a₀ 1 n
  have hIlt : ∀ p ∈ (753, tabO ps₁) :: rest, p.1 < s.heap.objs.size := fun p hp => Heap.lt_size (N p hp).1
  have hI0 : h₀.get? s.heap.objs.size = none := next_is_new F
  have hIL : s.heap.objs.size ≠ env.locals := Nat.ne_of_gt F.ns.lt
  generalize hI : s.heap.objs.size = I at *
  have hnI : ∀ ps : Array Value, ∀ p ∈ (753, tabO ps) :: rest, p.1 ≠ I := fun ps p hp => by
    rcases List.mem_cons.mp hp with rfl | hp
    · exact Nat.ne_of_lt (hIlt (753, tabO ps₁) (.head _))
    · exact Nat.ne_of_lt (hIlt p (.tail _ hp))
  refine ⟨I, fun k s' => ∃ j u ps, k = n + 1 - j ∧ j ≤ n ∧ IsRangeIter s'.heap I (a₀ + (j : Int) * 1) ((n : Int) - (j : Int)) 1 ∧ TabAt joinPos ps ∧ Fr h₀ env.locals s'.heap (fx u) ∧ News h₀ env.locals s'.heap ((753, tabO ps) :: rest) ∧ AllBare s'.gens ∧ s'.os = s.os, n + 1, rfl, ⟨0, u₁, ps₁, rfl, Nat.zero_le _, ?_, hps, F.push _, (fun p hp => ⟨Heap.get?_push_of_some _ (N p hp).1, (N p hp).2⟩), G, rfl⟩, ?_⟩
  · show IsRangeIter (s.heap.push _) _ _ _ _
    rw [hn, ← hI]
    simpa using Heap.get?_push_size s.heap rfl
  rintro k s' ⟨j, u, ps, rfl, hj, hit, hps', F', N', G', hos⟩
  have keepN : ∀ {h' : Heap}, (∀ b o, b ∉ [I] → s'.heap.get? b = some o → h'.get? b = some o) → News h₀ env.locals h' ((753, tabO ps) :: rest) := fun hk p hp => ⟨hk _ _ (fun q => hnI _ p hp (List.mem_singleton.mp q)) (N' p hp).1, (N' p hp).2⟩
  have keepF : ∀ {h' : Heap}, (∀ b o, b ∉ [I] → s'.heap.get? b = some o → h'.get? b = some o) → Fr h₀ env.locals h' (fx u) := fun hk =>
    ⟨F'.ns.at' fun o e => hk _ o (fun q => hIL (List.mem_singleton.mp q).symm) e, fun b o e => hk b o (fun q => by rw [List.mem_singleton.mp q, hI0] at e; cases e) (F'.keep b o e), F'.above⟩
  by_cases hlt : j < n
  · refine W.item j _ _ _ hlt hit fun v h₁ tk₁ hv hst hk => ?_
    obtain ⟨t, rfl⟩ := hv
    have F1 := keepF hk
    have N1 := keepN hk
    have e1 : a₀ + (j : Int) * 1 = a₀ + (j : Int) := by omega
    rw [e1]
    dsimp only [OwitTurn]
    refine wpAny_storeName_local hx F1.ns (fun h₂ hn₂ hs₂ => ?_) hp
    have hL₀ : h₀.get? env.locals = none := Heap.get?_none_of_le F1.above
    have F2 : Fr h₀ env.locals h₂ (fun y => if y = x then some (.int (a₀ + (j : Int)) t) else fx u y) := ⟨hn₂, fun b o e => hs₂.extBut b o (fun q => by rw [q, hL₀] at e; cases e) (F1.keep b o e), F1.above⟩
    have hst2 := hs₂.extBut I _ hIL hst
    obtain ⟨oI, hoI⟩ : ∃ o : Obj, o = { cls := .type "range_iterator", dict := none, data := .fields #[rawInt (a₀ + ((j + 1 : Nat) : Int) * 1), rawInt ((n : Int) - ((j + 1 : Nat) : Int)), rawInt 1], slots := #[] } := ⟨_, rfl⟩
    have N2 : News h₀ env.locals h₂ ((753, tabO ps) :: (I, oI) :: rest) := by
      intro p hp
      rcases List.mem_cons.mp hp with rfl | hp
      · exact ⟨hs₂.extBut _ _ (N1 _ (.head _)).2.1 (N1 _ (.head _)).1, (N1 _ (.head _)).2⟩
      · rcases List.mem_cons.mp hp with rfl | hp
        · exact ⟨hoI ▸ hst2, hIL, hI0⟩
        · exact ⟨hs₂.extBut _ _ (N1 p (.tail _ hp)).2.1 (N1 p (.tail _ hp)).1, (N1 p (.tail _ hp)).2⟩
    refine wpAny_mono (turn j I oI _ u ps t hlt hIlt hps' F2 N2 G' hos) (fun f s₃ h₃ => ?_) fun _ _ e => e
    have fin : ∀ s₃ : Shared, (∃ u' ps', TabAt joinPos ps' ∧ Fr h₀ env.locals s₃.heap (fx u') ∧ News h₀ env.locals s₃.heap ((753, tabO ps') :: (I, oI) :: rest) ∧ AllBare s₃.gens ∧ s₃.os = s.os) → ∃ k', k' < n + 1 - j ∧ ∃ j u ps, k' = n + 1 - j ∧ j ≤ n ∧ IsRangeIter s₃.heap I (a₀ + (j : Int) * 1) ((n : Int) - (j : Int)) 1 ∧ TabAt joinPos ps ∧ Fr h₀ env.locals s₃.heap (fx u) ∧ News h₀ env.locals s₃.heap ((753, tabO ps) :: rest) ∧ AllBare s₃.gens ∧ s₃.os = s.os := by
      rintro s₃ ⟨u', ps', a1, a2, a3, a4, a5⟩
      refine ⟨n + 1 - (j + 1), by omega, j + 1, u', ps', rfl, hlt, ((a3 _ (.tail _ (.head _))).1.trans (congrArg some hoI)), a1, a2, fun p hp => ?_, a4, a5⟩
      rcases List.mem_cons.mp hp with rfl | hp
      · exact a3 _ (.head _)
      · exact a3 _ (.tail _ (.tail _ hp))
    cases f with
    | next => exact fin _ h₃
    | cont => exact fin _ h₃
    | brk => exact h₃
    | ret _ => exact h₃
  · have : j = n := by omega
    subst this
    refine W.done _ _ _ hit fun h₁ tk₁ hk => ?_
    exact done _ u ps hps' (keepF hk) (keepN hk) G' hos
end
theorem Fr.canon {h₀ h : Heap} {L : Addr} {m m' : Str → Option Value} (F : Fr h₀ L h m) (e : ∀ y, m' y = m y) : Fr h₀ L h m' := by
  have : m' = m := funext e
  rw [this]
  exact F

-- facts for the turn of the law's inner loop
theorem slice_mem {x : Str} {l u : Option Int} {c : Nat} (h : c ∈ (Txt.slice x l u).cps.toList) : c ∈ x.cps.toList := by
  unfold Txt.slice at h
  split at h
  · exact h
  · simp only [List.mem_filterMap] at h
    obtain ⟨i, _, hi⟩ := h
    exact Array.mem_toList_iff.mpr (Array.mem_of_getElem? hi)
theorem strOk_mem {x : Str} : PyData.strOk x = true ↔ ∀ c ∈ x.cps.toList, c < 0x110000 := by
  unfold PyData.strOk
  rw [Array.all_eq_true_iff_forall_mem]
  simp [Array.mem_toList_iff]
theorem slice_ok {x : Str} {l u : Option Int} (h : PyData.strOk x = true) : PyData.strOk (Txt.slice x l u) = true := by
  rw [strOk_mem] at *
  exact fun c hc => h c (slice_mem hc)
theorem wordAt_in {ws : List (Str × Tok)} {i : Nat} : wordAt ws i = ⟨#[]⟩ ∨ ∃ p ∈ ws, wordAt ws i = p.1 := by
  unfold wordAt
  rw [List.getD_eq_getElem?_getD]
  cases h : ws[i]? with
  | none => exact .inl rfl
  | some p => exact .inr ⟨p, List.mem_of_getElem? h, rfl⟩
theorem pieces_ok {ws : List (Str × Tok)} (h1 : ∀ p ∈ ws, p.1.length ≤ 10) (h2 : ∀ p ∈ ws, PyData.strOk p.1 = true) : ∀ q ∈ piecesF ws, q.1.length ≤ 10 ∧ PyData.strOk q.1 = true := by
  intro q hq
  unfold piecesF piecesTo at hq
  obtain ⟨i, _, hi⟩ := List.mem_flatMap.mp hq
  unfold pieceAt at hi
  split at hi
  · rw [List.mem_singleton.mp hi]
    have hw : (wordAt ws i).length ≤ 10 ∧ PyData.strOk (wordAt ws i) = true := by
      rcases @wordAt_in ws i with h | ⟨p, hp, h⟩
      · rw [h]; exact ⟨by decide +kernel, by decide +kernel⟩
      · rw [h]; exact ⟨h1 p hp, h2 p hp⟩
    exact ⟨Nat.le_trans (Txt.slice_le _ _ _) hw.1, slice_ok hw.2⟩
  · cases hi
theorem spelled_len (x : Str) (b : Bool) : (spelledF x b).length ≤ 5 * x.length + 2 := by
  unfold spelledF
  split
  · omega
  · have h1 := esc_len x.cps.toList
    rw [← spellJ_esc, ← len_toList, ← len_toList] at h1
    rw [Str.length_append, Str.length_append]
    have : (Str.ofString "'").length = 1 := by decide +kernel
    omega
theorem sum_le {l : List Str} {B : Nat} (h : ∀ y ∈ l, y.length ≤ B) : (l.map (·.length)).sum ≤ B * l.length := by
  induction l with
  | nil => simp
  | cons a r ih =>
    have ih := ih fun p hp => h p (.tail _ hp)
    have ha := h a (.head _)
    simp only [List.map_cons, List.sum_cons, List.length_cons, Nat.mul_succ] at ih ⊢
    omega
theorem txt_join_len {l : List Str} {B : Nat} (h : ∀ y ∈ l, y.length ≤ B) : (Txt.join (Str.ofString " ") l).length ≤ B * l.length + l.length := by
  unfold Txt.join
  rw [StrLaws.glued_eq_join]
  have h1 := StrLaws.join_length_le (Str.ofString " ") l
  have h2 := sum_le h
  have e : (Str.ofString " ").length = 1 := by decide +kernel
  rw [e] at h1
  omega
theorem pieces_six {ws : List (Str × Tok)} (h0 : ws.length ≤ 6) : (piecesF ws).length ≤ 6 := Nat.le_trans (pieces_len ws ws.length) h0
theorem joinF_len {ws : List (Str × Tok)} (h0 : ws.length ≤ 6) (h1 : ∀ p ∈ ws, p.1.length ≤ 10) : (joinF ws).length ≤ 1000 := by
  have h := txt_join_len (l := ws.map fun p => quoteF p.1) (B := 52) fun y hy => by
    obtain ⟨p, hp, rfl⟩ := List.mem_map.mp hy
    have := quote_len p.1
    have := h1 p hp
    omega
  rw [List.length_map] at h
  unfold joinF
  omega
theorem lineF_len {ws : List (Str × Tok)} (h0 : ws.length ≤ 6) (h1 : ∀ p ∈ ws, p.1.length ≤ 10) (h2 : ∀ p ∈ ws, PyData.strOk p.1 = true) : (lineF ws).length ≤ 1000 := by
  have h := txt_join_len (l := (piecesF ws).map fun p => spelledF p.1 p.2) (B := 52) fun y hy => by
    obtain ⟨p, hp, rfl⟩ := List.mem_map.mp hy
    have := spelled_len p.1 p.2
    have := (pieces_ok h1 h2 p hp).1
    omega
  have := pieces_six h0
  rw [List.length_map] at h
  unfold lineF
  omega
theorem front_len (ws : List (Str × Tok)) : (frontF ws).length ≤ 1 := by
  unfold frontF
  split <;> decide +kernel
theorem back_len (ws : List (Str × Tok)) : (backF ws).length ≤ 1 := by
  unfold backF
  split <;> decide +kernel
theorem strip_len (x : Str) : (stripF x).length ≤ x.length := by
  unfold stripF
  first | exact Txt.slice_le _ _ _ | (dsimp only; exact Txt.slice_le _ _ _) | (split <;> exact Txt.slice_le _ _ _)
section
variable {h₀ : Heap} {L : Addr} {h : Heap} {s : Shared}
theorem reorder {a T P b c d e f : Addr × Obj} {tl : List (Addr × Obj)} (N : News h₀ L h (a :: T :: P :: b :: ([c, d, e, f] ++ tl))) : News h₀ L h (c :: a :: P :: d :: e :: f :: tl) := fun q hq => N q (by
  simp only [List.mem_cons, List.mem_append, List.not_mem_nil, or_false] at hq ⊢
  rcases hq with h | h | h | h | h | h | h <;> simp [h])
theorem sep_753 {a P d e f : Addr × Obj} {tl : List (Addr × Obj)} {ps : Array Value} (N : News h₀ L s.heap ((753, tabO ps) :: a :: P :: d :: e :: f :: tl)) (h1 : a.2.cls ≠ .none) (h2 : P.2.cls ≠ .none) (h3 : d.1 ≠ 753) (h4 : e.1 ≠ 753) (h5 : f.1 ≠ 753) (ht : ∀ p ∈ tl, p.2.cls ≠ .none) :
    ∀ p ∈ a :: P :: d :: e :: f :: tl, p.1 ≠ 753 := by
  intro q hq
  rcases List.mem_cons.mp hq with rfl | hq
  · exact ne_753 N (.head _) (.tail _ (.head _)) h1
  rcases List.mem_cons.mp hq with rfl | hq
  · exact ne_753 N (.head _) (.tail _ (.tail _ (.head _))) h2
  rcases List.mem_cons.mp hq with rfl | hq
  · exact h3
  rcases List.mem_cons.mp hq with rfl | hq
  · exact h4
  rcases List.mem_cons.mp hq with rfl | hq
  · exact h5
  · obtain ⟨x, o⟩ := q
    exact ne_753 N (.head _) (.tail _ (.tail _ (.tail _ (.tail _ (.tail _ (.tail _ hq)))))) (ht _ hq)
theorem tups_cls {ps : List (Addr × Str × Tok × Bool)} : ∀ p ∈ ps.map tupE, p.2.cls ≠ .none := by
  intro p hp
  obtain ⟨q, _, rfl⟩ := List.mem_map.mp hp
  intro e
  cases e
end
theorem pairs_of {ps : List (Addr × Str × Tok × Bool)} {us : List (Str × Tok)} (h : ps.map (fun p => (p.2.1, p.2.2.2)) = piecesF us) : ps.map pairOf = piecesF us := h
theorem pair_in {ps : List (Addr × Str × Tok × Bool)} {us : List (Str × Tok)} (h : ps.map (fun p => (p.2.1, p.2.2.2)) = piecesF us) {a : Addr} {x : Str} {t : Tok} {b : Bool} (hm : (a, x, t, b) ∈ ps) : (x, b) ∈ piecesF us := by
  rw [← h]
  exact List.mem_map.mpr ⟨_, hm, rfl⟩
theorem strsAre_spelled : ∀ {l : List (Str × Bool)} {ys : List Value}, Paired SpelledV l ys → StrsAre ys (l.map fun p => spelledF p.1 p.2)
  | _, _, .nil => .nil
  | _, _, .cons h t => by
    obtain ⟨t', rfl⟩ := h
    exact .cons _ _ (strsAre_spelled t)
theorem carried_part : ∀ {l : List (Str × Bool)} {ys : List Value}, Paired PartV l ys → CarriedAll ys ((l.map fun p => p.1).map PyData.str)
  | _, _, .nil => .nil
  | _, _, .cons h t => by
    obtain ⟨t', rfl⟩ := h
    exact .cons (.str _ _) (carried_part t)
theorem carried_strs : ∀ l : List (Str × Tok), CarriedAll (strVs l) ((l.map Prod.fst).map PyData.str)
  | [] => .nil
  | p :: r => .cons (.str _ _) (carried_strs r)
theorem strN_cps (x : Str) : strN x.cps.toList = x := by rw [strN_eq]
theorem toks_eq (l : List (Str × Bool)) : (l.map fun p => p.1.cps.toList).map strN = l.map fun p => p.1 := by
  rw [List.map_map]
  exact List.map_congr_left fun p _ => strN_cps p.1
section
variable {prog : Program} {w : World} {A : Around} {E : Value → Shared → Prop} {s : Shared}
theorem join_lines {D : Addr} {ys : Array Value} {us : List (Str × Tok)} {l : List (Str × Bool)} {t : Tok} {Q : Value → Shared → Prop} (hl : s.heap.PlainList D ys) (hy : Paired SpelledV l ys.toList) (he : l = piecesF us) (h0 : us.length ≤ 6) (h1 : ∀ p ∈ us, p.1.length ≤ 10) (h2 : ∀ p ∈ us, PyData.strOk p.1 = true)
    (h : ∀ t' k, Q (.str (lineF us) t') { s with toks := k }) : wpAny (model prog w) A (call (.builtin "str.join") [.str (Str.ofString " ") t, .ref D]) Q E s := by
  subst he
  obtain ⟨c, hc⟩ := hl
  refine join_list (items := ys) ⟨_, hc, rfl, _, rfl⟩ (strsAre_spelled hy) ?_ fun t' k => h t' k
  have hs := sum_le (l := (piecesF us).map fun p => spelledF p.1 p.2) (B := 52) fun y hy => by
    obtain ⟨p, hp, rfl⟩ := List.mem_map.mp hy
    have := spelled_len p.1 p.2
    have := (pieces_ok h1 h2 p hp).1
    omega
  have := pieces_six h0
  rw [List.length_map] at hs ⊢
  have e : (Str.ofString " ").length = 1 := by decide +kernel
  rw [e]
  omega
theorem ne_rows {D1 D2 : Addr} {ys : Array Value} {acc : List (Str × Tok)} {c : Nat} {us : List (Str × Tok)} {l : List (Str × Bool)} {Q : Value → Shared → Prop} (hl1 : s.heap.get? D1 = some (listO acc c)) (hl2 : s.heap.PlainList D2 ys)
    (ha : acc.map Prod.fst = (((piecesF us).filter keptS).map fun p => p.1.cps.toList).map strN) (hy : Paired PartV (l.filter keptS) ys.toList) (he : l = piecesF us)
    (h1 : ∀ p ∈ us, p.1.length ≤ 10) (h2 : ∀ p ∈ us, PyData.strOk p.1 = true) (hu : A.units + 64 < cLine) (h : Q (.bool false) s) : wpAny (model prog w) A (compareOp .NotEq (.ref D1) (.ref D2)) Q E s := by
  subst he
  obtain ⟨k, hk⟩ := hl2
  rw [toks_eq] at ha
  have hok : ∀ x ∈ ((piecesF us).filter keptS).map fun p => p.1, PyData.strOk x = true := fun x hx => by
    obtain ⟨p, hp, rfl⟩ := List.mem_map.mp hx
    exact (pieces_ok h1 h2 p (List.mem_filter.mp hp).1).2
  refine ne_strs (xs := strVs acc) (ys := ys.toList) (ns := ((piecesF us).filter keptS).map fun p => p.1) (ms := ((piecesF us).filter keptS).map fun p => p.1) ⟨_, hl1, rfl, c, rfl⟩ ⟨_, hk, rfl, k, by rw [Array.toArray_toList]⟩ (ha ▸ carried_strs acc) (carried_part hy) hok hok hu ?_
  rw [decide_eq_true rfl]
  exact h
end
theorem Fr.keep2 {h₀ h : Heap} {L : Addr} {m : Str → Option Value} {x y : Str} {v u : Value} (F : Fr h₀ L h m) (hx : m x = some v) (hy : m y = some u) : Fr h₀ L h (fun z => if z = x then some v else if z = y then some u else m z) :=
  Fr.canon F fun z => by
    by_cases e1 : z = x
    · simp only [e1, if_true, hx]
    · by_cases e2 : z = y
      · simp only [e1, if_false, e2, if_true, hy]
        rw [← e2, if_neg e1]
      · simp only [e1, e2, if_false]
theorem Fr.keep1 {h₀ h : Heap} {L : Addr} {m : Str → Option Value} {x : Str} {v : Value} (F : Fr h₀ L h m) (hx : m x = some v) : Fr h₀ L h (fun z => if z = x then some v else m z) :=
  Fr.canon F fun z => by
    by_cases e1 : z = x
    · simp only [e1, if_true, hx]
    · simp only [e1, if_false]
theorem pick4 {h₀ h : Heap} {L : Addr} {a b c d e f g : Addr × Obj} {tl : List (Addr × Obj)} (N : News h₀ L h (a :: b :: c :: d :: e :: f :: g :: tl)) : News h₀ L h [b, e, f, g] := fun q hq => N q (by
  simp only [List.mem_cons, List.not_mem_nil, or_false] at hq ⊢
  rcases hq with h | h | h | h <;> simp [h])
theorem law_old {h₁ h : Heap} {L : Addr} {m : Str → Option Value} {ps : Array Value} (hC : CodeHd h₁ 757 753) (h7 : h₁.get? 753 = some (tabObj #[])) (F : Fr (ghostOf h₁ [(757, 753)]) L h m) (g7 : h.get? 753 = some (tabO ps)) : OldK h₁ h := by
  refine ⟨fun b o e => ?_, fun b o e => ?_⟩
  · by_cases hb : b = 753
    · subst hb
      have : o = tabObj #[] := Option.some.inj (e.symm.trans h7)
      subst this
      exact .inr (.inl ⟨(hC.tab h7).isCodeTable, rfl, #[], ps, rfl, by rw [g7, Array.empty_append]⟩)
    · exact .inl (F.keep b o (ghost_ne e (by simpa using hb)))
  · by_cases hb : b = 753
    · subst hb
      exact ⟨_, g7⟩
    · exact ⟨o, F.keep b o (ghost_ne e (by simpa using hb))⟩
theorem law_end {c : ClaimW} {cl : Str → Option Addr} {mean : ExcName → Option Value} {args : List WData} {s₁ s' : Shared} (hr : ∀ cls, c.raises args cls = false) (hp : c.post args (.bool true) args = true) (ho : OldK s₁.heap s'.heap) (hos : s'.os = s₁.os) (hb : AllBare s'.gens) :
    GoodWG c cl mean args s₁ (.ok (.ret (.bool true))) s' :=
  ⟨.inl ⟨_, _, [], rfl, hr, ReadsW.bool true, hp, fun _ => ⟨List.nodup_nil, fun _ hm => (nomatch hm)⟩⟩, ho, hos, hb⟩

section
set_option pp.deepTerms false
set_option pp.deepTerms.threshold 5
set_option pp.proofs false

abbrev r0 : OpenRow := PySem.Challenge.rw_mq0393_01.row
theorem tA : ∀ w s, Hook.obs Mine.H.hook s = Hook.val Mine.H.hook w → Hook.says Mine.H.hook w s.heap := Hook.of Mine.H.hook
theorem tB : ∀ w h h', Hook.says Mine.H.hook w h → (∀ b o, h.get? b = some o → h'.get? b = some o) → Hook.says Mine.H.hook w h' := Hook.keeps Mine.H.hook
theorem tC : ∀ s, Mine.H.Xt s = true → XL Mine.H.q [] (s.heap.nsMap mainGlobals) s.heap := fun s e => xl_of s (Bool.and_eq_true_iff.mp e).1
theorem tD : ∀ mg h h', XL Mine.H.q [] mg h → (∀ b o, h.get? b = some o → h'.get? b = some o) → XL Mine.H.q [] mg h' := XL.keeps
theorem tE : ∀ s, Mine.H.Xt s = true → RecFacts r0.records s.heap := fun s e => recFacts_of (Bool.and_eq_true_iff.mp e).2

theorem tL : LeftO r0.prog Mine.H.q Mine.H.loose Mine.H.Xt (Hook.obs Mine.H.hook) (Hook.val Mine.H.hook) 20000 := Mine.H.left
theorem tG (d : DefRec) (kwd : List (Str × PySem.Expr)) (h1 : defOf Mine.H.q r0.name = some (d, kwd)) (h2 : r0.prog.theDef r0.name = some (d.params, d.body, d.scope)) (h3 : kwWritten? d.params.kwonlyargs d.params.kw_defaults = some kwd)
  (h4 : (!r0.writes || r0.records.isEmpty) = true) (k1 : r0.wellSaid = true) (ok : (chainsOk Mine.H.q && opensWell r0.prog && (frees r0.toRowW && r0.within.isEmpty)) = true) (hb : r0.prog.bare) (hw : r0.toRowW.promised)
  (c : WalkO Mine.H.q Mine.H.loose (XL Mine.H.q []) (Hook.says Mine.H.hook) r0.toRowW d kwd fun f vs => PySem.call f vs) : r0.Holds :=
  holds_open tL tA tB tC tD h1 h2 h3 tE h4 k1 ok hb hw c

noncomputable def posOf : Stmt → Pos
  | .FunctionDef _ _ _ _ _ _ _ _ _ p => p
  | _ => ⟨0, 0, 0, 0⟩
noncomputable def dL : DefRec := ⟨Str.ofString "law", (Mine.H.fnAt 36).1, (Mine.H.fnAt 36).2.1, (Mine.H.fnAt 36).2.2, posOf ((Mine.H.pg.main.body.drop 36).headD (.Pass ⟨0, 0, 0, 0⟩))⟩
theorem f1 : defOf Mine.H.q r0.name = some (dL, []) := by kernel_rfl
theorem f2 : r0.prog.theDef r0.name = some (dL.params, dL.body, dL.scope) := by kernel_rfl
theorem f3 : kwWritten? dL.params.kwonlyargs dL.params.kw_defaults = some [] := by kernel_rfl
theorem f4 : (!r0.writes || r0.records.isEmpty) = true := by rfl
theorem f5 : (chainsOk Mine.H.q && opensWell r0.prog && (frees r0.toRowW && r0.within.isEmpty)) = true := by decide +kernel
theorem f6 : r0.prog.bare := ⟨rfl, rfl, rfl, rfl, rfl, by decide +kernel⟩
theorem f7 : r0.toRowW.promised := by w_witness2
theorem hd (k1 : r0.wellSaid = true) (c : WalkO Mine.H.q Mine.H.loose (XL Mine.H.q []) (Hook.says Mine.H.hook) r0.toRowW dL [] fun f vs => PySem.call f vs) : r0.Holds :=
  tG dL [] f1 f2 f3 f4 k1 f5 f6 f7 c



local macro_rules | `(tactic| walk_at "exec Assign cons ListComp") => `(tactic| (k_here; refine Halt.out ?_))
local macro_rules | `(tactic| walk_at "binaryOp Add ref ref") => `(tactic| (k_here; k_dflt (refine' law_add ?F ?N ?q1 ?q2 ?q3 ?q4 ?_; (case F | N => k_asm); (case q1 | q2 => k_mem); (case q3 | q4 => assumption); intro D' h' wsR' hokR' hlenR' F' N' l1; (try k_lt l1); (try k_sweep))))
local macro_rules | `(tactic| walk_at "exec For") => `(tactic| (k_here; refine Halt.out ?_))
local macro_rules | `(tactic| walk_at "exec For Name Call cons nil") => `(tactic| (k_here; refine Halt.out ?_))

local macro_rules | `(tactic| walk_at "subscriptTail Name Slice ref ref") => `(tactic| (k_here; k_dflt (refine' law_slice ?F ?N ?q1 ?q2 ?_; (case F | N => k_asm); (case q1 => k_mem); (case q2 => assumption)); intro D' h' F' N' l1; (try k_lt l1); (try k_sweep)))
local macro_rules | `(tactic| walk_at "call ref") => `(tactic| (k_here; (with_reducible show wpAny _ _ (call (Value.ref 792) [Value.ref _]) _ _ _); k_dflt (refine' parts_spec _ _ _ _ _ _ _ _ _ _ _ _ _ _ _ _ _ _ _ _ _ _ _ _ _ _ _ ?B ?F ?X ?N ?T ?hk ?hd ?hu ?h0 ?h1 ?h2 ?_; (case B | F | X | N | T => k_asm); (case hk => rfl); (case hd => ktr_room); (case hu => ktr_units); (case h0 | h1 | h2 => assumption); skip); intro T' P' ps' e' t1' t2' h' tk' hps' F' N'; (try dsimp only); (try k_fold)))
local macro_rules | `(tactic| walk_at "call ref") => `(tactic| (k_here; (with_reducible show wpAny _ _ (call (Value.ref 51) [Value.str _ _]) _ _ _); k_dflt (refine' strip_spec _ _ _ _ _ _ _ _ _ _ _ _ _ _ _ _ _ _ _ _ _ _ _ _ _ _ ?B ?F ?X ?N ?T ?hk ?hd ?hu ?h0 ?_; (case B | F | X | N | T => k_asm); (case hk => rfl); (case hd => ktr_room); (case hu => ktr_units); (case h0 => assumption); skip); intro v' h' tk' hv' F' N'; (refine Exists.elim hv' ?_); (clear hv'); intro t' e'; subst e'; (try dsimp only); (try k_fold)))
local macro_rules | `(tactic| walk_at "call ref") => `(tactic| (k_here; (with_reducible show wpAny _ _ (call (Value.ref 758) [Value.ref _]) _ _ _); refine Halt.out ?_))
local macro_rules | `(tactic| walk_at "call ref") => `(tactic| (k_here; (with_reducible show wpAny _ _ (call (Value.ref 751) [Value.str _ _]) _ _ _); refine Halt.out ?_))
local macro_rules | `(tactic| walk_at "eval ListComp") => `(tactic| (k_here; refine Halt.out ?_))
local macro_rules | `(tactic| walk_at "compareOp NotEq str str") => `(tactic| (k_here; refine Halt.out ?_))
local macro_rules | `(tactic| walk_at "compareOp NotEq ref ref") => `(tactic| (k_here; refine Halt.out ?_))
local macro_rules | `(tactic| walk_at "TurnEnd") => `(tactic| (refine Halt.out ?_))
local macro_rules | `(tactic| walk_at "binaryOp Add str str") => `(tactic| (k_here; (refine SBL.add (hsz := ?hsz) ?_); (case hsz => (simp only [Str.length_append, sizeLine_eq]; omega)); intro _ _ _))
local macro_rules | `(tactic| walk_at "call builtin:str.join") => `(tactic| (k_here; refine Halt.out ?_))

set_option maxHeartbeats 8000000 in
theorem walk : WalkO Mine.H.q Mine.H.loose (XL Mine.H.q []) (Hook.says Mine.H.hook) (OpenRow.toRowW PySem.Challenge.rw_mq0393_01.row) dL [] fun f vs => PySem.call f vs := by
  have ed : dL = dL := rfl
  conv at ed => rhs; whnf
  conv at ed => rhs; arg 2; whnf
  conv at ed => rhs; arg 3; whnf
  conv at ed => rhs; arg 4; whnf
  conv at ed => rhs; arg 5; whnf
  rw [ed]
  clear ed
  intro w s₀ s₁ mg mb G Y fa o pm cd doc dV kV ho hd hcd hD hmg hg args vals as hpre hlay hrd hwl hlo
  have KX := km_in_of Y
  revert KX
  k_fill
  intro KX
  have h753 := km_tabs_of Y 753 (.head _)
  refine Ground.open G ?_
  intro T B D TE TW
  wrow_args hpre hlay hrd hwl hlo
  all_goals (
    first | refine callC_kw (enter_call ?_) | refine enter_call ?_ | refine callC_kw (enter_callW ?_) | refine enter_callW ?_ | w_how
    w_top on
    have K0 := below_caller (Top.heap T)
    w_call any ho hd hcd hD T F
    clear hd
    k_drop
    skip)
  (all_goals try k_fold)
  rename_i ns hs8 hlay0 hlay hr1 hl2 a4 a3 sl vs a0 hL ra w1 r0 hI hr hlen htriv h1 N0
  have hCH : CodeHd s₁.heap 757 753 := codeHd_of_K KX (by kernel_rfl)
  have hT : TabsAt [(757, 753)] s₁.heap := fun q hq => by rw [List.mem_singleton.mp hq]; exact ⟨hCH, h753⟩
  have FG := ghost_fr hT F
  have NG : News (ghostOf s₁.heap [(757, 753)]) s₁.heap.objs.size h1 [(753, tabO #[])] := ghost_news hT F N0
  have XG := ghost_K hT KX (by kernel_rfl)
  have TG := ghost_top hT T
  have BG := ghost_below hT
  have LG := ghost_list hT hL
  have GG : AllBare s₁.gens := by rw [hg]; exact AllBare.empty
  clear F N0 K0 ra w1 r0 hr hr1 hl2 hlay0 hs8 htriv hcd hD hmg TE TW B D
  walk_at "mine steps"
  refine Halt.mk ?_
  refine comp_cell_assign (rest := [(Str.ofString "range", .globalImplicit)]) (by kernel_rfl) (by kernel_rfl) rfl (by intro y hy; rw [List.mem_singleton.mp hy]) (by decide +kernel) rfl ?_
  walk_at "mine steps"
  refine Halt.mk ?_
  rename_i D1 vs1 h2 F2 N2 hI2 hC2 hL2 l1
  have hl : h2.IsList D1 vs1.toArray := ⟨_, N2.get (.head _), rfl, 0, rfl⟩
  have hDlt : D1 < h2.objs.size := Heap.lt_size (N2.get (.head _))
  have low : ∀ b o, h2.get? b = some o → b ∉ [h2.objs.size] := fun b o e hm => Nat.lt_irrefl _ ((List.mem_singleton.mp hm) ▸ Heap.lt_size e)
  have hn4 : vs1.length ≤ 4 := by rw [hI2.length, hC2]; exact Nat.min_le_left _ _
  refine wpAny_pyIter_list hl ?_
  refine ⟨h2.objs.size, [h2.objs.size, D1], [h2.objs.size], vs1.toArray.size, _, _, fun _ y => WordV y, rfl, Walks.list rfl _ _ (Nat.ne_of_lt hDlt) _, by simp; unfold sizeLine; omega, ⟨⟨_, Heap.get?_push_size _ rfl, rfl, rfl⟩, hl.push _⟩, ?fp, ?elt, ?done⟩
  case fp =>
    intro b hb
    show b < (h2.push _).objs.size
    rw [Heap.size_push]
    rcases List.mem_cons.mp hb with rfl | hb
    · exact Nat.lt_succ_self _
    · rw [List.mem_singleton.mp hb]; exact Nat.lt_succ_of_lt hDlt
  case elt =>
    intro C i v s₃ m₃ E' hC hi hP hn hcell hk
    obtain ⟨n, u, rfl⟩ := ints_mem hI2 v (by simpa using List.mem_of_getElem? (by simpa using hP))
    obtain ⟨oc, hoc, hdc⟩ := hcell
    have hsz : (h2.push { cls := .type "list_iterator", data := .fields #[.ref D1, .int 0 0] }).objs.size ≤ C := hC
    have hbig : h2.objs.size ≤ C := Nat.le_trans (by rw [Heap.size_push]; exact Nat.le_succ _) hsz
    have hgs : (ghostOf s₁.heap [(757, 753)]).objs.size ≤ h2.objs.size := Nat.le_trans F2.above (Nat.le_of_lt F2.ns.lt)
    have up : ∀ b o, h2.get? b = some o → s₃.heap.get? b = some o := fun b o e => hk b o (low b o e) (Heap.get?_push_of_some _ e)
    refine wpAny_bare (dp := (callerA.deeper (envOf (Str.ofString "law") { kind := .function, names := [], isGenerator := false, isCoroutine := false } 0 0 .none)).depth) (un := (callerA.deeper (envOf (Str.ofString "law") { kind := .function, names := [], isGenerator := false, isCoroutine := false } 0 0 .none)).units) rfl (Nat.le_refl _) (Nat.le_refl _) ?_
    refine elt_word w _ _ _ mg mb _ _ (ghostOf s₁.heap [(757, 753)]) _ C s₃ m₃ n u (C + 1) oc E' rfl rfl ⟨hn, fun b o e => up b o (F2.keep b o e), Nat.le_trans hgs hbig⟩ XG TG (by decide +kernel) (by decide +kernel) ?_ hdc
    intro q hq
    rw [List.mem_singleton.mp hq]
    exact ⟨hoc, Nat.ne_of_gt (Nat.lt_succ_self _), Heap.get?_none_of_le (Nat.le_trans hgs (Nat.le_succ_of_le hbig))⟩
  case done =>
    intro C D h' tk ys m' hD hC hDC hn hpl hF hk
    obtain ⟨ws0, e1, e2, hok0⟩ := paired_words hF
    have up : ∀ b o, h2.get? b = some o → h'.get? b = some o := fun b o e => hk b o (low b o e) (Heap.get?_push_of_some _ e)
    have fr : ∀ b, (h2.push { cls := .type "list_iterator", data := .fields #[.ref D1, .int 0 0] }).get? b = none → h2.get? b = none := fun b hb => by
      cases q : h2.get? b with
      | none => rfl
      | some o => have := Heap.get?_push_of_some { cls := .type "list_iterator", data := .fields #[.ref D1, .int 0 0] } q; rw [hb] at this; cases this
    have hD2 := fr D hD
    have hC2' := fr C hC
    have fr0 : ∀ b, h2.get? b = none → (ghostOf s₁.heap [(757, 753)]).get? b = none := fun b hb => by
      cases q : (ghostOf s₁.heap [(757, 753)]).get? b with
      | none => rfl
      | some o => have := F2.keep _ _ q; rw [hb] at this; cases this
    have frL : ∀ b, h2.get? b = none → b ≠ s₁.heap.objs.size := fun b hb q => by
      obtain ⟨o, _, _, ho, _⟩ := F2.ns
      rw [← q, hb] at ho; cases ho
    obtain ⟨cD, hDo⟩ := hpl
    have hys : ys = (strVs ws0).toArray := by rw [← e1]
    rw [hys] at hDo
    have F3 := F2.keeps up
    have N3 : News (ghostOf s₁.heap [(757, 753)]) s₁.heap.objs.size h' [(D, listO ws0 cD), (753, tabO #[])] := by
      intro q hq
      rcases List.mem_cons.mp hq with rfl | hq
      · exact ⟨hDo, frL D hD2, fr0 D hD2⟩
      · rw [List.mem_singleton.mp hq]
        exact ⟨up _ _ (N2.get (.tail _ (.head _))), (N2 _ (.tail _ (.head _))).2⟩
    have hCn : ∀ q ∈ [(D, listO ws0 cD), (753, tabO #[])], q.1 ≠ C := by
      intro q hq
      rcases List.mem_cons.mp hq with rfl | hq
      · exact hDC
      · rw [List.mem_singleton.mp hq]
        rintro rfl
        rw [(N2.get (.tail _ (.head _)))] at hC2'
        cases hC2'
    refine wpAny_mono (assign_row (s := { s₁ with heap := h', toks := tk }) F3 N3 hn (frL C hC2') (fr0 C hC2') hCn (by kernel_rfl) rfl rfl) (fun _ s₄ h4 => ?_) fun _ _ e => e
    obtain ⟨h5, tk5, rfl, hn5, hh5⟩ := h4
    refine ⟨_, hn5, fun h3 hs3 => ?_⟩
    obtain ⟨F4, N4⟩ := hh5 h3 hs3
    clear F2 N2 F3 N3 hl up fr fr0 frL hD2 hC2' hDo hys hk hF hn hD hC hDC low hDlt hn5 hh5 hs3 hCn
    have hlen0 : ws0.length ≤ 4 := by rw [e2]; simpa using hn4
    walk_at "mine steps"
    refine Halt.mk ?_
    refine for_law ?_
    walk_at "mine steps"
    refine Halt.mk ?_
    rename_i R h9 ws hok hlen l9 h8 F8 N8 h7 tk7 t1 t2 t3 hr7 F7 N7 up7
    have l753 : 753 < R := l9.2.2
    clear F8 N8 up7 l9
    refine' law_range (fun u z => if z = Str.ofString "row" then some (.ref R) else u z) (n := ws.length) (rest := [(R, listO ws 0)]) (ps₁ := #[]) rfl hr7 (small_len (by omega)) (size_len _) ?hx ?hp (Fr.canon F7 ?hcan) ?N (.inl rfl) GG ?turn ?done
    case hx => kernel_rfl
    case hp => rfl
    case hcan => intro y; by_cases q : y = Str.ofString "row" <;> simp [q]; rfl
    case N => intro q hq; rcases List.mem_cons.mp hq with rfl | hq; exact N7 _ (.tail _ (.tail _ (.tail _ (.head _)))); rw [List.mem_singleton.mp hq]; exact N7 _ (.head _)
    case turn =>
      intro i I o s₂ u ps t hi hltI hps F2 N2 G2 hos2
      have hRI : R < I := hltI _ (.tail _ (.head _))
      have h753I : 753 < I := hltI _ (.head _)
      simp only [Int.zero_add] at F2
      clear F7 N7 hltI hr7
      walk_at "mine steps"
      refine Halt.mk ?_
      refine for_law ?_
      walk_at "mine steps"
      refine Halt.mk ?_
      rename_i h12 tk12 t12 u12 v12 hr12 F12 N12 up12
      replace F12 : Fr (ghostOf s₁.heap [(757, 753)]) s₁.heap.objs.size h12 _ := F12
      replace N12 : News (ghostOf s₁.heap [(757, 753)]) s₁.heap.objs.size h12 _ := N12
      clear up12
      refine' law_range (fun u z => if z = Str.ofString "start" then some (.int (i : Int) t) else if z = Str.ofString "row" then some (.ref R) else u z) (n := ws.length + 1 - i) (rest := [(I, o), (R, listO ws 0)]) (ps₁ := ps) rfl hr12 (small_one (by omega) (by omega) (by omega) (by omega)) ?hz ?hx ?hp F12 N12 hps G2 ?turn2 ?done2
      case hz => rw [rangeSize_nat]; omega
      case hx => kernel_rfl
      case hp => rfl
      case turn2 =>
        intro j J oj s₃ u3 ps3 t3 hj hltJ hps3 F3 N3 G3 hos3
        have hRJ : R < J := hltJ _ (.tail _ (.tail _ (.head _)))
        have hIJ : I < J := hltJ _ (.tail _ (.head _))
        have h753J : 753 < J := hltJ _ (.head _)
        replace F3 : Fr (ghostOf s₁.heap [(757, 753)]) s₁.heap.objs.size s₃.heap _ := F3
        replace N3 : News (ghostOf s₁.heap [(757, 753)]) s₁.heap.objs.size s₃.heap _ := N3
        clear F12 N12 hltJ hr12
        refine wp_abs ?_
        intro Q9 E9 hQ9
        obtain ⟨us, hus, hlU, h10U, hokU⟩ := slice_of (a := (i : Int)) (b := (i : Int) + (j : Int)) hok hlen (by omega) (by omega) (by omega)
        walk_at "mine steps"
        refine Halt.mk ?_
        rename News _ _ _ _ => N20
        rename Fr _ _ _ _ => F20
        rename List.map _ _ = piecesF _ => hps'
        have N21 := reorder N20
        have S21 := sep_753 (s := { s₃ with heap := _ }) N21 (by intro e; cases e) (by intro e; cases e) (Nat.ne_of_gt h753J) (Nat.ne_of_gt h753I) (Nat.ne_of_gt l753) tups_cls
        refine' join_spec _ _ _ _ _ _ _ _ _ _ _ _ _ _ _ _ _ _ _ _ _ _ _ _ _ us 0 ps3 BG F20 XG N21 TG rfl ?hd ?hu hlU h10U hokU (.head _) S21 G3 hps3 ?_
        case hd => ktr_room
        case hu => ktr_units
        intro t20 s20 ps20 hps20 F21 N22 G20 hos20
        clear N20 N21 S21 F20
        have hjl := joinF_len hlU h10U
        have hsl := strip_len (joinF us)
        have hfl := front_len us
        have hbl := back_len us
        walk_at "mine steps"
        refine Halt.mk ?_
        rename News _ _ _ _ => N23
        rename Fr _ _ _ _ => F23
        rw [law_one] at F23 ⊢
        refine' comp_pairs (fun _ => true) SpelledV rfl ?k1 ?k2 rfl ?k3 rfl rfl ?hit F23 N23 (.tail _ (.tail _ (.head _))) (fun p hp => .tail _ (.tail _ (.tail _ (.tail _ (.tail _ (.tail _ hp)))))) (ps_len hps' (by omega)) ?ht ?he ?hQ
        case k1 => kernel_rfl
        case k2 => decide
        case k3 => decide
        case hit =>
          intro Q' hq
          refine ld F23 rfl ?_
          exact hq
        case ht =>
          intro C a x t b s5 m5 E5 hm F5 hm1 hm2
          exact wpAny_pure ⟨rfl, Keeps.rfl' _⟩
        case he =>
          intro C a x t b s5 m5 E5 hm _ F5 hm1 hm2
          refine wpAny_bare rfl (Nat.le_refl _) (Nat.le_refl _) ?_
          exact elt_spelled w _ _ _ mg mb _ _ _ _ C s5 m5 x t b E5 rfl F5 XG TG (by ktr_room) (by ktr_units) hm1 hm2 (pieces_ok h10U hokU _ (pair_in hps' hm)).1
        case hQ =>
          intro D30 h30 tk30 ys30 F30 N30 hD0 hDL hDn hpl30 hF30
          clear F23 N23
          walk_at "mine steps"
          refine Halt.mk ?_
          refine join_lines hpl30 hF30 (by rw [pairs_of hps']; simp) hlU h10U hokU fun t31 k31 => ?_
          walk_at "mine steps"
          refine Halt.mk ?_
          refine ne_str ?_
          have eb : (lineF us != lineF us) = false := by simp
          rw [eb]
          clear hD0 hDL hDn hpl30 hF30
          walk_at "mine steps"
          refine Halt.mk ?_
          refine' split_spec _ _ _ _ _ _ _ _ _ _ _ _ _ [] [] _ _ _ _ _ _ _ _ _ _ _ (((piecesF us).filter keptS).map fun p => p.1.cps.toList) BG F30 XG N30 TG rfl ?hd ?hu (lineF_len hlU h10U hokU) (law_two us) ?hn ?_
          case hd => ktr_room
          case hu => ktr_units
          case hn =>
            rw [List.length_map]
            exact Nat.le_trans (List.length_filter_le _ _) (Nat.le_trans (pieces_six hlU) (by decide))
          intro D40 acc c40 h40 tk40 ha F40 N40
          walk_at "mine steps"
          refine Halt.mk ?_
          refine' comp_pairs keptS PartV rfl ?k1 ?k2 rfl ?k3 rfl rfl ?hit F40 N40 (.tail _ (.tail _ (.tail _ (.head _)))) (fun p hp => .tail _ (.tail _ (.tail _ (.tail _ (.tail _ (.tail _ (.tail _ hp))))))) (ps_len hps' (by omega)) ?ht ?he ?hQ
          case k1 => kernel_rfl
          case k2 => decide
          case k3 => decide
          case hit =>
            intro Q' hq
            refine ld F40 rfl ?_
            exact hq
          case ht =>
            intro C a x t b s5 m5 E5 hm F5 hm1 hm2
            refine wpAny_bare rfl (Nat.le_refl _) (Nat.le_refl _) ?_
            exact test_part w _ _ _ mg mb _ _ _ _ C s5 m5 x t b E5 rfl F5 XG TG (by ktr_room) (by ktr_units) hm1 hm2 (pieces_ok h10U hokU _ (pair_in hps' hm)).1
          case he =>
            intro C a x t b s5 m5 E5 hm _ F5 hm1 hm2
            refine wpAny_bare rfl (Nat.le_refl _) (Nat.le_refl _) ?_
            exact elt_part w _ _ _ mg mb _ _ _ _ C s5 m5 x t b E5 rfl F5 XG TG (by ktr_room) (by ktr_units) hm1 hm2 (pieces_ok h10U hokU _ (pair_in hps' hm)).1
          case hQ =>
            intro D50 h50 tk50 ys50 F50 N50 hD0 hDL hDn hpl50 hF50
            clear F40 N40 F30 N30
            walk_at "mine steps"
            refine Halt.mk ?_
            refine ne_rows (N50.get (.head _)) hpl50 ha hF50 (pairs_of hps') h10U hokU (by ktr_units) ?_
            walk_at "mine steps"
            exact hQ9 _ _ ⟨_, ps20, hps20, Fr.keep2 F50 rfl rfl, pick4 N50, G20, hos20.trans hos3⟩
      case done2 =>
        intro s₅ u5 ps5 hps5 F5 N5 G5 hos5
        walk_at "mine steps"
        refine Halt.mk ?_
        exact ⟨_, ps5, hps5, Fr.keep1 F5 rfl, N5, G5, hos5.trans hos2⟩
    case done =>
      intro s₅ u5 ps5 hps5 F5 N5 G5 hos5
      walk_at "mine steps"
      refine law_end (fun _ => rfl) ?_ (law_old hCH h753 F5 (N5.get (.head _))) hos5 G5
      wrow_post
end

end Mine

theorem PySem.Challenge.cw_mq0393_01_holds : PySem.Challenge.rw_mq0393_01.Holds := by
  exact holds_law Mine.said fun s => Mine.hd s Mine.walk
