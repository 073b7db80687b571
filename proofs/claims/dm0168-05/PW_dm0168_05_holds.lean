import PyProof.Rows.All
import Wide.All
import OpenK.AllK
import Wide.FinOn
import PyProof.AttrMissHeap
import Lean
import PySem.Challenge.RW_dm0168_05
set_option Elab.async false
set_option linter.all false
set_option genSizeOf false
set_option genSizeOfSpec false
set_option genInjectivity false
set_option maxRecDepth 100000
set_option maxHeartbeats 8000000
section
namespace Mine.H5
open PySem PySem.W PySem.Calls PyProof.Rows
noncomputable abbrev pw:Program:=PySem.Challenge.pw_dm0168_05
noncomputable def aB:List Stmt→Nat→Stmt
 | [],_=>.Pass ⟨0,0,0,0⟩
 |s::_,0=>s
 |_::r,n+1=>aB r n
noncomputable def aI:Stmt→List Stmt
 | .FunctionDef _ _ b _ _ _ _ _ _ _=>b
 | .ClassDef _ _ _ b _ _ _ _ _ _ _=>b
 |_=>[]
noncomputable def aO:Stmt→Arguments
 | .FunctionDef _ a _ _ _ _ _ _ _ _=>a
 |_=>default
noncomputable def aC:Stmt→Scope
 | .FunctionDef _ _ _ _ _ _ s _ _ _=>s
 | .ClassDef _ _ _ _ _ _ s _ _ _ _=>s
 |_=>default
noncomputable def sv (s:String)(n:Nat):Value:=.str (Str.ofString s) n
noncomputable def kv (P:Params)(s:String)(n:Nat)(v:Value):DictEntry:=⟨PyData.keyHash P (Str.ofString s),.str (Str.ofString s) n,v⟩
noncomputable def kq (P:Params)(s:String)(n:Nat):DictEntry:=kv P s n (.builtin s)
noncomputable def ki (k n v m:Nat):DictEntry:=⟨k,.int k n,.int v m⟩
noncomputable def mb (n:Nat):Stmt:=aB (aI (aB pw.main.body 17)) n
noncomputable def lf (o:Obj):BT:=.node o .nil .nil
open PySem.W.BT renaming node→N,nil→O
open PySem.W.Fast renaming te10110043849684766642→tA,te10274390034422433532→tB,te10295753902157049106→tC,te11892475500146522536→tD,te14082659384304107361→tE,te14364793385576792824→tF,te14374325043358763698→tG,te15667345088766844465→tH
noncomputable def o0 (P:Params):Obj:=⟨(.type "dict"),none,(.dict #[kv P "__name__" 1 (sv "builtins" 160),kv P "__doc__" 2 (.builtin "builtins.__doc__:str#opaque"),kv P "__package__" 3 (.builtin "builtins.__package__:str#opaque"),kv P "__loader__" 4 (.builtin "builtins.__loader__:shared#opaque"),kv P "__spec__" 5 (.builtin "builtins.__spec__#opaque"),kq P "__build_class__" 6,kq P "__import__" 7,kq P "abs" 8,kq P "all" 9,kq P "any" 10,kq P "ascii" 11,kq P "bin" 12,kq P "breakpoint" 13,kq P "callable" 14,kq P "chr" 15,kq P "compile" 16,kq P "delattr" 17,kq P "dir" 18,kq P "divmod" 19,kq P "eval" 20,kq P "exec" 21,kq P "format" 22,kq P "getattr" 23,kq P "globals" 24,kq P "hasattr" 25,kq P "hash" 26,kq P "hex" 27,kq P "id" 28,kq P "input" 29,kq P "isinstance" 30,kq P "issubclass" 31,kq P "iter" 32,kq P "aiter" 33,kq P "len" 34,kq P "locals" 35,kq P "max" 36,kq P "min" 37,kq P "next" 38,kq P "anext" 39,kq P "oct" 40,kq P "ord" 41,kq P "pow" 42,kq P "print" 43,kq P "repr" 44,kq P "round" 45,kq P "setattr" 46,kq P "sorted" 47,kq P "sum" 48,kq P "vars" 49,kv P "None" 50 .none,kv P "Ellipsis" 51 .ellipsis,kv P "NotImplemented" 52 .notImplemented,kv P "False" 53 (.bool false),kv P "True" 54 (.bool true),kv P "bool" 55 (.type "bool"),kv P "memoryview" 56 (.type "memoryview"),kv P "bytearray" 57 (.type "bytearray"),kv P "bytes" 58 (.type "bytes"),kv P "classmethod" 59 (.type "classmethod"),kv P "complex" 60 (.type "complex"),kv P "dict" 61 (.type "dict"),kv P "enumerate" 62 (.type "enumerate"),kv P "filter" 63 (.type "filter"),kv P "float" 64 (.type "float"),kv P "frozenset" 65 (.type "frozenset"),kv P "property" 66 (.type "property"),kv P "int" 67 (.type "int"),kv P "list" 68 (.type "list"),kv P "map" 69 (.type "map"),kv P "object" 70 (.type "object"),kv P "range" 71 (.type "range"),kv P "reversed" 72 (.type "reversed"),kv P "set" 73 (.type "set"),kv P "slice" 74 (.type "slice"),kv P "staticmethod" 75 (.type "staticmethod"),kv P "str" 76 (.type "str"),kv P "super" 77 (.type "super"),kv P "tuple" 78 (.type "tuple"),kv P "type" 79 (.type "type"),kv P "zip" 80 (.type "zip"),kv P "__debug__" 81 (.bool true),kv P "BaseException" 82 (.type "BaseException"),kv P "BaseExceptionGroup" 83 (.type "BaseExceptionGroup"),kv P "Exception" 84 (.type "Exception"),kv P "GeneratorExit" 85 (.type "GeneratorExit"),kv P "KeyboardInterrupt" 86 (.type "KeyboardInterrupt"),kv P "SystemExit" 87 (.type "SystemExit"),kv P "ArithmeticError" 88 (.type "ArithmeticError"),kv P "AssertionError" 89 (.type "AssertionError"),kv P "AttributeError" 90 (.type "AttributeError"),kv P "BufferError" 91 (.type "BufferError"),kv P "EOFError" 92 (.type "EOFError"),kv P "ImportError" 93 (.type "ImportError"),kv P "LookupError" 94 (.type "LookupError"),kv P "MemoryError" 95 (.type "MemoryError"),kv P "NameError" 96 (.type "NameError"),kv P "OSError" 97 (.type "OSError"),kv P "ReferenceError" 98 (.type "ReferenceError"),kv P "RuntimeError" 99 (.type "RuntimeError"),kv P "StopAsyncIteration" 100 (.type "StopAsyncIteration"),kv P "StopIteration" 101 (.type "StopIteration"),kv P "SyntaxError" 102 (.type "SyntaxError"),kv P "SystemError" 103 (.type "SystemError"),kv P "TypeError" 104 (.type "TypeError"),kv P "ValueError" 105 (.type "ValueError"),kv P "Warning" 106 (.type "Warning"),kv P "FloatingPointError" 107 (.type "FloatingPointError"),kv P "OverflowError" 108 (.type "OverflowError"),kv P "ZeroDivisionError" 109 (.type "ZeroDivisionError"),kv P "BytesWarning" 110 (.type "BytesWarning"),kv P "DeprecationWarning" 111 (.type "DeprecationWarning"),kv P "EncodingWarning" 112 (.type "EncodingWarning"),kv P "FutureWarning" 113 (.type "FutureWarning"),kv P "ImportWarning" 114 (.type "ImportWarning"),kv P "PendingDeprecationWarning" 115 (.type "PendingDeprecationWarning"),kv P "ResourceWarning" 116 (.type "ResourceWarning"),kv P "RuntimeWarning" 117 (.type "RuntimeWarning"),kv P "SyntaxWarning" 118 (.type "SyntaxWarning"),kv P "UnicodeWarning" 119 (.type "UnicodeWarning"),kv P "UserWarning" 120 (.type "UserWarning"),kv P "BlockingIOError" 121 (.type "BlockingIOError"),kv P "ChildProcessError" 122 (.type "ChildProcessError"),kv P "ConnectionError" 123 (.type "ConnectionError"),kv P "FileExistsError" 124 (.type "FileExistsError"),kv P "FileNotFoundError" 125 (.type "FileNotFoundError"),kv P "InterruptedError" 126 (.type "InterruptedError"),kv P "IsADirectoryError" 127 (.type "IsADirectoryError"),kv P "NotADirectoryError" 128 (.type "NotADirectoryError"),kv P "PermissionError" 129 (.type "PermissionError"),kv P "ProcessLookupError" 130 (.type "ProcessLookupError"),kv P "TimeoutError" 131 (.type "TimeoutError"),kv P "IndentationError" 132 (.type "IndentationError"),kv P "_IncompleteInputError" 133 (.type "_IncompleteInputError"),kv P "IndexError" 134 (.type "IndexError"),kv P "KeyError" 135 (.type "KeyError"),kv P "ModuleNotFoundError" 136 (.type "ModuleNotFoundError"),kv P "NotImplementedError" 137 (.type "NotImplementedError"),kv P "PythonFinalizationError" 138 (.type "PythonFinalizationError"),kv P "RecursionError" 139 (.type "RecursionError"),kv P "UnboundLocalError" 140 (.type "UnboundLocalError"),kv P "UnicodeError" 141 (.type "UnicodeError"),kv P "BrokenPipeError" 142 (.type "BrokenPipeError"),kv P "ConnectionAbortedError" 143 (.type "ConnectionAbortedError"),kv P "ConnectionRefusedError" 144 (.type "ConnectionRefusedError"),kv P "ConnectionResetError" 145 (.type "ConnectionResetError"),kv P "TabError" 146 (.type "TabError"),kv P "UnicodeDecodeError" 147 (.type "UnicodeDecodeError"),kv P "UnicodeEncodeError" 148 (.type "UnicodeEncodeError"),kv P "UnicodeTranslateError" 149 (.type "UnicodeTranslateError"),kv P "ExceptionGroup" 150 (.type "ExceptionGroup"),kv P "EnvironmentError" 151 (.type "OSError"),kv P "IOError" 152 (.type "OSError"),kq P "open" 153,kv P "quit" 154 (.builtin "builtins.quit#opaque"),kv P "exit" 155 (.builtin "builtins.exit#opaque"),kv P "copyright" 156 (.builtin "builtins.copyright#opaque"),kv P "credits" 157 (.builtin "builtins.credits#opaque"),kv P "license" 158 (.builtin "builtins.license#opaque"),kv P "help" 159 (.builtin "builtins.help#opaque")] 159),#[]⟩
noncomputable def o1 (P:Params):Obj:=⟨(.type "dict"),none,(.dict #[kv P "builtins" 162 (.ref 4),kv P "__main__" 163 (.ref 5),kv P "_sre" 244 (.ref 12)] 3),#[]⟩
noncomputable def o2 (P:Params):Obj:=⟨.none,none,(.dict #[kv P "\x69mport.loaded._sre" 183 (.bool true),kv P "class._frozen_importlib.BuiltinImporter" 185 (.ref 14),kv P "watched.\x69mport" 206 (.ref 18),kv P "class._frozen_importlib.ModuleSpec" 216 (.ref 22),kv P "sys.modules.booked-epoch" 245 (.int 3 0),kv P "\x69mport.later-laid._sre" 270 (.bool true),kv P "watched.library" 272 (.ref 27),kv P "watched.library-objects" 0 (sv "\x0c" 0),kv P "watched.library-deep._sre" 273 (sv "\x04\x00\x00\x0b\x04\x00\x00\x0b\x04\x00\x00\x03\x04\x00\x00\x0b\x08\x04dict\x02" 0)] 9),#[]⟩
noncomputable def o3 (P:Params):Obj:=⟨(.type "dict"),none,(.dict #[kv P "__name__" 165 (sv "__main__" 164),kv P "__doc__" 166 .none,kv P "__package__" 167 .none,kv P "__loader__" 168 (.builtin "__main__.__loader__#opaque"),kv P "__spec__" 169 .none,kv P "__annotations__" 170 (.ref 6),kv P "__builtins__" 171 (.ref 4),kv P "__file__" 173 (sv "/claim/cut.py" 172),kv P "__cached__" 174 .none,kv P "_sre" 275 (.ref 12)] 10),#[]⟩
noncomputable def o4:Obj:=⟨(.type "module"),(some 0),.plain,#[]⟩
noncomputable def o5:Obj:=⟨(.type "module"),(some 3),.plain,#[]⟩
noncomputable def o6:Obj:=⟨(.type "dict"),none,(.dict #[] 0),#[]⟩
noncomputable def o7:Obj:=⟨(.type "tuple"),none,(.seq #[] 0),#[]⟩
noncomputable def o8:Obj:=⟨.none,none,(.fields #[]),#[]⟩
noncomputable def o9:Obj:=⟨(.type "code"),none,(.fields #[(sv "<module>" 176),(sv "<module>" 177),(sv "/claim/cut.py" 178),(.int 1 0),(.int 0 0),(.int 0 0),(.int 0 0),(.int 0 0),(.ref 7),(.bool false),(.int 175 0),(.ref 8),.none,.none,.none,.none,(.int 179 0),(.int 1 0),(sv "/claim/cut.py" 180)]),#[]⟩
noncomputable def o10:Obj:=⟨(.type "frame"),none,.plain,#[(some (.ref 9)),(some (.ref 3)),(some (.ref 3)),none,(some (sv "__main__" 164)),none,(some (.ref 0))]⟩
noncomputable def o11 (P:Params):Obj:=⟨(.type "dict"),none,(.dict #[kv P "__name__" 247 (sv "_sre" 246),kv P "__doc__" 248 .none,kv P "__package__" 250 (sv "" 249),kv P "__loader__" 251 (.ref 14),kv P "__spec__" 252 (.ref 26),kv P "compile" 253 (.builtin "_sre.compile"),kv P "template" 254 (.builtin "_sre.template"),kv P "getcodesize" 255 (.builtin "_sre.getcodesize"),kv P "ascii_iscased" 256 (.builtin "_sre.ascii_iscased"),kv P "unicode_iscased" 257 (.builtin "_sre.unicode_iscased"),kv P "ascii_tolower" 258 (.builtin "_sre.ascii_tolower"),kv P "unicode_tolower" 259 (.builtin "_sre.unicode_tolower"),kv P "MAGIC" 261 (.int 20230612 260),kv P "CODESIZE" 263 (.int 4 262),kv P "MAXREPEAT" 265 (.int 4294967295 264),kv P "MAXGROUPS" 267 (.int 1073741823 266),kv P "copyright" 269 (sv " SRE 2.2.2 Copyright (c) 1997-2002 by Secret Labs AB " 268)] 17),#[]⟩
noncomputable def o12:Obj:=⟨(.type "module"),(some 11),.plain,#[]⟩
noncomputable def o13 (P:Params):Obj:=⟨(.type "dict"),none,(.dict #[kv P "__module__" 189 (sv "_frozen_importlib" 186),kv P "__firstlineno__" 190 (.int 971 187),kv P "__doc__" 191 (.builtin "_frozen_importlib.BuiltinImporter.__doc__:str#opaque"),kv P "_ORIGIN" 192 (sv "built-in" 188),kv P "find_spec" 193 (.builtin "_frozen_importlib.BuiltinImporter.find_spec#opaque"),kv P "create_module" 194 (.builtin "_frozen_importlib.BuiltinImporter.create_module#opaque"),kv P "exec_module" 195 (.builtin "_frozen_importlib.BuiltinImporter.exec_module#opaque"),kv P "get_code" 196 (.builtin "_frozen_importlib.BuiltinImporter.get_code#opaque"),kv P "get_source" 197 (.builtin "_frozen_importlib.BuiltinImporter.get_source#opaque"),kv P "is_package" 198 (.builtin "_frozen_importlib.BuiltinImporter.is_package#opaque"),kv P "load_module" 199 (.builtin "_frozen_importlib.BuiltinImporter.load_module#opaque"),kv P "__static_attributes__" 200 (.ref 15),kv P "__dict__" 202 (.ref 16),kv P "__weakref__" 204 (.ref 17)] 14),#[]⟩
noncomputable def o14:Obj:=⟨(.type "type"),none,(.cls ⟨(Str.ofString "BuiltinImporter"),[(.type "object")],[(.ref 14),(.type "object")],13,(Str.ofString "BuiltinImporter"),true,[],[],false,none,false⟩),#[]⟩
noncomputable def o15:Obj:=⟨(.type "getset_descriptor"),none,(.fields #[(sv "__dict__" 201),(.ref 14),(.builtin "function.__dict__"),(.builtin "function.__dict__#set")]),#[]⟩
noncomputable def o16:Obj:=⟨(.type "getset_descriptor"),none,(.fields #[(sv "__weakref__" 203),(.ref 14),(.builtin "ExceptionGroup.__weakref__"),.none]),#[]⟩
noncomputable def o17:Obj:=⟨.none,none,(.seq #[(.int 13 0),(sv "\x06½\n__module__\x06º\x11_frozen_importlib\x06¾\x0f__firstlineno__\x04»\x00ϋ\x06¿\x07__doc__\t4_frozen_importlib.BuiltinImporter.__doc__:str#opaque\x06À\x07_ORIGIN\x06¼\x08built-in\x06Á\tfind_spec\t2_frozen_importlib.BuiltinImporter.find_spec#opaque\x06Â\x0dcreate_module\t6_frozen_importlib.BuiltinImporter.create_module#opaque\x06Ã\x0bexec_module\t4_frozen_importlib.BuiltinImporter.exec_module#opaque\x06Ä\x08get_code\t1_frozen_importlib.BuiltinImporter.get_code#opaque\x06Å\nget_source\t3_frozen_importlib.BuiltinImporter.get_source#opaque\x06Æ\nis_package\t3_frozen_importlib.BuiltinImporter.is_package#opaque\x06Ç\x0bload_module\t4_frozen_importlib.BuiltinImporter.load_module#opaque\x06È\x15__static_attributes__\x04\x00\x00\x0f\x06Ê\x08__dict__\x04\x00\x00\x10\x06Ì\x0b__weakref__\x04\x00\x00\x11" 0),(.bool true),(.bool true),(sv "" 205),(.int 21 0),(sv "\x06ã\n__module__\x06Ù\x11_frozen_importlib\x06ä\x0f__firstlineno__\x04Ú\x00Ȳ\x06å\x07__doc__\t/_frozen_importlib.ModuleSpec.__doc__:str#opaque\x06æ\x08__init__\t,_frozen_importlib.ModuleSpec.__init__#opaque\x06ç\x08__repr__\t,_frozen_importlib.ModuleSpec.__repr__#opaque\x06è\x06__eq__\t*_frozen_importlib.ModuleSpec.__eq__#opaque\x06é\x06cached\t*_frozen_importlib.ModuleSpec.cached#opaque\x06ê\x06parent\t*_frozen_importlib.ModuleSpec.parent#opaque\x06ë\x0chas_location\t0_frozen_importlib.ModuleSpec.has_location#opaque\x06ì\x15__static_attributes__\x04\x00\x00\x17\x06î\x08__dict__\x04\x00\x00\x18\x06ð\x0b__weakref__\x04\x00\x00\x19\x06ñ\x08__hash__\x00" 0),(.bool true),(.bool true),(sv "" 242)] 1),#[]⟩
noncomputable def o18:Obj:=⟨(.type "list"),none,(.seq #[] 0),#[]⟩
noncomputable def o19 (P:Params):Obj:=⟨(.type "dict"),none,(.dict #[kv P "name" 208 (sv "_sre" 207),kv P "loader" 209 (.ref 14),kv P "origin" 210 (sv "built-in" 184),kv P "loader_state" 211 .none,kv P "submodule_search_locations" 212 .none,kv P "_uninitialized_submodules" 213 (.ref 19),kv P "_set_fileattr" 214 (.bool false),kv P "_cached" 215 .none,kv P "_initializing" 243 (.bool false)] 9),#[]⟩
noncomputable def o20 (P:Params):Obj:=⟨(.type "dict"),none,(.dict #[kv P "__module__" 227 (sv "_frozen_importlib" 217),kv P "__firstlineno__" 228 (.int 562 218),kv P "__doc__" 229 (.builtin "_frozen_importlib.ModuleSpec.__doc__:str#opaque"),kv P "__init__" 230 (.builtin "_frozen_importlib.ModuleSpec.__init__#opaque"),kv P "__repr__" 231 (.builtin "_frozen_importlib.ModuleSpec.__repr__#opaque"),kv P "__eq__" 232 (.builtin "_frozen_importlib.ModuleSpec.__eq__#opaque"),kv P "cached" 233 (.builtin "_frozen_importlib.ModuleSpec.cached#opaque"),kv P "parent" 234 (.builtin "_frozen_importlib.ModuleSpec.parent#opaque"),kv P "has_location" 235 (.builtin "_frozen_importlib.ModuleSpec.has_location#opaque"),kv P "__static_attributes__" 236 (.ref 23),kv P "__dict__" 238 (.ref 24),kv P "__weakref__" 240 (.ref 25),kv P "__hash__" 241 .none] 13),#[]⟩
noncomputable def o21:Obj:=⟨(.type "type"),none,(.cls ⟨(Str.ofString "ModuleSpec"),[(.type "object")],[(.ref 22),(.type "object")],21,(Str.ofString "ModuleSpec"),true,[],[],false,none,false⟩),#[]⟩
noncomputable def o22:Obj:=⟨(.type "tuple"),none,(.seq #[(sv "_cached" 219),(sv "_set_fileattr" 220),(sv "_uninitialized_submodules" 221),(sv "loader" 222),(sv "loader_state" 223),(sv "name" 224),(sv "origin" 225),(sv "submodule_search_locations" 226)] 0),#[]⟩
noncomputable def o23:Obj:=⟨(.type "getset_descriptor"),none,(.fields #[(sv "__dict__" 237),(.ref 22),(.builtin "function.__dict__"),(.builtin "function.__dict__#set")]),#[]⟩
noncomputable def o24:Obj:=⟨(.type "getset_descriptor"),none,(.fields #[(sv "__weakref__" 239),(.ref 22),(.builtin "ExceptionGroup.__weakref__"),.none]),#[]⟩
noncomputable def o25:Obj:=⟨(.ref 22),(some 20),.plain,#[]⟩
noncomputable def o26:Obj:=⟨.none,none,(.seq #[(.int 11 0),(.str (PySem.Str.mk #[6,247,8,95,95,110,97,109,101,95,95,6,246,4,95,115,114,101,6,248,7,95,95,100,111,99,95,95,0,6,250,11,95,95,112,97,99,107,97,103,101,95,95,6,249,0,6,251,10,95,95,108,111,97,100,101,114,95,95,4,0,0,14,6,252,8,95,95,115,112,101,99,95,95,4,0,0,26,6,253,7,99,111,109,112,105,108,101,9,12,95,115,114,101,46,99,111,109,112,105,108,101,6,254,8,116,101,109,112,108,97,116,101,9,13,95,115,114,101,46,116,101,109,112,108,97,116,101,6,255,11,103,101,116,99,111,100,101,115,105,122,101,9,16,95,115,114,101,46,103,101,116,99,111,100,101,115,105,122,101,6,256,13,97,115,99,105,105,95,105,115,99,97,115,101,100,9,18,95,115,114,101,46,97,115,99,105,105,95,105,115,99,97,115,101,100,6,257,15,117,110,105,99,111,100,101,95,105,115,99,97,115,101,100,9,20,95,115,114,101,46,117,110,105,99,111,100,101,95,105,115,99,97,115,101,100,6,258,13,97,115,99,105,105,95,116,111,108,111,119,101,114,9,18,95,115,114,101,46,97,115,99,105,105,95,116,111,108,111,119,101,114,6,259,15,117,110,105,99,111,100,101,95,116,111,108,111,119,101,114,9,20,95,115,114,101,46,117,110,105,99,111,100,101,95,116,111,108,111,119,101,114,6,261,5,77,65,71,73,67,4,260,0,20230612,6,263,8,67,79,68,69,83,73,90,69,4,262,0,4,6,265,9,77,65,88,82,69,80,69,65,84,4,264,0,4294967295,6,267,9,77,65,88,71,82,79,85,80,83,4,266,0,1073741823,6,269,9,99,111,112,121,114,105,103,104,116,6,268,53,32,83,82,69,32,50,46,50,46,50,32,67,111,112,121,114,105,103,104,116,32,40,99,41,32,49,57,57,55,45,50,48,48,50,32,98,121,32,83,101,99,114,101,116,32,76,97,98,115,32,65,66,32]) 0),(.bool true),(.bool false),(sv "_sre" 271)] 0),#[]⟩
noncomputable def hSe (P:Params):Heap:=⟨Array.mk [o0 P,o1 P,o2 P,o3 P,o4,o5,o6,o7,o8,o9,o10,o11 P,o12,o13 P,o14,o7,o15,o16,o17,o18,o19 P,o20 P,o21,o22,o23,o24,o25,o26],{}⟩
noncomputable def Se (w:World)(os:OsState):Shared:=⟨hSe w.params,Array.mk [],⟨0,0,0,0⟩,276,os⟩
noncomputable def o27 (P:Params):Obj:=⟨(.type "dict"),none,(.dict #[kv P "__name__" 247 (sv "_sre" 246),kv P "__doc__" 248 .none,kv P "__package__" 250 (sv "" 249),kv P "__loader__" 251 (.builtin "off-the-table:_sre.__loader__:shared#opaque"),kv P "__spec__" 252 (.builtin "off-the-table:_sre.__spec__:shared#opaque"),kv P "compile" 253 (.builtin "_sre.compile"),kv P "template" 254 (.builtin "off-the-table:_sre.template:shared#opaque"),kv P "getcodesize" 255 (.builtin "off-the-table:_sre.getcodesize:shared#opaque"),kv P "ascii_iscased" 256 (.builtin "off-the-table:_sre.ascii_iscased:shared#opaque"),kv P "unicode_iscased" 257 (.builtin "off-the-table:_sre.unicode_iscased:shared#opaque"),kv P "ascii_tolower" 258 (.builtin "off-the-table:_sre.ascii_tolower:shared#opaque"),kv P "unicode_tolower" 259 (.builtin "off-the-table:_sre.unicode_tolower:shared#opaque"),kv P "MAGIC" 261 (.int 20230612 260),kv P "CODESIZE" 263 (.int 4 262),kv P "MAXREPEAT" 265 (.int 4294967295 264),kv P "MAXGROUPS" 267 (.int 1073741823 266),kv P "copyright" 269 (sv " SRE 2.2.2 Copyright (c) 1997-2002 by Secret Labs AB " 268)] 17),#[]⟩
noncomputable def hSz (P:Params):Heap:=⟨Array.mk [o0 P,o1 P,o2 P,o3 P,o4,o5,o6,o7,o8,o9,o10,o27 P,o12,o13 P,o14,o7,o15,o16,o17,o18,o19 P,o20 P,o21,o22,o23,o24,o25,o26],{}⟩
noncomputable def Sz (w:World)(os:OsState):Shared:=⟨hSz w.params,Array.mk [],⟨0,0,0,0⟩,276,os⟩
noncomputable def o28:Obj:=⟨(.type "code"),none,(.fields #[(sv "<module>" 277),(sv "<module>" 278),(sv "/claim/cut.py" 279),(.int 1 0),(.int 0 0),(.int 0 0),(.int 0 0),(.int 0 0),(.ref 28),(.bool false),(.int 276 0),(.ref 29),.none,.none,.none,.none,(.int 280 0),(.int 1 0),(sv "/claim/cut.py" 281)]),#[]⟩
noncomputable def o29:Obj:=⟨(.type "frame"),none,.plain,#[(some (.ref 30)),(some (.ref 3)),(some (.ref 3)),none,(some (sv "__main__" 164)),none,(some (.ref 0))]⟩
noncomputable def hSa (P:Params):Heap:=⟨Array.mk [o0 P,o1 P,o2 P,o3 P,o4,o5,o6,o7,o8,o9,o10,o27 P,o12,o13 P,o14,o7,o15,o16,o17,o18,o19 P,o20 P,o21,o22,o23,o24,o25,o26,o7,o8,o28,o29],{}⟩
noncomputable def Sa (w:World)(os:OsState):Shared:=⟨hSa w.params,Array.mk [],⟨0,0,0,0⟩,282,os⟩
noncomputable def tS0 (P:Params):BT:=(N (o0 P) (N (o1 P) (N (o3 P) (N o7 (N o7 (lf o29) O) (lf o22)) (N (o27 P) (lf o18) (lf o26))) (N o5 (N o9 (lf o16) (lf o24)) (N (o13 P) (lf (o20 P)) (lf o8)))) (N (o2 P) (N o4 (N o8 (lf o15) (lf o23)) (N o12 (lf (o19 P)) (lf o7))) (N o6 (N o10 (lf o17) (lf o25)) (N o14 (lf o21) (lf o28)))))
noncomputable def S0 (w:World)(os:OsState):SharedT:=⟨tS0 w.params,32,{},Array.mk [],⟨0,0,0,0⟩,282,os⟩
noncomputable def o30 (P:Params):Obj:=⟨(.type "dict"),none,(.dict #[kv P "__name__" 165 (sv "cpy313.idlelib.pyparse" 289),kv P "__doc__" 166 .none,kv P "__package__" 167 .none,kv P "__loader__" 168 (.builtin "__main__.__loader__#opaque"),kv P "__spec__" 169 .none,kv P "__annotations__" 170 (.ref 6),kv P "__builtins__" 171 (.ref 4),kv P "__file__" 173 (sv "/claim/cut.py" 172),kv P "__cached__" 174 .none,kv P "_sre" 275 (.ref 12),kv P "_wall" 288 (.ref 38),kv P "_twin_re_2" 334 (.ref 43)] 12),#[]⟩
noncomputable def o31:Obj:=⟨.none,none,(.fields #[(.int 2 0),(.int 0 0),(.ref 37)]),#[]⟩
noncomputable def o32:Obj:=⟨(.type "tuple"),none,(.seq #[(sv "k" 285)] 0),#[]⟩
noncomputable def o33:Obj:=⟨.none,none,(.func ⟨(Str.ofString "_wall"),(Str.ofString "_wall"),(aO (aB pw.main.body 1)),(.stmts (aI (aB pw.main.body 1))),(aC (aB pw.main.body 1)),0,[],.none,.none,.none,.none,none,.none,.none,0⟩),#[]⟩
noncomputable def o34:Obj:=⟨(.type "code"),none,(.fields #[(sv "_wall" 282),(sv "_wall" 283),(sv "/claim/cut.py" 284),(.int 2 0),(.int 1 0),(.int 0 0),(.int 0 0),(.int 3 0),(.ref 32),(.bool true),(.int 276 0),(.ref 33),.none,(.ref 34),(.ref 35),(.ref 36),(.int 286 0),(.int 2 0),(sv "/claim/cut.py" 287)]),#[]⟩
noncomputable def o35:Obj:=⟨(.type "function"),none,(.func ⟨(Str.ofString "_wall"),(Str.ofString "_wall"),(aO (aB pw.main.body 1)),(.stmts (aI (aB pw.main.body 1))),(aC (aB pw.main.body 1)),3,[],.none,.none,.none,(sv "__main__" 164),none,(.ref 37),.none,0⟩),#[]⟩
noncomputable def o36:Obj:=⟨(.type "list"),none,(.seq #[(.int 14 294),(.int 4 295),(.int 0 296),(.int 1 297),(.int 4294967295 298),(.int 24 299),(.int 11 300),(.int 0 301),(.int 4294967295 302),(.int 13 303),(.int 6 304),(.int 16 305),(.int 32 306),(.int 16 307),(.int 9 308),(.int 0 309),(.int 1 310),(.int 23 311),(.int 16 312),(.int 0 313),(.int 1 314),(.int 16 315),(.int 35 316),(.int 13 317),(.int 4 318),(.int 8 319),(.int 13 320),(.int 0 321),(.int 24 322),(.int 5 323),(.int 0 324),(.int 4294967295 325),(.int 2 326),(.int 1 327),(.int 18 328),(.int 16 329),(.int 10 330),(.int 1 331)] 0),#[]⟩
noncomputable def o37:Obj:=⟨(.type "tuple"),none,(.seq #[.none] 0),#[]⟩
noncomputable def o38:Obj:=⟨(.type "tuple"),none,(.seq #[(.int 14 0),(.int 4 0),(.int 0 0),(.int 1 0),(.int 4294967295 0),(.int 24 0),(.int 11 0),(.int 0 0),(.int 4294967295 0),(.int 13 0),(.int 6 0),(.int 16 0),(.int 32 0),(.int 16 0),(.int 9 0),(.int 0 0),(.int 1 0),(.int 23 0),(.int 16 0),(.int 0 0),(.int 1 0),(.int 16 0),(.int 35 0),(.int 13 0),(.int 4 0),(.int 8 0),(.int 13 0),(.int 0 0),(.int 24 0),(.int 5 0),(.int 0 0),(.int 4294967295 0),(.int 2 0),(.int 1 0),(.int 18 0),(.int 16 0),(.int 10 0),(.int 1 0)] 0),#[]⟩
noncomputable def o39:Obj:=⟨(.type "re.Pattern"),none,(.fields #[(sv "\n    [ \\t]*\n    (?: \\# \\S .* )?\n    \\n\n" 292),(.int 96 333),(.int 0 0),.none,.none,(.ref 42),(.int 0 0)]),#[]⟩
noncomputable def tS1 (P:Params):BT:=(N (o0 P) (N (o1 P) (N (o30 P) (N o7 (N o7 (lf o29) O) (N o22 (lf o36) O)) (N (o27 P) (N o18 (lf o7) O) (N o26 (lf o39) O))) (N o5 (N o9 (N o16 (lf o8) O) (N o24 (lf o37) O)) (N (o13 P) (N (o20 P) (lf o34) O) (lf o31)))) (N (o2 P) (N o4 (N o8 (N o15 (lf o7) O) (N o23 (lf o6) O)) (N o12 (N (o19 P) (lf o33) O) (lf o7))) (N o6 (N o10 (N o17 (lf o32) O) (N o25 (lf o38) O)) (N o14 (N o21 (lf o35) O) (lf o28)))))
noncomputable def S1 (w:World)(os:OsState):SharedT:=⟨tS1 w.params,44,{},Array.mk [],⟨0,0,0,0⟩,335,os⟩
noncomputable def o40 (P:Params):Obj:=⟨(.type "dict"),none,(.dict #[kv P "__name__" 165 (sv "cpy313.idlelib.pyparse" 289),kv P "__doc__" 166 .none,kv P "__package__" 167 .none,kv P "__loader__" 168 (.builtin "__main__.__loader__#opaque"),kv P "__spec__" 169 .none,kv P "__annotations__" 170 (.ref 6),kv P "__builtins__" 171 (.ref 4),kv P "__file__" 173 (sv "/claim/cut.py" 172),kv P "__cached__" 174 .none,kv P "_sre" 275 (.ref 12),kv P "_wall" 288 (.ref 38),kv P "_twin_re_2" 334 (.ref 43),kv P "_twin_re_3" 609 (.ref 48)] 13),#[]⟩
noncomputable def o41:Obj:=⟨(.type "list"),none,(.seq #[(.int 14 338),(.int 9 339),(.int 4 340),(.int 1 341),(.int 4294967295 342),(.int 16 343),(.int 34 344),(.int 16 345),(.int 39 346),(.int 0 347),(.int 7 348),(.int 72 349),(.int 16 350),(.int 34 351),(.int 16 352),(.int 34 353),(.int 16 354),(.int 34 355),(.int 24 356),(.int 12 357),(.int 0 358),(.int 4294967295 359),(.int 13 360),(.int 7 361),(.int 21 362),(.int 16 363),(.int 34 364),(.int 16 365),(.int 92 366),(.int 0 367),(.int 1 368),(.int 23 369),(.int 37 370),(.int 0 371),(.int 4294967295 372),(.int 7 373),(.int 6 374),(.int 16 375),(.int 92 376),(.int 3 377),(.int 15 378),(.int 15 379),(.int 13 380),(.int 16 381),(.int 34 382),(.int 5 383),(.int 7 384),(.int 0 385),(.int 16 386),(.int 34 387),(.int 16 388),(.int 34 389),(.int 1 390),(.int 15 391),(.int 2 392),(.int 0 393),(.int 24 394),(.int 12 395),(.int 0 396),(.int 4294967295 397),(.int 13 398),(.int 7 399),(.int 21 400),(.int 16 401),(.int 34 402),(.int 16 403),(.int 92 404),(.int 0 405),(.int 1 406),(.int 18 407),(.int 23 408),(.int 9 409),(.int 0 410),(.int 1 411),(.int 16 412),(.int 34 413),(.int 16 414),(.int 34 415),(.int 16 416),(.int 34 417),(.int 18 418),(.int 15 419),(.int 186 420),(.int 56 421),(.int 16 422),(.int 34 423),(.int 24 424),(.int 17 425),(.int 0 426),(.int 4294967295 427),(.int 13 428),(.int 12 429),(.int 21 430),(.int 9 431),(.int 1024 432),(.int 4 433),(.int 268435456 434),(.int 0 435),(.int 0 436),(.int 0 437),(.int 0 438),(.int 0 439),(.int 0 440),(.int 1 441),(.int 23 442),(.int 24 443),(.int 0 444),(.int 4294967295 445),(.int 16 446),(.int 92 447),(.int 3 448),(.int 24 449),(.int 17 450),(.int 0 451),(.int 4294967295 452),(.int 13 453),(.int 12 454),(.int 21 455),(.int 9 456),(.int 1024 457),(.int 4 458),(.int 268435456 459),(.int 0 460),(.int 0 461),(.int 0 462),(.int 0 463),(.int 0 464),(.int 0 465),(.int 1 466),(.int 18 467),(.int 24 468),(.int 6 469),(.int 0 470),(.int 1 471),(.int 16 472),(.int 34 473),(.int 1 474),(.int 15 475),(.int 130 476),(.int 72 477),(.int 16 478),(.int 39 479),(.int 16 480),(.int 39 481),(.int 16 482),(.int 39 483),(.int 24 484),(.int 12 485),(.int 0 486),(.int 4294967295 487),(.int 13 488),(.int 7 489),(.int 21 490),(.int 16 491),(.int 39 492),(.int 16 493),(.int 92 494),(.int 0 495),(.int 1 496),(.int 23 497),(.int 37 498),(.int 0 499),(.int 4294967295 500),(.int 7 501),(.int 6 502),(.int 16 503),(.int 92 504),(.int 3 505),(.int 15 506),(.int 15 507),(.int 13 508),(.int 16 509),(.int 39 510),(.int 5 511),(.int 7 512),(.int 0 513),(.int 16 514),(.int 39 515),(.int 16 516),(.int 39 517),(.int 1 518),(.int 15 519),(.int 2 520),(.int 0 521),(.int 24 522),(.int 12 523),(.int 0 524),(.int 4294967295 525),(.int 13 526),(.int 7 527),(.int 21 528),(.int 16 529),(.int 39 530),(.int 16 531),(.int 92 532),(.int 0 533),(.int 1 534),(.int 18 535),(.int 23 536),(.int 9 537),(.int 0 538),(.int 1 539),(.int 16 540),(.int 39 541),(.int 16 542),(.int 39 543),(.int 16 544),(.int 39 545),(.int 18 546),(.int 15 547),(.int 58 548),(.int 56 549),(.int 16 550),(.int 39 551),(.int 24 552),(.int 17 553),(.int 0 554),(.int 4294967295 555),(.int 13 556),(.int 12 557),(.int 21 558),(.int 9 559),(.int 1024 560),(.int 128 561),(.int 268435456 562),(.int 0 563),(.int 0 564),(.int 0 565),(.int 0 566),(.int 0 567),(.int 0 568),(.int 1 569),(.int 23 570),(.int 24 571),(.int 0 572),(.int 4294967295 573),(.int 16 574),(.int 92 575),(.int 3 576),(.int 24 577),(.int 17 578),(.int 0 579),(.int 4294967295 580),(.int 13 581),(.int 12 582),(.int 21 583),(.int 9 584),(.int 1024 585),(.int 128 586),(.int 268435456 587),(.int 0 588),(.int 0 589),(.int 0 590),(.int 0 591),(.int 0 592),(.int 0 593),(.int 1 594),(.int 18 595),(.int 24 596),(.int 6 597),(.int 0 598),(.int 1 599),(.int 16 600),(.int 39 601),(.int 1 602),(.int 15 603),(.int 2 604),(.int 0 605),(.int 1 606)] 0),#[]⟩
noncomputable def o42:Obj:=⟨(.type "tuple"),none,(.seq #[(.int 14 0),(.int 9 0),(.int 4 0),(.int 1 0),(.int 4294967295 0),(.int 16 0),(.int 34 0),(.int 16 0),(.int 39 0),(.int 0 0),(.int 7 0),(.int 72 0),(.int 16 0),(.int 34 0),(.int 16 0),(.int 34 0),(.int 16 0),(.int 34 0),(.int 24 0),(.int 12 0),(.int 0 0),(.int 4294967295 0),(.int 13 0),(.int 7 0),(.int 21 0),(.int 16 0),(.int 34 0),(.int 16 0),(.int 92 0),(.int 0 0),(.int 1 0),(.int 23 0),(.int 37 0),(.int 0 0),(.int 4294967295 0),(.int 7 0),(.int 6 0),(.int 16 0),(.int 92 0),(.int 3 0),(.int 15 0),(.int 15 0),(.int 13 0),(.int 16 0),(.int 34 0),(.int 5 0),(.int 7 0),(.int 0 0),(.int 16 0),(.int 34 0),(.int 16 0),(.int 34 0),(.int 1 0),(.int 15 0),(.int 2 0),(.int 0 0),(.int 24 0),(.int 12 0),(.int 0 0),(.int 4294967295 0),(.int 13 0),(.int 7 0),(.int 21 0),(.int 16 0),(.int 34 0),(.int 16 0),(.int 92 0),(.int 0 0),(.int 1 0),(.int 18 0),(.int 23 0),(.int 9 0),(.int 0 0),(.int 1 0),(.int 16 0),(.int 34 0),(.int 16 0),(.int 34 0),(.int 16 0),(.int 34 0),(.int 18 0),(.int 15 0),(.int 186 0),(.int 56 0),(.int 16 0),(.int 34 0),(.int 24 0),(.int 17 0),(.int 0 0),(.int 4294967295 0),(.int 13 0),(.int 12 0),(.int 21 0),(.int 9 0),(.int 1024 0),(.int 4 0),(.int 268435456 0),(.int 0 0),(.int 0 0),(.int 0 0),(.int 0 0),(.int 0 0),(.int 0 0),(.int 1 0),(.int 23 0),(.int 24 0),(.int 0 0),(.int 4294967295 0),(.int 16 0),(.int 92 0),(.int 3 0),(.int 24 0),(.int 17 0),(.int 0 0),(.int 4294967295 0),(.int 13 0),(.int 12 0),(.int 21 0),(.int 9 0),(.int 1024 0),(.int 4 0),(.int 268435456 0),(.int 0 0),(.int 0 0),(.int 0 0),(.int 0 0),(.int 0 0),(.int 0 0),(.int 1 0),(.int 18 0),(.int 24 0),(.int 6 0),(.int 0 0),(.int 1 0),(.int 16 0),(.int 34 0),(.int 1 0),(.int 15 0),(.int 130 0),(.int 72 0),(.int 16 0),(.int 39 0),(.int 16 0),(.int 39 0),(.int 16 0),(.int 39 0),(.int 24 0),(.int 12 0),(.int 0 0),(.int 4294967295 0),(.int 13 0),(.int 7 0),(.int 21 0),(.int 16 0),(.int 39 0),(.int 16 0),(.int 92 0),(.int 0 0),(.int 1 0),(.int 23 0),(.int 37 0),(.int 0 0),(.int 4294967295 0),(.int 7 0),(.int 6 0),(.int 16 0),(.int 92 0),(.int 3 0),(.int 15 0),(.int 15 0),(.int 13 0),(.int 16 0),(.int 39 0),(.int 5 0),(.int 7 0),(.int 0 0),(.int 16 0),(.int 39 0),(.int 16 0),(.int 39 0),(.int 1 0),(.int 15 0),(.int 2 0),(.int 0 0),(.int 24 0),(.int 12 0),(.int 0 0),(.int 4294967295 0),(.int 13 0),(.int 7 0),(.int 21 0),(.int 16 0),(.int 39 0),(.int 16 0),(.int 92 0),(.int 0 0),(.int 1 0),(.int 18 0),(.int 23 0),(.int 9 0),(.int 0 0),(.int 1 0),(.int 16 0),(.int 39 0),(.int 16 0),(.int 39 0),(.int 16 0),(.int 39 0),(.int 18 0),(.int 15 0),(.int 58 0),(.int 56 0),(.int 16 0),(.int 39 0),(.int 24 0),(.int 17 0),(.int 0 0),(.int 4294967295 0),(.int 13 0),(.int 12 0),(.int 21 0),(.int 9 0),(.int 1024 0),(.int 128 0),(.int 268435456 0),(.int 0 0),(.int 0 0),(.int 0 0),(.int 0 0),(.int 0 0),(.int 0 0),(.int 1 0),(.int 23 0),(.int 24 0),(.int 0 0),(.int 4294967295 0),(.int 16 0),(.int 92 0),(.int 3 0),(.int 24 0),(.int 17 0),(.int 0 0),(.int 4294967295 0),(.int 13 0),(.int 12 0),(.int 21 0),(.int 9 0),(.int 1024 0),(.int 128 0),(.int 268435456 0),(.int 0 0),(.int 0 0),(.int 0 0),(.int 0 0),(.int 0 0),(.int 0 0),(.int 1 0),(.int 18 0),(.int 24 0),(.int 6 0),(.int 0 0),(.int 1 0),(.int 16 0),(.int 39 0),(.int 1 0),(.int 15 0),(.int 2 0),(.int 0 0),(.int 1 0)] 0),#[]⟩
noncomputable def o43:Obj:=⟨(.type "re.Pattern"),none,(.fields #[(.str (Str.ofString "\n    \\\"\"\" [^\"\\\\]* (?:\n                     (?: \\\\. | \"(?!\"\") )\n                     [^\"\\\\]*\n                 )*\n    (?: \\\"\"\" )?\n\n|   \" [^\"\\\\\\n]* (?: \\\\. [^\"\\\\\\n]* )* \"?\n\n|   ''' [^'\\\\]* (?:\n                   (?: \\\\. | '(?!'') )\n                   [^'\\\\]*\n                )*\n    (?: ''' )?\n\n|   ' [^'\\\\\\n]* (?: \\\\. [^'\\\\\\n]* )* '?\n") 336),(.int 112 608),(.int 0 0),.none,.none,(.ref 47),(.int 0 0)]),#[]⟩
noncomputable def tS2 (P:Params):BT:=(N (o0 P) (N (o1 P) (N (o40 P) (N o7 (N o7 (lf o29) (lf o42)) (N o22 (lf o36) O)) (N (o27 P) (N o18 (lf o7) O) (N o26 (lf o39) O))) (N o5 (N o9 (N o16 (lf o8) O) (N o24 (lf o37) O)) (N (o13 P) (N (o20 P) (lf o34) O) (N o31 (lf o6) O)))) (N (o2 P) (N o4 (N o8 (N o15 (lf o7) (lf o43)) (N o23 (lf o6) O)) (N o12 (N (o19 P) (lf o33) O) (N o7 (lf o41) O))) (N o6 (N o10 (N o17 (lf o32) O) (N o25 (lf o38) O)) (N o14 (N o21 (lf o35) O) (N o28 (lf o37) O)))))
noncomputable def S2 (w:World)(os:OsState):SharedT:=⟨tS2 w.params,49,{},Array.mk [],⟨0,0,0,0⟩,610,os⟩
noncomputable def o44 (P:Params):Obj:=⟨(.type "dict"),none,(.dict #[kv P "__name__" 165 (sv "cpy313.idlelib.pyparse" 289),kv P "__doc__" 166 .none,kv P "__package__" 167 .none,kv P "__loader__" 168 (.builtin "__main__.__loader__#opaque"),kv P "__spec__" 169 .none,kv P "__annotations__" 170 (.ref 6),kv P "__builtins__" 171 (.ref 4),kv P "__file__" 173 (sv "/claim/cut.py" 172),kv P "__cached__" 174 .none,kv P "_sre" 275 (.ref 12),kv P "_wall" 288 (.ref 38),kv P "_twin_re_2" 334 (.ref 43),kv P "_twin_re_3" 609 (.ref 48),kv P "_twin_re_5" 706 (.ref 53),kv P "_twin_re_6" 736 (.ref 58),kv P "C_NONE" 745 (.int 0 740),kv P "C_BACKSLASH" 746 (.int 1 741),kv P "C_STRING_FIRST_LINE" 747 (.int 2 742),kv P "C_STRING_NEXT_LINES" 748 (.int 3 743),kv P "C_BRACKET" 749 (.int 4 744),kv P "_junkre" 751 (.ref 63)] 21),#[]⟩
noncomputable def o45:Obj:=⟨(.type "list"),none,(.seq #[(.int 14 613),(.int 4 614),(.int 0 615),(.int 4 616),(.int 4294967295 617),(.int 24 618),(.int 9 619),(.int 0 620),(.int 4294967295 621),(.int 13 622),(.int 4 623),(.int 8 624),(.int 12 625),(.int 0 626),(.int 1 627),(.int 7 628),(.int 15 629),(.int 16 630),(.int 114 631),(.int 16 632),(.int 101 633),(.int 16 634),(.int 116 635),(.int 16 636),(.int 117 637),(.int 16 638),(.int 114 639),(.int 16 640),(.int 110 641),(.int 15 642),(.int 58 643),(.int 13 644),(.int 16 645),(.int 98 646),(.int 16 647),(.int 114 648),(.int 16 649),(.int 101 650),(.int 16 651),(.int 97 652),(.int 16 653),(.int 107 654),(.int 15 655),(.int 45 656),(.int 19 657),(.int 16 658),(.int 99 659),(.int 16 660),(.int 111 661),(.int 16 662),(.int 110 663),(.int 16 664),(.int 116 665),(.int 16 666),(.int 105 667),(.int 16 668),(.int 110 669),(.int 16 670),(.int 117 671),(.int 16 672),(.int 101 673),(.int 15 674),(.int 26 675),(.int 13 676),(.int 16 677),(.int 114 678),(.int 16 679),(.int 97 680),(.int 16 681),(.int 105 682),(.int 16 683),(.int 115 684),(.int 16 685),(.int 101 686),(.int 15 687),(.int 13 688),(.int 11 689),(.int 16 690),(.int 112 691),(.int 16 692),(.int 97 693),(.int 16 694),(.int 115 695),(.int 16 696),(.int 115 697),(.int 15 698),(.int 2 699),(.int 0 700),(.int 6 701),(.int 10 702),(.int 1 703)] 0),#[]⟩
noncomputable def o46:Obj:=⟨(.type "tuple"),none,(.seq #[(.int 14 0),(.int 4 0),(.int 0 0),(.int 4 0),(.int 4294967295 0),(.int 24 0),(.int 9 0),(.int 0 0),(.int 4294967295 0),(.int 13 0),(.int 4 0),(.int 8 0),(.int 12 0),(.int 0 0),(.int 1 0),(.int 7 0),(.int 15 0),(.int 16 0),(.int 114 0),(.int 16 0),(.int 101 0),(.int 16 0),(.int 116 0),(.int 16 0),(.int 117 0),(.int 16 0),(.int 114 0),(.int 16 0),(.int 110 0),(.int 15 0),(.int 58 0),(.int 13 0),(.int 16 0),(.int 98 0),(.int 16 0),(.int 114 0),(.int 16 0),(.int 101 0),(.int 16 0),(.int 97 0),(.int 16 0),(.int 107 0),(.int 15 0),(.int 45 0),(.int 19 0),(.int 16 0),(.int 99 0),(.int 16 0),(.int 111 0),(.int 16 0),(.int 110 0),(.int 16 0),(.int 116 0),(.int 16 0),(.int 105 0),(.int 16 0),(.int 110 0),(.int 16 0),(.int 117 0),(.int 16 0),(.int 101 0),(.int 15 0),(.int 26 0),(.int 13 0),(.int 16 0),(.int 114 0),(.int 16 0),(.int 97 0),(.int 16 0),(.int 105 0),(.int 16 0),(.int 115 0),(.int 16 0),(.int 101 0),(.int 15 0),(.int 13 0),(.int 11 0),(.int 16 0),(.int 112 0),(.int 16 0),(.int 97 0),(.int 16 0),(.int 115 0),(.int 16 0),(.int 115 0),(.int 15 0),(.int 2 0),(.int 0 0),(.int 6 0),(.int 10 0),(.int 1 0)] 0),#[]⟩
noncomputable def o47:Obj:=⟨(.type "re.Pattern"),none,(.fields #[(sv "\n    \\s*\n    (?: return\n    |   break\n    |   continue\n    |   raise\n    |   pass\n    )\n    \\b\n" 611),(.int 96 705),(.int 0 0),.none,.none,(.ref 52),(.int 0 0)]),#[]⟩
noncomputable def o48:Obj:=⟨(.type "list"),none,(.seq #[(.int 14 710),(.int 4 711),(.int 0 712),(.int 1 713),(.int 4294967295 714),(.int 24 715),(.int 17 716),(.int 1 717),(.int 4294967295 718),(.int 13 719),(.int 12 720),(.int 21 721),(.int 9 722),(.int 0 723),(.int 908 724),(.int 939524096 725),(.int 671088640 726),(.int 0 727),(.int 0 728),(.int 0 729),(.int 0 730),(.int 0 731),(.int 1 732),(.int 1 733)] 0),#[]⟩
noncomputable def o49:Obj:=⟨(.type "tuple"),none,(.seq #[(.int 14 0),(.int 4 0),(.int 0 0),(.int 1 0),(.int 4294967295 0),(.int 24 0),(.int 17 0),(.int 1 0),(.int 4294967295 0),(.int 13 0),(.int 12 0),(.int 21 0),(.int 9 0),(.int 0 0),(.int 908 0),(.int 939524096 0),(.int 671088640 0),(.int 0 0),(.int 0 0),(.int 0 0),(.int 0 0),(.int 0 0),(.int 1 0),(.int 1 0)] 0),#[]⟩
noncomputable def o50:Obj:=⟨(.type "re.Pattern"),none,(.fields #[(.str (Str.ofString "\n    [^[\\](){}#'\"\\\\]+\n") 708),(.int 96 735),(.int 0 0),.none,.none,(.ref 57),(.int 0 0)]),#[]⟩
noncomputable def o51:Obj:=⟨(.type "range"),none,(.fields #[(.int 0 738),(.int 5 737),(.int 1 739)]),#[]⟩
noncomputable def o52:Obj:=⟨(.type "range_iterator"),none,(.fields #[(.int 5 0),(.int 0 0),(.int 1 0)]),#[]⟩
noncomputable def o53:Obj:=⟨(.type "StopIteration"),none,(.fields #[(.ref 61),.none,.none,.none,(.bool false),.none]),#[]⟩
noncomputable def o54:Obj:=⟨(.type "builtin_function_or_method"),none,(.fields #[(.builtin "re.Pattern.match"),(.ref 43)]),#[]⟩
noncomputable def tS3 (P:Params):BT:=(N (o0 P) (N (o1 P) (N (o44 P) (N o7 (N o7 (N o29 (lf o54) O) (lf o42)) (N o22 (lf o36) (lf o6))) (N (o27 P) (N o18 (lf o7) (lf o37)) (N o26 (lf o39) (lf o51)))) (N o5 (N o9 (N o16 (lf o8) (lf o45)) (N o24 (lf o37) (lf o49))) (N (o13 P) (N (o20 P) (lf o34) (lf o47)) (N o31 (lf o6) (lf o7))))) (N (o2 P) (N o4 (N o8 (N o15 (lf o7) (lf o43)) (N o23 (lf o6) (lf o37))) (N o12 (N (o19 P) (lf o33) (lf o46)) (N o7 (lf o41) (lf o52)))) (N o6 (N o10 (N o17 (lf o32) (lf o6)) (N o25 (lf o38) (lf o50))) (N o14 (N o21 (lf o35) (lf o48)) (N o28 (lf o37) (lf o53))))))
noncomputable def S3 (w:World)(os:OsState):SharedT:=⟨tS3 w.params,64,{},Array.mk [],⟨0,0,0,0⟩,752,os⟩
noncomputable def o55 (P:Params):Obj:=⟨(.type "dict"),none,(.dict #[kv P "__name__" 165 (sv "cpy313.idlelib.pyparse" 289),kv P "__doc__" 166 .none,kv P "__package__" 167 .none,kv P "__loader__" 168 (.builtin "__main__.__loader__#opaque"),kv P "__spec__" 169 .none,kv P "__annotations__" 170 (.ref 6),kv P "__builtins__" 171 (.ref 4),kv P "__file__" 173 (sv "/claim/cut.py" 172),kv P "__cached__" 174 .none,kv P "_sre" 275 (.ref 12),kv P "_wall" 288 (.ref 38),kv P "_twin_re_2" 334 (.ref 43),kv P "_twin_re_3" 609 (.ref 48),kv P "_twin_re_5" 706 (.ref 53),kv P "_twin_re_6" 736 (.ref 58),kv P "C_NONE" 745 (.int 0 740),kv P "C_BACKSLASH" 746 (.int 1 741),kv P "C_STRING_FIRST_LINE" 747 (.int 2 742),kv P "C_STRING_NEXT_LINES" 748 (.int 3 743),kv P "C_BRACKET" 749 (.int 4 744),kv P "_junkre" 751 (.ref 63),kv P "_match_stringre" 753 (.ref 64),kv P "_closere" 755 (.ref 65),kv P "_chew_ordinaryre" 757 (.ref 66),kv P "ParseMap" 785 (.ref 83)] 25),#[]⟩
noncomputable def o56:Obj:=⟨.none,none,(.fields #[(.int 2 0),(.int 0 0),(.ref 37),(.int 15 0),(.int 0 0),(.ref 72)]),#[]⟩
noncomputable def o57:Obj:=⟨(.type "builtin_function_or_method"),none,(.fields #[(.builtin "re.Pattern.match"),(.ref 48)]),#[]⟩
noncomputable def o58:Obj:=⟨(.type "builtin_function_or_method"),none,(.fields #[(.builtin "re.Pattern.match"),(.ref 53)]),#[]⟩
noncomputable def o59:Obj:=⟨(.type "builtin_function_or_method"),none,(.fields #[(.builtin "re.Pattern.match"),(.ref 58)]),#[]⟩
noncomputable def o60:Obj:=⟨(.type "tuple"),none,(.seq #[(.type "dict")] 0),#[]⟩
noncomputable def o61:Obj:=⟨(.type "builtin_function_or_method"),none,(.fields #[(.builtin "type.__prepare__"),(.type "type")]),#[]⟩
noncomputable def o62 (P:Params):Obj:=⟨(.type "dict"),none,(.dict #[kv P "__module__" 765 (sv "cpy313.idlelib.pyparse" 289),kv P "__qualname__" 767 (sv "ParseMap" 766),kv P "__firstlineno__" 769 (.int 15 768),kv P "__missing__" 777 (.ref 80),kv P "__static_attributes__" 778 (.ref 81)] 5),#[]⟩
noncomputable def o63:Obj:=⟨.none,none,(.fields #[(.int 17 0),(.int 4 0),(.ref 79)]),#[]⟩
noncomputable def o64:Obj:=⟨(.type "code"),none,(.fields #[(sv "ParseMap" 760),(sv "ParseMap" 761),(sv "/claim/cut.py" 762),(.int 15 0),(.int 0 0),(.int 0 0),(.int 0 0),(.int 0 0),(.ref 70),(.bool false),(.int 276 0),(.ref 71),.none,.none,.none,.none,(.int 763 0),(.int 15 0),(sv "/claim/cut.py" 764)]),#[]⟩
noncomputable def o65:Obj:=⟨(.type "frame"),none,.plain,#[(some (.ref 72)),(some (.ref 3)),(some (.ref 69)),none,(some (sv "cpy313.idlelib.pyparse" 289)),none,(some (.ref 0))]⟩
noncomputable def o66:Obj:=⟨(.type "tuple"),none,(.seq #[(sv "self" 773),(sv "key" 774)] 0),#[]⟩
noncomputable def o67:Obj:=⟨.none,none,(.func ⟨(Str.ofString "__missing__"),(Str.ofString "ParseMap.__missing__"),(aO (aB (aI (aB pw.main.body 12)) 0)),(.stmts (aI (aB (aI (aB pw.main.body 12)) 0))),(aC (aB (aI (aB pw.main.body 12)) 0)),0,[],.none,.none,.none,.none,none,.none,.none,0⟩),#[]⟩
noncomputable def o68:Obj:=⟨(.type "code"),none,(.fields #[(sv "__missing__" 770),(sv "ParseMap.__missing__" 771),(sv "/claim/cut.py" 772),(.int 17 0),(.int 2 0),(.int 0 0),(.int 0 0),(.int 3 0),(.ref 74),(.bool true),(.int 276 0),(.ref 75),.none,(.ref 76),(.ref 77),(.ref 78),(.int 775 0),(.int 17 0),(sv "/claim/cut.py" 776)]),#[]⟩
noncomputable def o69:Obj:=⟨(.type "function"),none,(.func ⟨(Str.ofString "__missing__"),(Str.ofString "ParseMap.__missing__"),(aO (aB (aI (aB pw.main.body 12)) 0)),(.stmts (aI (aB (aI (aB pw.main.body 12)) 0))),(aC (aB (aI (aB pw.main.body 12)) 0)),3,[],.none,.none,.none,(sv "cpy313.idlelib.pyparse" 289),none,(.ref 79),.none,0⟩),#[]⟩
noncomputable def o70 (P:Params):Obj:=⟨(.type "dict"),none,(.dict #[kv P "__module__" 765 (sv "cpy313.idlelib.pyparse" 289),kv P "__firstlineno__" 769 (.int 15 768),kv P "__missing__" 777 (.ref 80),kv P "__static_attributes__" 778 (.ref 81),kv P "__dict__" 780 (.ref 84),kv P "__weakref__" 782 (.ref 85),kv P "__doc__" 783 .none] 4),#[]⟩
noncomputable def o71:Obj:=⟨(.type "type"),none,(.cls ⟨(Str.ofString "ParseMap"),[(.type "dict")],[(.ref 83),(.type "dict"),(.type "object")],82,(Str.ofString "ParseMap"),true,[],[],false,none,false⟩),#[(some (.ref 67)),none,(some (sv "ParseMap" 758)),(some (sv "ParseMap" 766)),(some (.builtin "dict.__new__")),(some (.bool true))]⟩
noncomputable def o72:Obj:=⟨(.type "getset_descriptor"),none,(.fields #[(sv "__dict__" 779),(.ref 83),(.builtin "function.__dict__"),(.builtin "function.__dict__#set")]),#[]⟩
noncomputable def o73:Obj:=⟨(.type "getset_descriptor"),none,(.fields #[(sv "__weakref__" 781),(.ref 83),(.builtin "ExceptionGroup.__weakref__"),.none]),#[]⟩
noncomputable def o74:Obj:=⟨(.type "super"),none,(.fields #[(.ref 83),(.ref 83),(.ref 83)]),#[]⟩
noncomputable def o75:Obj:=⟨(.type "builtin_function_or_method"),none,(.fields #[(.builtin "object.__init_subclass__"),(.ref 83)]),#[]⟩
noncomputable def tS4 (P:Params):BT:=(N (o0 P) (N (o1 P) (N (o55 P) (N o7 (N o7 (N o29 (lf o54) O) (N o42 (lf o68) O)) (N o22 (N o36 (lf o63) O) (N o6 (lf o75) O))) (N (o27 P) (N o18 (N o7 (lf o60) O) (N o37 (lf o71) O)) (N o26 (N o39 (lf o8) O) (lf o51)))) (N o5 (N o9 (N o16 (N o8 (lf o58) O) (N o45 (lf o7) O)) (N o24 (N o37 (lf o65) O) (lf o49))) (N (o13 P) (N (o20 P) (N o34 (lf (o62 P)) O) (N o47 (lf o73) O)) (N o56 (N o6 (lf o7) O) (lf o7))))) (N (o2 P) (N o4 (N o8 (N o15 (N o7 (lf o57) O) (N o43 (lf o69) O)) (N o23 (N o6 (lf o64) O) (lf o37))) (N o12 (N (o19 P) (N o33 (lf o61) O) (N o46 (lf o72) O)) (N o7 (N o41 (lf o66) O) (lf o52)))) (N o6 (N o10 (N o17 (N o32 (lf o59) O) (N o6 (lf (o70 P)) O)) (N o25 (N o38 (lf o7) O) (lf o50))) (N o14 (N o21 (N o35 (lf o7) O) (N o48 (lf o74) O)) (N o28 (N o37 (lf o67) O) (lf o53))))))
noncomputable def S4 (w:World)(os:OsState):SharedT:=⟨tS4 w.params,88,{},Array.mk [],⟨0,0,0,0⟩,786,os⟩
noncomputable def o76 (P:Params):Obj:=⟨(.type "dict"),none,(.dict #[kv P "__name__" 165 (sv "cpy313.idlelib.pyparse" 289),kv P "__doc__" 166 .none,kv P "__package__" 167 .none,kv P "__loader__" 168 (.builtin "__main__.__loader__#opaque"),kv P "__spec__" 169 .none,kv P "__annotations__" 170 (.ref 6),kv P "__builtins__" 171 (.ref 4),kv P "__file__" 173 (sv "/claim/cut.py" 172),kv P "__cached__" 174 .none,kv P "_sre" 275 (.ref 12),kv P "_wall" 288 (.ref 38),kv P "_twin_re_2" 334 (.ref 43),kv P "_twin_re_3" 609 (.ref 48),kv P "_twin_re_5" 706 (.ref 53),kv P "_twin_re_6" 736 (.ref 58),kv P "C_NONE" 745 (.int 0 740),kv P "C_BACKSLASH" 746 (.int 1 741),kv P "C_STRING_FIRST_LINE" 747 (.int 2 742),kv P "C_STRING_NEXT_LINES" 748 (.int 3 743),kv P "C_BRACKET" 749 (.int 4 744),kv P "_junkre" 751 (.ref 63),kv P "_match_stringre" 753 (.ref 64),kv P "_closere" 755 (.ref 65),kv P "_chew_ordinaryre" 757 (.ref 66),kv P "ParseMap" 785 (.ref 83),kv P "trans" 1047 (.ref 91)] 26),#[]⟩
noncomputable def o77:Obj:=⟨(.type "builtin_function_or_method"),none,(.fields #[(.builtin "dict.fromkeys"),(.ref 83)]),#[]⟩
noncomputable def o78:Obj:=⟨(.type "range"),none,(.fields #[(.int 0 788),(.int 128 787),(.int 1 789)]),#[]⟩
noncomputable def o79:Obj:=⟨(.ref 83),(some 90),(.dict #[ki 0 791 120 790,ki 1 793 120 790,ki 2 795 120 790,ki 3 797 120 790,ki 4 799 120 790,ki 5 801 120 790,ki 6 803 120 790,ki 7 805 120 790,ki 8 807 120 790,ki 9 809 120 790,ki 10 811 120 790,ki 11 813 120 790,ki 12 815 120 790,ki 13 817 120 790,ki 14 819 120 790,ki 15 821 120 790,ki 16 823 120 790,ki 17 825 120 790,ki 18 827 120 790,ki 19 829 120 790,ki 20 831 120 790,ki 21 833 120 790,ki 22 835 120 790,ki 23 837 120 790,ki 24 839 120 790,ki 25 841 120 790,ki 26 843 120 790,ki 27 845 120 790,ki 28 847 120 790,ki 29 849 120 790,ki 30 851 120 790,ki 31 853 120 790,ki 32 855 120 790,ki 33 857 120 790,ki 34 859 120 790,ki 35 861 120 790,ki 36 863 120 790,ki 37 865 120 790,ki 38 867 120 790,ki 39 869 120 790,ki 40 871 120 790,ki 41 873 120 790,ki 42 875 120 790,ki 43 877 120 790,ki 44 879 120 790,ki 45 881 120 790,ki 46 883 120 790,ki 47 885 120 790,ki 48 887 120 790,ki 49 889 120 790,ki 50 891 120 790,ki 51 893 120 790,ki 52 895 120 790,ki 53 897 120 790,ki 54 899 120 790,ki 55 901 120 790,ki 56 903 120 790,ki 57 905 120 790,ki 58 907 120 790,ki 59 909 120 790,ki 60 911 120 790,ki 61 913 120 790,ki 62 915 120 790,ki 63 917 120 790,ki 64 919 120 790,ki 65 921 120 790,ki 66 923 120 790,ki 67 925 120 790,ki 68 927 120 790,ki 69 929 120 790,ki 70 931 120 790,ki 71 933 120 790,ki 72 935 120 790,ki 73 937 120 790,ki 74 939 120 790,ki 75 941 120 790,ki 76 943 120 790,ki 77 945 120 790,ki 78 947 120 790,ki 79 949 120 790,ki 80 951 120 790,ki 81 953 120 790,ki 82 955 120 790,ki 83 957 120 790,ki 84 959 120 790,ki 85 961 120 790,ki 86 963 120 790,ki 87 965 120 790,ki 88 967 120 790,ki 89 969 120 790,ki 90 971 120 790,ki 91 973 120 790,ki 92 975 120 790,ki 93 977 120 790,ki 94 979 120 790,ki 95 981 120 790,ki 96 983 120 790,ki 97 985 120 790,ki 98 987 120 790,ki 99 989 120 790,ki 100 991 120 790,ki 101 993 120 790,ki 102 995 120 790,ki 103 997 120 790,ki 104 999 120 790,ki 105 1001 120 790,ki 106 1003 120 790,ki 107 1005 120 790,ki 108 1007 120 790,ki 109 1009 120 790,ki 110 1011 120 790,ki 111 1013 120 790,ki 112 1015 120 790,ki 113 1017 120 790,ki 114 1019 120 790,ki 115 1021 120 790,ki 116 1023 120 790,ki 117 1025 120 790,ki 118 1027 120 790,ki 119 1029 120 790,ki 120 1031 120 790,ki 121 1033 120 790,ki 122 1035 120 790,ki 123 1037 120 790,ki 124 1039 120 790,ki 125 1041 120 790,ki 126 1043 120 790,ki 127 1045 120 790] 128),#[]⟩
noncomputable def o80:Obj:=⟨(.type "range_iterator"),none,(.fields #[(.int 128 0),(.int 0 0),(.int 1 0)]),#[]⟩
noncomputable def o81:Obj:=⟨(.type "StopIteration"),none,(.fields #[(.ref 93),.none,.none,.none,(.bool false),.none]),#[]⟩
noncomputable def tS5 (P:Params):BT:=(N (o0 P) (N (o1 P) (N (o76 P) (N o7 (N o7 (N o29 (lf o54) O) (N o42 (lf o68) O)) (N o22 (N o36 (lf o63) O) (N o6 (lf o75) O))) (N (o27 P) (N o18 (N o7 (lf o60) O) (N o37 (lf o71) O)) (N o26 (N o39 (lf o8) O) (N o51 (lf o79) O)))) (N o5 (N o9 (N o16 (N o8 (lf o58) O) (N o45 (lf o7) O)) (N o24 (N o37 (lf o65) O) (N o49 (lf o78) O))) (N (o13 P) (N (o20 P) (N o34 (lf (o62 P)) O) (N o47 (lf o73) O)) (N o56 (N o6 (lf o7) O) (N o7 (lf o7) O))))) (N (o2 P) (N o4 (N o8 (N o15 (N o7 (lf o57) O) (N o43 (lf o69) O)) (N o23 (N o6 (lf o64) O) (N o37 (lf o77) O))) (N o12 (N (o19 P) (N o33 (lf o61) O) (N o46 (lf o72) O)) (N o7 (N o41 (lf o66) O) (N o52 (lf o80) O)))) (N o6 (N o10 (N o17 (N o32 (lf o59) O) (N o6 (lf (o70 P)) O)) (N o25 (N o38 (lf o7) O) (N o50 (lf o6) O))) (N o14 (N o21 (N o35 (lf o7) O) (N o48 (lf o74) O)) (N o28 (N o37 (lf o67) O) (N o53 (lf o81) O))))))
noncomputable def S5 (w:World)(os:OsState):SharedT:=⟨tS5 w.params,95,{},Array.mk [],⟨0,0,0,0⟩,1048,os⟩
noncomputable def o82:Obj:=⟨.none,none,(.fields #[(.int 2 0),(.int 0 0),(.ref 37),(.int 15 0),(.int 0 0),(.ref 72),(.int 20 0),(.int 13 0),(.ref 98)]),#[]⟩
noncomputable def o83:Obj:=⟨(.ref 83),(some 90),(.dict #[ki 0 791 120 790,ki 1 793 120 790,ki 2 795 120 790,ki 3 797 120 790,ki 4 799 120 790,ki 5 801 120 790,ki 6 803 120 790,ki 7 805 120 790,ki 8 807 120 790,ki 9 809 120 790,ki 10 811 120 790,ki 11 813 120 790,ki 12 815 120 790,ki 13 817 120 790,ki 14 819 120 790,ki 15 821 120 790,ki 16 823 120 790,ki 17 825 120 790,ki 18 827 120 790,ki 19 829 120 790,ki 20 831 120 790,ki 21 833 120 790,ki 22 835 120 790,ki 23 837 120 790,ki 24 839 120 790,ki 25 841 120 790,ki 26 843 120 790,ki 27 845 120 790,ki 28 847 120 790,ki 29 849 120 790,ki 30 851 120 790,ki 31 853 120 790,ki 32 855 120 790,ki 33 857 120 790,ki 34 859 120 790,ki 35 861 120 790,ki 36 863 120 790,ki 37 865 120 790,ki 38 867 120 790,ki 39 869 120 790,ki 40 871 40 1064,ki 41 873 120 790,ki 42 875 120 790,ki 43 877 120 790,ki 44 879 120 790,ki 45 881 120 790,ki 46 883 120 790,ki 47 885 120 790,ki 48 887 120 790,ki 49 889 120 790,ki 50 891 120 790,ki 51 893 120 790,ki 52 895 120 790,ki 53 897 120 790,ki 54 899 120 790,ki 55 901 120 790,ki 56 903 120 790,ki 57 905 120 790,ki 58 907 120 790,ki 59 909 120 790,ki 60 911 120 790,ki 61 913 120 790,ki 62 915 120 790,ki 63 917 120 790,ki 64 919 120 790,ki 65 921 120 790,ki 66 923 120 790,ki 67 925 120 790,ki 68 927 120 790,ki 69 929 120 790,ki 70 931 120 790,ki 71 933 120 790,ki 72 935 120 790,ki 73 937 120 790,ki 74 939 120 790,ki 75 941 120 790,ki 76 943 120 790,ki 77 945 120 790,ki 78 947 120 790,ki 79 949 120 790,ki 80 951 120 790,ki 81 953 120 790,ki 82 955 120 790,ki 83 957 120 790,ki 84 959 120 790,ki 85 961 120 790,ki 86 963 120 790,ki 87 965 120 790,ki 88 967 120 790,ki 89 969 120 790,ki 90 971 120 790,ki 91 973 40 1076,ki 92 975 120 790,ki 93 977 120 790,ki 94 979 120 790,ki 95 981 120 790,ki 96 983 120 790,ki 97 985 120 790,ki 98 987 120 790,ki 99 989 120 790,ki 100 991 120 790,ki 101 993 120 790,ki 102 995 120 790,ki 103 997 120 790,ki 104 999 120 790,ki 105 1001 120 790,ki 106 1003 120 790,ki 107 1005 120 790,ki 108 1007 120 790,ki 109 1009 120 790,ki 110 1011 120 790,ki 111 1013 120 790,ki 112 1015 120 790,ki 113 1017 120 790,ki 114 1019 120 790,ki 115 1021 120 790,ki 116 1023 120 790,ki 117 1025 120 790,ki 118 1027 120 790,ki 119 1029 120 790,ki 120 1031 120 790,ki 121 1033 120 790,ki 122 1035 120 790,ki 123 1037 40 1070,ki 124 1039 120 790,ki 125 1041 120 790,ki 126 1043 120 790,ki 127 1045 120 790] 128),#[]⟩
noncomputable def o84:Obj:=⟨(.type "str_ascii_iterator"),none,(.fields #[.none,(.int 3 0)]),#[]⟩
noncomputable def o85:Obj:=⟨(.type "code"),none,(.fields #[(sv "<genexpr>" 1049),(sv "<genexpr>" 1050),(sv "/claim/cut.py" 1051),(.int 20 0),(.int 1 0),(.int 0 0),(.int 0 0),(.int 35 0),(.ref 96),(.bool true),(.int 276 0),(.ref 97),.none,.none,.none,.none,(.int 1052 0),(.int 20 0),(sv "/claim/cut.py" 1053)]),#[]⟩
noncomputable def o86 (P:Params):Obj:=⟨(.type "frame"),none,(.dict #[kv P ".0" 1054 (.ref 95),kv P "c" 1061 (sv "[" 1072)] 2),#[]⟩
noncomputable def o87:Obj:=⟨(.type "generator"),none,(.fields #[(.int 0 0),(sv "<genexpr>" 1055),(sv "<genexpr>" 1056)]),#[]⟩
noncomputable def o88:Obj:=⟨(.type "tuple"),none,(.seq #[(sv "'generator' object has no attribute 'keys'" 1058)] 0),#[]⟩
noncomputable def o89:Obj:=⟨(.type "AttributeError"),none,(.fields #[(.ref 101),.none,.none,.none,(.bool false),.none,(sv "keys" 1059),(.ref 100)]),#[]⟩
noncomputable def o90:Obj:=⟨(.type "tuple"),none,(.seq #[(.int 40 1062),(.int 40 1064)] 0),#[]⟩
noncomputable def o91:Obj:=⟨(.type "tuple"),none,(.seq #[(.int 123 1068),(.int 40 1070)] 0),#[]⟩
noncomputable def o92:Obj:=⟨(.type "tuple"),none,(.seq #[(.int 91 1074),(.int 40 1076)] 0),#[]⟩
noncomputable def o93:Obj:=⟨(.type "StopIteration"),none,(.fields #[(.ref 106),.none,.none,.none,(.bool false),.none]),#[]⟩
noncomputable def o94:Obj:=⟨(.type "StopIteration"),none,(.fields #[(.ref 108),.none,.none,.none,(.bool false),.none]),#[]⟩
noncomputable def tS6 (P:Params):BT:=(N (o0 P) (N (o1 P) (N (o76 P) (N o7 (N o7 (N o29 (lf o54) (lf o84)) (N o42 (lf o68) O)) (N o22 (N o36 (lf o63) (lf o90)) (N o6 (lf o75) O))) (N (o27 P) (N o18 (N o7 (lf o60) (lf (o86 P))) (N o37 (lf o71) O)) (N o26 (N o39 (lf o8) (lf o93)) (N o51 (lf o83) O)))) (N o5 (N o9 (N o16 (N o8 (lf o58) (lf o8)) (N o45 (lf o7) O)) (N o24 (N o37 (lf o65) (lf o92)) (N o49 (lf o78) O))) (N (o13 P) (N (o20 P) (N o34 (lf (o62 P)) (lf o88)) (N o47 (lf o73) O)) (N o82 (N o6 (lf o7) (lf o94)) (N o7 (lf o7) O))))) (N (o2 P) (N o4 (N o8 (N o15 (N o7 (lf o57) (lf o7)) (N o43 (lf o69) O)) (N o23 (N o6 (lf o64) (lf o91)) (N o37 (lf o77) O))) (N o12 (N (o19 P) (N o33 (lf o61) (lf o87)) (N o46 (lf o72) O)) (N o7 (N o41 (lf o66) (lf o7)) (N o52 (lf o80) O)))) (N o6 (N o10 (N o17 (N o32 (lf o59) (lf o85)) (N o6 (lf (o70 P)) O)) (N o25 (N o38 (lf o7) (lf o7)) (N o50 (lf o6) O))) (N o14 (N o21 (N o35 (lf o7) (lf o89)) (N o48 (lf o74) O)) (N o28 (N o37 (lf o67) O) (N o53 (lf o81) O))))))
noncomputable def S6 (w:World)(os:OsState):SharedT:=⟨tS6 w.params,110,{},Array.mk [.finished],⟨0,0,0,0⟩,1078,os⟩
noncomputable def o95:Obj:=⟨.none,none,(.fields #[(.int 2 0),(.int 0 0),(.ref 37),(.int 15 0),(.int 0 0),(.ref 72),(.int 20 0),(.int 13 0),(.ref 98),(.int 21 0),(.int 13 0),(.ref 113)]),#[]⟩
noncomputable def o96:Obj:=⟨(.ref 83),(some 90),(.dict #[ki 0 791 120 790,ki 1 793 120 790,ki 2 795 120 790,ki 3 797 120 790,ki 4 799 120 790,ki 5 801 120 790,ki 6 803 120 790,ki 7 805 120 790,ki 8 807 120 790,ki 9 809 120 790,ki 10 811 120 790,ki 11 813 120 790,ki 12 815 120 790,ki 13 817 120 790,ki 14 819 120 790,ki 15 821 120 790,ki 16 823 120 790,ki 17 825 120 790,ki 18 827 120 790,ki 19 829 120 790,ki 20 831 120 790,ki 21 833 120 790,ki 22 835 120 790,ki 23 837 120 790,ki 24 839 120 790,ki 25 841 120 790,ki 26 843 120 790,ki 27 845 120 790,ki 28 847 120 790,ki 29 849 120 790,ki 30 851 120 790,ki 31 853 120 790,ki 32 855 120 790,ki 33 857 120 790,ki 34 859 120 790,ki 35 861 120 790,ki 36 863 120 790,ki 37 865 120 790,ki 38 867 120 790,ki 39 869 120 790,ki 40 871 40 1064,ki 41 873 41 1094,ki 42 875 120 790,ki 43 877 120 790,ki 44 879 120 790,ki 45 881 120 790,ki 46 883 120 790,ki 47 885 120 790,ki 48 887 120 790,ki 49 889 120 790,ki 50 891 120 790,ki 51 893 120 790,ki 52 895 120 790,ki 53 897 120 790,ki 54 899 120 790,ki 55 901 120 790,ki 56 903 120 790,ki 57 905 120 790,ki 58 907 120 790,ki 59 909 120 790,ki 60 911 120 790,ki 61 913 120 790,ki 62 915 120 790,ki 63 917 120 790,ki 64 919 120 790,ki 65 921 120 790,ki 66 923 120 790,ki 67 925 120 790,ki 68 927 120 790,ki 69 929 120 790,ki 70 931 120 790,ki 71 933 120 790,ki 72 935 120 790,ki 73 937 120 790,ki 74 939 120 790,ki 75 941 120 790,ki 76 943 120 790,ki 77 945 120 790,ki 78 947 120 790,ki 79 949 120 790,ki 80 951 120 790,ki 81 953 120 790,ki 82 955 120 790,ki 83 957 120 790,ki 84 959 120 790,ki 85 961 120 790,ki 86 963 120 790,ki 87 965 120 790,ki 88 967 120 790,ki 89 969 120 790,ki 90 971 120 790,ki 91 973 40 1076,ki 92 975 120 790,ki 93 977 41 1106,ki 94 979 120 790,ki 95 981 120 790,ki 96 983 120 790,ki 97 985 120 790,ki 98 987 120 790,ki 99 989 120 790,ki 100 991 120 790,ki 101 993 120 790,ki 102 995 120 790,ki 103 997 120 790,ki 104 999 120 790,ki 105 1001 120 790,ki 106 1003 120 790,ki 107 1005 120 790,ki 108 1007 120 790,ki 109 1009 120 790,ki 110 1011 120 790,ki 111 1013 120 790,ki 112 1015 120 790,ki 113 1017 120 790,ki 114 1019 120 790,ki 115 1021 120 790,ki 116 1023 120 790,ki 117 1025 120 790,ki 118 1027 120 790,ki 119 1029 120 790,ki 120 1031 120 790,ki 121 1033 120 790,ki 122 1035 120 790,ki 123 1037 40 1070,ki 124 1039 120 790,ki 125 1041 41 1100,ki 126 1043 120 790,ki 127 1045 120 790] 128),#[]⟩
noncomputable def o97:Obj:=⟨(.type "code"),none,(.fields #[(sv "<genexpr>" 1079),(sv "<genexpr>" 1080),(sv "/claim/cut.py" 1081),(.int 21 0),(.int 1 0),(.int 0 0),(.int 0 0),(.int 35 0),(.ref 111),(.bool true),(.int 276 0),(.ref 112),.none,.none,.none,.none,(.int 1082 0),(.int 21 0),(sv "/claim/cut.py" 1083)]),#[]⟩
noncomputable def o98 (P:Params):Obj:=⟨(.type "frame"),none,(.dict #[kv P ".0" 1084 (.ref 110),kv P "c" 1091 (sv "]" 1102)] 2),#[]⟩
noncomputable def o99:Obj:=⟨(.type "generator"),none,(.fields #[(.int 1 0),(sv "<genexpr>" 1085),(sv "<genexpr>" 1086)]),#[]⟩
noncomputable def o100:Obj:=⟨(.type "tuple"),none,(.seq #[(sv "'generator' object has no attribute 'keys'" 1088)] 0),#[]⟩
noncomputable def o101:Obj:=⟨(.type "AttributeError"),none,(.fields #[(.ref 116),.none,.none,.none,(.bool false),.none,(sv "keys" 1089),(.ref 115)]),#[]⟩
noncomputable def o102:Obj:=⟨(.type "tuple"),none,(.seq #[(.int 41 1092),(.int 41 1094)] 0),#[]⟩
noncomputable def o103:Obj:=⟨(.type "tuple"),none,(.seq #[(.int 125 1098),(.int 41 1100)] 0),#[]⟩
noncomputable def o104:Obj:=⟨(.type "tuple"),none,(.seq #[(.int 93 1104),(.int 41 1106)] 0),#[]⟩
noncomputable def o105:Obj:=⟨(.type "StopIteration"),none,(.fields #[(.ref 121),.none,.none,.none,(.bool false),.none]),#[]⟩
noncomputable def o106:Obj:=⟨(.type "StopIteration"),none,(.fields #[(.ref 123),.none,.none,.none,(.bool false),.none]),#[]⟩
noncomputable def tS7 (P:Params):BT:=(N (o0 P) (N (o1 P) (N (o76 P) (N o7 (N o7 (N o29 (lf o54) (lf o84)) (N o42 (lf o68) (lf o7))) (N o22 (N o36 (lf o63) (lf o90)) (N o6 (lf o75) (lf o103)))) (N (o27 P) (N o18 (N o7 (lf o60) (lf (o86 P))) (N o37 (lf o71) (lf o99))) (N o26 (N o39 (lf o8) (lf o93)) (N o51 (lf o96) (lf o7))))) (N o5 (N o9 (N o16 (N o8 (lf o58) (lf o8)) (N o45 (lf o7) (lf o97))) (N o24 (N o37 (lf o65) (lf o92)) (N o49 (lf o78) (lf o7)))) (N (o13 P) (N (o20 P) (N o34 (lf (o62 P)) (lf o88)) (N o47 (lf o73) (lf o101))) (N o95 (N o6 (lf o7) (lf o94)) (N o7 (lf o7) O))))) (N (o2 P) (N o4 (N o8 (N o15 (N o7 (lf o57) (lf o7)) (N o43 (lf o69) (lf o8))) (N o23 (N o6 (lf o64) (lf o91)) (N o37 (lf o77) (lf o104)))) (N o12 (N (o19 P) (N o33 (lf o61) (lf o87)) (N o46 (lf o72) (lf o100))) (N o7 (N o41 (lf o66) (lf o7)) (N o52 (lf o80) (lf o106))))) (N o6 (N o10 (N o17 (N o32 (lf o59) (lf o85)) (N o6 (lf (o70 P)) (lf (o98 P)))) (N o25 (N o38 (lf o7) (lf o7)) (N o50 (lf o6) (lf o105)))) (N o14 (N o21 (N o35 (lf o7) (lf o89)) (N o48 (lf o74) (lf o102))) (N o28 (N o37 (lf o67) (lf o84)) (N o53 (lf o81) O))))))
noncomputable def S7 (w:World)(os:OsState):SharedT:=⟨tS7 w.params,125,{},Array.mk [.finished,.finished],⟨0,0,0,0⟩,1108,os⟩
noncomputable def o107:Obj:=⟨.none,none,(.fields #[(.int 2 0),(.int 0 0),(.ref 37),(.int 15 0),(.int 0 0),(.ref 72),(.int 20 0),(.int 13 0),(.ref 98),(.int 21 0),(.int 13 0),(.ref 113),(.int 22 0),(.int 13 0),(.ref 128)]),#[]⟩
noncomputable def o108:Obj:=⟨(.ref 83),(some 90),(.dict #[ki 0 791 120 790,ki 1 793 120 790,ki 2 795 120 790,ki 3 797 120 790,ki 4 799 120 790,ki 5 801 120 790,ki 6 803 120 790,ki 7 805 120 790,ki 8 807 120 790,ki 9 809 120 790,ki 10 811 10 1138,ki 11 813 120 790,ki 12 815 120 790,ki 13 817 120 790,ki 14 819 120 790,ki 15 821 120 790,ki 16 823 120 790,ki 17 825 120 790,ki 18 827 120 790,ki 19 829 120 790,ki 20 831 120 790,ki 21 833 120 790,ki 22 835 120 790,ki 23 837 120 790,ki 24 839 120 790,ki 25 841 120 790,ki 26 843 120 790,ki 27 845 120 790,ki 28 847 120 790,ki 29 849 120 790,ki 30 851 120 790,ki 31 853 120 790,ki 32 855 120 790,ki 33 857 120 790,ki 34 859 34 1123,ki 35 861 35 1143,ki 36 863 120 790,ki 37 865 120 790,ki 38 867 120 790,ki 39 869 39 1128,ki 40 871 40 1064,ki 41 873 41 1094,ki 42 875 120 790,ki 43 877 120 790,ki 44 879 120 790,ki 45 881 120 790,ki 46 883 120 790,ki 47 885 120 790,ki 48 887 120 790,ki 49 889 120 790,ki 50 891 120 790,ki 51 893 120 790,ki 52 895 120 790,ki 53 897 120 790,ki 54 899 120 790,ki 55 901 120 790,ki 56 903 120 790,ki 57 905 120 790,ki 58 907 120 790,ki 59 909 120 790,ki 60 911 120 790,ki 61 913 120 790,ki 62 915 120 790,ki 63 917 120 790,ki 64 919 120 790,ki 65 921 120 790,ki 66 923 120 790,ki 67 925 120 790,ki 68 927 120 790,ki 69 929 120 790,ki 70 931 120 790,ki 71 933 120 790,ki 72 935 120 790,ki 73 937 120 790,ki 74 939 120 790,ki 75 941 120 790,ki 76 943 120 790,ki 77 945 120 790,ki 78 947 120 790,ki 79 949 120 790,ki 80 951 120 790,ki 81 953 120 790,ki 82 955 120 790,ki 83 957 120 790,ki 84 959 120 790,ki 85 961 120 790,ki 86 963 120 790,ki 87 965 120 790,ki 88 967 120 790,ki 89 969 120 790,ki 90 971 120 790,ki 91 973 40 1076,ki 92 975 92 1133,ki 93 977 41 1106,ki 94 979 120 790,ki 95 981 120 790,ki 96 983 120 790,ki 97 985 120 790,ki 98 987 120 790,ki 99 989 120 790,ki 100 991 120 790,ki 101 993 120 790,ki 102 995 120 790,ki 103 997 120 790,ki 104 999 120 790,ki 105 1001 120 790,ki 106 1003 120 790,ki 107 1005 120 790,ki 108 1007 120 790,ki 109 1009 120 790,ki 110 1011 120 790,ki 111 1013 120 790,ki 112 1015 120 790,ki 113 1017 120 790,ki 114 1019 120 790,ki 115 1021 120 790,ki 116 1023 120 790,ki 117 1025 120 790,ki 118 1027 120 790,ki 119 1029 120 790,ki 120 1031 120 790,ki 121 1033 120 790,ki 122 1035 120 790,ki 123 1037 40 1070,ki 124 1039 120 790,ki 125 1041 41 1100,ki 126 1043 120 790,ki 127 1045 120 790] 128),#[]⟩
noncomputable def o109:Obj:=⟨(.type "str_ascii_iterator"),none,(.fields #[.none,(.int 5 0)]),#[]⟩
noncomputable def o110:Obj:=⟨(.type "code"),none,(.fields #[(sv "<genexpr>" 1109),(sv "<genexpr>" 1110),(sv "/claim/cut.py" 1111),(.int 22 0),(.int 1 0),(.int 0 0),(.int 0 0),(.int 35 0),(.ref 126),(.bool true),(.int 276 0),(.ref 127),.none,.none,.none,.none,(.int 1112 0),(.int 22 0),(sv "/claim/cut.py" 1113)]),#[]⟩
noncomputable def o111 (P:Params):Obj:=⟨(.type "frame"),none,(.dict #[kv P ".0" 1114 (.ref 125),kv P "c" 1121 (sv "#" 1140)] 2),#[]⟩
noncomputable def o112:Obj:=⟨(.type "generator"),none,(.fields #[(.int 2 0),(sv "<genexpr>" 1115),(sv "<genexpr>" 1116)]),#[]⟩
noncomputable def o113:Obj:=⟨(.type "tuple"),none,(.seq #[(sv "'generator' object has no attribute 'keys'" 1118)] 0),#[]⟩
noncomputable def o114:Obj:=⟨(.type "AttributeError"),none,(.fields #[(.ref 131),.none,.none,.none,(.bool false),.none,(sv "keys" 1119),(.ref 130)]),#[]⟩
noncomputable def o115:Obj:=⟨(.type "tuple"),none,(.seq #[(.int 34 1122),(.int 34 1123)] 0),#[]⟩
noncomputable def o116:Obj:=⟨(.type "tuple"),none,(.seq #[(.int 39 1127),(.int 39 1128)] 0),#[]⟩
noncomputable def o117:Obj:=⟨(.type "tuple"),none,(.seq #[(.int 92 1132),(.int 92 1133)] 0),#[]⟩
noncomputable def o118:Obj:=⟨(.type "tuple"),none,(.seq #[(.int 10 1137),(.int 10 1138)] 0),#[]⟩
noncomputable def o119:Obj:=⟨(.type "tuple"),none,(.seq #[(.int 35 1142),(.int 35 1143)] 0),#[]⟩
noncomputable def o120:Obj:=⟨(.type "StopIteration"),none,(.fields #[(.ref 138),.none,.none,.none,(.bool false),.none]),#[]⟩
noncomputable def o121:Obj:=⟨(.type "StopIteration"),none,(.fields #[(.ref 140),.none,.none,.none,(.bool false),.none]),#[]⟩
noncomputable def tS8 (P:Params):BT:=(N (o0 P) (N (o1 P) (N (o76 P) (N o7 (N o7 (N o29 (N o54 (lf o8) O) (lf o84)) (N o42 (lf o68) (lf o7))) (N o22 (N o36 (N o63 (lf o117) O) (lf o90)) (N o6 (lf o75) (lf o103)))) (N (o27 P) (N o18 (N o7 (N o60 (lf o113) O) (lf (o86 P))) (N o37 (lf o71) (lf o99))) (N o26 (N o39 (N o8 (lf o120) O) (lf o93)) (N o51 (lf o108) (lf o7))))) (N o5 (N o9 (N o16 (N o8 (N o58 (lf (o111 P)) O) (lf o8)) (N o45 (lf o7) (lf o97))) (N o24 (N o37 (N o65 (lf o119) O) (lf o92)) (N o49 (lf o78) (lf o7)))) (N (o13 P) (N (o20 P) (N o34 (N (o62 P) (lf o115) O) (lf o88)) (N o47 (lf o73) (lf o101))) (N o107 (N o6 (N o7 (lf o121) O) (lf o94)) (N o7 (lf o7) (lf o109)))))) (N (o2 P) (N o4 (N o8 (N o15 (N o7 (N o57 (lf o110) O) (lf o7)) (N o43 (lf o69) (lf o8))) (N o23 (N o6 (N o64 (lf o118) O) (lf o91)) (N o37 (lf o77) (lf o104)))) (N o12 (N (o19 P) (N o33 (N o61 (lf o114) O) (lf o87)) (N o46 (lf o72) (lf o100))) (N o7 (N o41 (N o66 (lf o7) O) (lf o7)) (N o52 (lf o80) (lf o106))))) (N o6 (N o10 (N o17 (N o32 (N o59 (lf o112) O) (lf o85)) (N o6 (lf (o70 P)) (lf (o98 P)))) (N o25 (N o38 (N o7 (lf o7) O) (lf o7)) (N o50 (lf o6) (lf o105)))) (N o14 (N o21 (N o35 (N o7 (lf o116) O) (lf o89)) (N o48 (lf o74) (lf o102))) (N o28 (N o37 (lf o67) (lf o84)) (N o53 (lf o81) (lf o7)))))))
noncomputable def S8 (w:World)(os:OsState):SharedT:=⟨tS8 w.params,142,{},Array.mk [.finished,.finished,.finished],⟨0,0,0,0⟩,1145,os⟩
noncomputable def o122 (P:Params):Obj:=⟨(.type "dict"),none,(.dict #[kv P "__name__" 165 (sv "cpy313.idlelib.pyparse" 289),kv P "__doc__" 166 .none,kv P "__package__" 167 .none,kv P "__loader__" 168 (.builtin "__main__.__loader__#opaque"),kv P "__spec__" 169 .none,kv P "__annotations__" 170 (.ref 6),kv P "__builtins__" 171 (.ref 4),kv P "__file__" 173 (sv "/claim/cut.py" 172),kv P "__cached__" 174 .none,kv P "_sre" 275 (.ref 12),kv P "_wall" 288 (.ref 38),kv P "_twin_re_2" 334 (.ref 43),kv P "_twin_re_3" 609 (.ref 48),kv P "_twin_re_5" 706 (.ref 53),kv P "_twin_re_6" 736 (.ref 58),kv P "C_NONE" 745 (.int 0 740),kv P "C_BACKSLASH" 746 (.int 1 741),kv P "C_STRING_FIRST_LINE" 747 (.int 2 742),kv P "C_STRING_NEXT_LINES" 748 (.int 3 743),kv P "C_BRACKET" 749 (.int 4 744),kv P "_junkre" 751 (.ref 63),kv P "_match_stringre" 753 (.ref 64),kv P "_closere" 755 (.ref 65),kv P "_chew_ordinaryre" 757 (.ref 66),kv P "ParseMap" 785 (.ref 83),kv P "trans" 1047 (.ref 91),kv P "Parser" 1303 (.ref 249)] 27),#[]⟩
noncomputable def o123:Obj:=⟨.none,none,(.fields #[(.int 2 0),(.int 0 0),(.ref 37),(.int 15 0),(.int 0 0),(.ref 72),(.int 20 0),(.int 13 0),(.ref 98),(.int 21 0),(.int 13 0),(.ref 113),(.int 22 0),(.int 13 0),(.ref 128),(.int 23 0),(.int 0 0),(.ref 147)]),#[]⟩
noncomputable def o124 (P:Params):Obj:=⟨(.type "dict"),none,(.dict #[kv P "__module__" 1152 (sv "cpy313.idlelib.pyparse" 289),kv P "__qualname__" 1154 (sv "Parser" 1153),kv P "__firstlineno__" 1156 (.int 23 1155),kv P "__init__" 1165 (.ref 155),kv P "set_code" 1173 (.ref 162),kv P "find_good_parse_start" 1181 (.ref 169),kv P "set_lo" 1189 (.ref 176),kv P "_study1" 1208 (.ref 183),kv P "get_continuation_type" 1215 (.ref 190),kv P "_study2" 1235 (.ref 197),kv P "compute_bracket_indent" 1242 (.ref 204),kv P "get_num_lines_in_stmt" 1249 (.ref 211),kv P "compute_backslash_indent" 1256 (.ref 218),kv P "get_base_indent_string" 1263 (.ref 225),kv P "is_block_opener" 1270 (.ref 232),kv P "is_block_closer" 1277 (.ref 239),kv P "get_last_stmt_bracketing" 1284 (.ref 246),kv P "__static_attributes__" 1296 (.ref 247)] 18),#[]⟩
noncomputable def o125:Obj:=⟨.none,none,(.fields #[(.int 25 0),(.int 4 0),(.ref 154),(.int 29 0),(.int 4 0),(.ref 161),(.int 34 0),(.int 4 0),(.ref 168),(.int 37 0),(.int 4 0),(.ref 175),(.int 40 0),(.int 4 0),(.ref 182),(.int 125 0),(.int 4 0),(.ref 189),(.int 128 0),(.int 4 0),(.ref 196),(.int 201 0),(.int 4 0),(.ref 203),(.int 204 0),(.int 4 0),(.ref 210),(.int 207 0),(.int 4 0),(.ref 217),(.int 210 0),(.int 4 0),(.ref 224),(.int 213 0),(.int 4 0),(.ref 231),(.int 216 0),(.int 4 0),(.ref 238),(.int 220 0),(.int 4 0),(.ref 245)]),#[]⟩
noncomputable def o126:Obj:=⟨(.type "code"),none,(.fields #[(sv "Parser" 1147),(sv "Parser" 1148),(sv "/claim/cut.py" 1149),(.int 23 0),(.int 0 0),(.int 0 0),(.int 0 0),(.int 0 0),(.ref 145),(.bool false),(.int 276 0),(.ref 146),.none,.none,.none,.none,(.int 1150 0),(.int 23 0),(sv "/claim/cut.py" 1151)]),#[]⟩
noncomputable def o127:Obj:=⟨(.type "frame"),none,.plain,#[(some (.ref 147)),(some (.ref 3)),(some (.ref 144)),none,(some (sv "cpy313.idlelib.pyparse" 289)),none,(some (.ref 0))]⟩
noncomputable def o128:Obj:=⟨(.type "tuple"),none,(.seq #[(sv "self" 1160),(sv "indentwidth" 1161),(sv "tabwidth" 1162)] 0),#[]⟩
noncomputable def o129:Obj:=⟨.none,none,(.func ⟨(Str.ofString "__init__"),(Str.ofString "Parser.__init__"),(aO (mb 0)),(.stmts (aI (mb 0))),(aC (mb 0)),0,[],.none,.none,.none,.none,none,.none,.none,0⟩),#[]⟩
noncomputable def o130:Obj:=⟨(.type "code"),none,(.fields #[(sv "__init__" 1157),(sv "Parser.__init__" 1158),(sv "/claim/cut.py" 1159),(.int 25 0),(.int 3 0),(.int 0 0),(.int 0 0),(.int 3 0),(.ref 149),(.bool true),(.int 276 0),(.ref 150),.none,(.ref 151),(.ref 152),(.ref 153),(.int 1163 0),(.int 25 0),(sv "/claim/cut.py" 1164)]),#[]⟩
noncomputable def o131:Obj:=⟨(.type "function"),none,(.func ⟨(Str.ofString "__init__"),(Str.ofString "Parser.__init__"),(aO (mb 0)),(.stmts (aI (mb 0))),(aC (mb 0)),3,[],.none,.none,.none,(sv "cpy313.idlelib.pyparse" 289),none,(.ref 154),.none,0⟩),#[]⟩
noncomputable def o132:Obj:=⟨(.type "tuple"),none,(.seq #[(sv "self" 1169),(sv "s" 1170)] 0),#[]⟩
noncomputable def o133:Obj:=⟨.none,none,(.func ⟨(Str.ofString "set_code"),(Str.ofString "Parser.set_code"),(aO (mb 1)),(.stmts (aI (mb 1))),(aC (mb 1)),0,[],.none,.none,.none,.none,none,.none,.none,0⟩),#[]⟩
noncomputable def o134:Obj:=⟨(.type "code"),none,(.fields #[(sv "set_code" 1166),(sv "Parser.set_code" 1167),(sv "/claim/cut.py" 1168),(.int 29 0),(.int 2 0),(.int 0 0),(.int 0 0),(.int 3 0),(.ref 156),(.bool true),(.int 276 0),(.ref 157),.none,(.ref 158),(.ref 159),(.ref 160),(.int 1171 0),(.int 29 0),(sv "/claim/cut.py" 1172)]),#[]⟩
noncomputable def o135:Obj:=⟨(.type "function"),none,(.func ⟨(Str.ofString "set_code"),(Str.ofString "Parser.set_code"),(aO (mb 1)),(.stmts (aI (mb 1))),(aC (mb 1)),3,[],.none,.none,.none,(sv "cpy313.idlelib.pyparse" 289),none,(.ref 161),.none,0⟩),#[]⟩
noncomputable def o136:Obj:=⟨(.type "tuple"),none,(.seq #[(sv "self" 1177),(sv "is_char_in_string" 1178)] 0),#[]⟩
noncomputable def o137:Obj:=⟨.none,none,(.func ⟨(Str.ofString "find_good_parse_start"),(Str.ofString "Parser.find_good_parse_start"),(aO (mb 2)),(.stmts (aI (mb 2))),(aC (mb 2)),0,[],.none,.none,.none,.none,none,.none,.none,0⟩),#[]⟩
noncomputable def o138:Obj:=⟨(.type "code"),none,(.fields #[(sv "find_good_parse_start" 1174),(sv "Parser.find_good_parse_start" 1175),(sv "/claim/cut.py" 1176),(.int 34 0),(.int 2 0),(.int 0 0),(.int 0 0),(.int 3 0),(.ref 163),(.bool true),(.int 276 0),(.ref 164),.none,(.ref 165),(.ref 166),(.ref 167),(.int 1179 0),(.int 34 0),(sv "/claim/cut.py" 1180)]),#[]⟩
noncomputable def o139:Obj:=⟨(.type "function"),none,(.func ⟨(Str.ofString "find_good_parse_start"),(Str.ofString "Parser.find_good_parse_start"),(aO (mb 2)),(.stmts (aI (mb 2))),(aC (mb 2)),3,[],.none,.none,.none,(sv "cpy313.idlelib.pyparse" 289),none,(.ref 168),.none,0⟩),#[]⟩
noncomputable def o140:Obj:=⟨(.type "tuple"),none,(.seq #[(sv "self" 1185),(sv "lo" 1186)] 0),#[]⟩
noncomputable def o141:Obj:=⟨.none,none,(.func ⟨(Str.ofString "set_lo"),(Str.ofString "Parser.set_lo"),(aO (mb 3)),(.stmts (aI (mb 3))),(aC (mb 3)),0,[],.none,.none,.none,.none,none,.none,.none,0⟩),#[]⟩
noncomputable def o142:Obj:=⟨(.type "code"),none,(.fields #[(sv "set_lo" 1182),(sv "Parser.set_lo" 1183),(sv "/claim/cut.py" 1184),(.int 37 0),(.int 2 0),(.int 0 0),(.int 0 0),(.int 3 0),(.ref 170),(.bool true),(.int 276 0),(.ref 171),.none,(.ref 172),(.ref 173),(.ref 174),(.int 1187 0),(.int 37 0),(sv "/claim/cut.py" 1188)]),#[]⟩
noncomputable def o143:Obj:=⟨(.type "function"),none,(.func ⟨(Str.ofString "set_lo"),(Str.ofString "Parser.set_lo"),(aO (mb 3)),(.stmts (aI (mb 3))),(aC (mb 3)),3,[],.none,.none,.none,(sv "cpy313.idlelib.pyparse" 289),none,(.ref 175),.none,0⟩),#[]⟩
noncomputable def o144:Obj:=⟨(.type "tuple"),none,(.seq #[(sv "self" 1193),(sv "code" 1194),(sv "continuation" 1195),(sv "level" 1196),(sv "lno" 1197),(sv "goodlines" 1198),(sv "push_good" 1199),(sv "i" 1200),(sv "n" 1201),(sv "ch" 1202),(sv "quote" 1203),(sv "firstlno" 1204),(sv "w" 1205)] 0),#[]⟩
noncomputable def o145:Obj:=⟨.none,none,(.func ⟨(Str.ofString "_study1"),(Str.ofString "Parser._study1"),(aO (mb 4)),(.stmts (aI (mb 4))),(aC (mb 4)),0,[],.none,.none,.none,.none,none,.none,.none,0⟩),#[]⟩
noncomputable def o146:Obj:=⟨(.type "code"),none,(.fields #[(sv "_study1" 1190),(sv "Parser._study1" 1191),(sv "/claim/cut.py" 1192),(.int 40 0),(.int 1 0),(.int 0 0),(.int 0 0),(.int 3 0),(.ref 177),(.bool true),(.int 276 0),(.ref 178),.none,(.ref 179),(.ref 180),(.ref 181),(.int 1206 0),(.int 40 0),(sv "/claim/cut.py" 1207)]),#[]⟩
noncomputable def o147:Obj:=⟨(.type "function"),none,(.func ⟨(Str.ofString "_study1"),(Str.ofString "Parser._study1"),(aO (mb 4)),(.stmts (aI (mb 4))),(aC (mb 4)),3,[],.none,.none,.none,(sv "cpy313.idlelib.pyparse" 289),none,(.ref 182),.none,0⟩),#[]⟩
noncomputable def o148:Obj:=⟨(.type "tuple"),none,(.seq #[(sv "self" 1212)] 0),#[]⟩
noncomputable def o149:Obj:=⟨.none,none,(.func ⟨(Str.ofString "get_continuation_type"),(Str.ofString "Parser.get_continuation_type"),(aO (mb 5)),(.stmts (aI (mb 5))),(aC (mb 5)),0,[],.none,.none,.none,.none,none,.none,.none,0⟩),#[]⟩
noncomputable def o150:Obj:=⟨(.type "code"),none,(.fields #[(sv "get_continuation_type" 1209),(sv "Parser.get_continuation_type" 1210),(sv "/claim/cut.py" 1211),(.int 125 0),(.int 1 0),(.int 0 0),(.int 0 0),(.int 3 0),(.ref 184),(.bool true),(.int 276 0),(.ref 185),.none,(.ref 186),(.ref 187),(.ref 188),(.int 1213 0),(.int 125 0),(sv "/claim/cut.py" 1214)]),#[]⟩
noncomputable def o151:Obj:=⟨(.type "function"),none,(.func ⟨(Str.ofString "get_continuation_type"),(Str.ofString "Parser.get_continuation_type"),(aO (mb 5)),(.stmts (aI (mb 5))),(aC (mb 5)),3,[],.none,.none,.none,(sv "cpy313.idlelib.pyparse" 289),none,(.ref 189),.none,0⟩),#[]⟩
noncomputable def o152:Obj:=⟨(.type "tuple"),none,(.seq #[(sv "self" 1219),(sv "code" 1220),(sv "goodlines" 1221),(sv "i" 1222),(sv "p" 1223),(sv "q" 1224),(sv "nothing" 1225),(sv "lastch" 1226),(sv "stack" 1227),(sv "push_stack" 1228),(sv "bracketing" 1229),(sv "m" 1230),(sv "newp" 1231),(sv "ch" 1232)] 0),#[]⟩
noncomputable def o153:Obj:=⟨.none,none,(.func ⟨(Str.ofString "_study2"),(Str.ofString "Parser._study2"),(aO (mb 6)),(.stmts (aI (mb 6))),(aC (mb 6)),0,[],.none,.none,.none,.none,none,.none,.none,0⟩),#[]⟩
noncomputable def o154:Obj:=⟨(.type "code"),none,(.fields #[(sv "_study2" 1216),(sv "Parser._study2" 1217),(sv "/claim/cut.py" 1218),(.int 128 0),(.int 1 0),(.int 0 0),(.int 0 0),(.int 3 0),(.ref 191),(.bool true),(.int 276 0),(.ref 192),.none,(.ref 193),(.ref 194),(.ref 195),(.int 1233 0),(.int 128 0),(sv "/claim/cut.py" 1234)]),#[]⟩
noncomputable def o155:Obj:=⟨(.type "function"),none,(.func ⟨(Str.ofString "_study2"),(Str.ofString "Parser._study2"),(aO (mb 6)),(.stmts (aI (mb 6))),(aC (mb 6)),3,[],.none,.none,.none,(sv "cpy313.idlelib.pyparse" 289),none,(.ref 196),.none,0⟩),#[]⟩
noncomputable def o156:Obj:=⟨(.type "tuple"),none,(.seq #[(sv "self" 1239)] 0),#[]⟩
noncomputable def o157:Obj:=⟨.none,none,(.func ⟨(Str.ofString "compute_bracket_indent"),(Str.ofString "Parser.compute_bracket_indent"),(aO (mb 7)),(.stmts (aI (mb 7))),(aC (mb 5)),0,[],.none,.none,.none,.none,none,.none,.none,0⟩),#[]⟩
noncomputable def o158:Obj:=⟨(.type "code"),none,(.fields #[(sv "compute_bracket_indent" 1236),(sv "Parser.compute_bracket_indent" 1237),(sv "/claim/cut.py" 1238),(.int 201 0),(.int 1 0),(.int 0 0),(.int 0 0),(.int 3 0),(.ref 198),(.bool true),(.int 276 0),(.ref 199),.none,(.ref 200),(.ref 201),(.ref 202),(.int 1240 0),(.int 201 0),(sv "/claim/cut.py" 1241)]),#[]⟩
noncomputable def o159:Obj:=⟨(.type "function"),none,(.func ⟨(Str.ofString "compute_bracket_indent"),(Str.ofString "Parser.compute_bracket_indent"),(aO (mb 7)),(.stmts (aI (mb 7))),(aC (mb 5)),3,[],.none,.none,.none,(sv "cpy313.idlelib.pyparse" 289),none,(.ref 203),.none,0⟩),#[]⟩
noncomputable def o160:Obj:=⟨(.type "tuple"),none,(.seq #[(sv "self" 1246)] 0),#[]⟩
noncomputable def o161:Obj:=⟨.none,none,(.func ⟨(Str.ofString "get_num_lines_in_stmt"),(Str.ofString "Parser.get_num_lines_in_stmt"),(aO (mb 8)),(.stmts (aI (mb 8))),(aC (mb 5)),0,[],.none,.none,.none,.none,none,.none,.none,0⟩),#[]⟩
noncomputable def o162:Obj:=⟨(.type "code"),none,(.fields #[(sv "get_num_lines_in_stmt" 1243),(sv "Parser.get_num_lines_in_stmt" 1244),(sv "/claim/cut.py" 1245),(.int 204 0),(.int 1 0),(.int 0 0),(.int 0 0),(.int 3 0),(.ref 205),(.bool true),(.int 276 0),(.ref 206),.none,(.ref 207),(.ref 208),(.ref 209),(.int 1247 0),(.int 204 0),(sv "/claim/cut.py" 1248)]),#[]⟩
noncomputable def o163:Obj:=⟨(.type "function"),none,(.func ⟨(Str.ofString "get_num_lines_in_stmt"),(Str.ofString "Parser.get_num_lines_in_stmt"),(aO (mb 8)),(.stmts (aI (mb 8))),(aC (mb 5)),3,[],.none,.none,.none,(sv "cpy313.idlelib.pyparse" 289),none,(.ref 210),.none,0⟩),#[]⟩
noncomputable def o164:Obj:=⟨(.type "tuple"),none,(.seq #[(sv "self" 1253)] 0),#[]⟩
noncomputable def o165:Obj:=⟨.none,none,(.func ⟨(Str.ofString "compute_backslash_indent"),(Str.ofString "Parser.compute_backslash_indent"),(aO (mb 9)),(.stmts (aI (mb 9))),(aC (mb 5)),0,[],.none,.none,.none,.none,none,.none,.none,0⟩),#[]⟩
noncomputable def o166:Obj:=⟨(.type "code"),none,(.fields #[(sv "compute_backslash_indent" 1250),(sv "Parser.compute_backslash_indent" 1251),(sv "/claim/cut.py" 1252),(.int 207 0),(.int 1 0),(.int 0 0),(.int 0 0),(.int 3 0),(.ref 212),(.bool true),(.int 276 0),(.ref 213),.none,(.ref 214),(.ref 215),(.ref 216),(.int 1254 0),(.int 207 0),(sv "/claim/cut.py" 1255)]),#[]⟩
noncomputable def o167:Obj:=⟨(.type "function"),none,(.func ⟨(Str.ofString "compute_backslash_indent"),(Str.ofString "Parser.compute_backslash_indent"),(aO (mb 9)),(.stmts (aI (mb 9))),(aC (mb 5)),3,[],.none,.none,.none,(sv "cpy313.idlelib.pyparse" 289),none,(.ref 217),.none,0⟩),#[]⟩
noncomputable def o168:Obj:=⟨(.type "tuple"),none,(.seq #[(sv "self" 1260)] 0),#[]⟩
noncomputable def o169:Obj:=⟨.none,none,(.func ⟨(Str.ofString "get_base_indent_string"),(Str.ofString "Parser.get_base_indent_string"),(aO (mb 10)),(.stmts (aI (mb 10))),(aC (mb 5)),0,[],.none,.none,.none,.none,none,.none,.none,0⟩),#[]⟩
noncomputable def o170:Obj:=⟨(.type "code"),none,(.fields #[(sv "get_base_indent_string" 1257),(sv "Parser.get_base_indent_string" 1258),(sv "/claim/cut.py" 1259),(.int 210 0),(.int 1 0),(.int 0 0),(.int 0 0),(.int 3 0),(.ref 219),(.bool true),(.int 276 0),(.ref 220),.none,(.ref 221),(.ref 222),(.ref 223),(.int 1261 0),(.int 210 0),(sv "/claim/cut.py" 1262)]),#[]⟩
noncomputable def o171:Obj:=⟨(.type "function"),none,(.func ⟨(Str.ofString "get_base_indent_string"),(Str.ofString "Parser.get_base_indent_string"),(aO (mb 10)),(.stmts (aI (mb 10))),(aC (mb 5)),3,[],.none,.none,.none,(sv "cpy313.idlelib.pyparse" 289),none,(.ref 224),.none,0⟩),#[]⟩
noncomputable def o172:Obj:=⟨(.type "tuple"),none,(.seq #[(sv "self" 1267)] 0),#[]⟩
noncomputable def o173:Obj:=⟨.none,none,(.func ⟨(Str.ofString "is_block_opener"),(Str.ofString "Parser.is_block_opener"),(aO (mb 11)),(.stmts (aI (mb 11))),(aC (mb 5)),0,[],.none,.none,.none,.none,none,.none,.none,0⟩),#[]⟩
noncomputable def o174:Obj:=⟨(.type "code"),none,(.fields #[(sv "is_block_opener" 1264),(sv "Parser.is_block_opener" 1265),(sv "/claim/cut.py" 1266),(.int 213 0),(.int 1 0),(.int 0 0),(.int 0 0),(.int 3 0),(.ref 226),(.bool true),(.int 276 0),(.ref 227),.none,(.ref 228),(.ref 229),(.ref 230),(.int 1268 0),(.int 213 0),(sv "/claim/cut.py" 1269)]),#[]⟩
noncomputable def o175:Obj:=⟨(.type "function"),none,(.func ⟨(Str.ofString "is_block_opener"),(Str.ofString "Parser.is_block_opener"),(aO (mb 11)),(.stmts (aI (mb 11))),(aC (mb 5)),3,[],.none,.none,.none,(sv "cpy313.idlelib.pyparse" 289),none,(.ref 231),.none,0⟩),#[]⟩
noncomputable def o176:Obj:=⟨(.type "tuple"),none,(.seq #[(sv "self" 1274)] 0),#[]⟩
noncomputable def o177:Obj:=⟨.none,none,(.func ⟨(Str.ofString "is_block_closer"),(Str.ofString "Parser.is_block_closer"),(aO (mb 12)),(.stmts (aI (mb 12))),(aC (mb 12)),0,[],.none,.none,.none,.none,none,.none,.none,0⟩),#[]⟩
noncomputable def o178:Obj:=⟨(.type "code"),none,(.fields #[(sv "is_block_closer" 1271),(sv "Parser.is_block_closer" 1272),(sv "/claim/cut.py" 1273),(.int 216 0),(.int 1 0),(.int 0 0),(.int 0 0),(.int 3 0),(.ref 233),(.bool true),(.int 276 0),(.ref 234),.none,(.ref 235),(.ref 236),(.ref 237),(.int 1275 0),(.int 216 0),(sv "/claim/cut.py" 1276)]),#[]⟩
noncomputable def o179:Obj:=⟨(.type "function"),none,(.func ⟨(Str.ofString "is_block_closer"),(Str.ofString "Parser.is_block_closer"),(aO (mb 12)),(.stmts (aI (mb 12))),(aC (mb 12)),3,[],.none,.none,.none,(sv "cpy313.idlelib.pyparse" 289),none,(.ref 238),.none,0⟩),#[]⟩
noncomputable def o180:Obj:=⟨(.type "tuple"),none,(.seq #[(sv "self" 1281)] 0),#[]⟩
noncomputable def o181:Obj:=⟨.none,none,(.func ⟨(Str.ofString "get_last_stmt_bracketing"),(Str.ofString "Parser.get_last_stmt_bracketing"),(aO (mb 13)),(.stmts (aI (mb 13))),(aC (mb 5)),0,[],.none,.none,.none,.none,none,.none,.none,0⟩),#[]⟩
noncomputable def o182:Obj:=⟨(.type "code"),none,(.fields #[(sv "get_last_stmt_bracketing" 1278),(sv "Parser.get_last_stmt_bracketing" 1279),(sv "/claim/cut.py" 1280),(.int 220 0),(.int 1 0),(.int 0 0),(.int 0 0),(.int 3 0),(.ref 240),(.bool true),(.int 276 0),(.ref 241),.none,(.ref 242),(.ref 243),(.ref 244),(.int 1282 0),(.int 220 0),(sv "/claim/cut.py" 1283)]),#[]⟩
noncomputable def o183:Obj:=⟨(.type "function"),none,(.func ⟨(Str.ofString "get_last_stmt_bracketing"),(Str.ofString "Parser.get_last_stmt_bracketing"),(aO (mb 13)),(.stmts (aI (mb 13))),(aC (mb 5)),3,[],.none,.none,.none,(sv "cpy313.idlelib.pyparse" 289),none,(.ref 245),.none,0⟩),#[]⟩
noncomputable def o184:Obj:=⟨(.type "tuple"),none,(.seq #[(sv "code" 1285),(sv "continuation" 1286),(sv "goodlines" 1287),(sv "indentwidth" 1288),(sv "lastch" 1289),(sv "lastopenbracketpos" 1290),(sv "stmt_bracketing" 1291),(sv "stmt_end" 1292),(sv "stmt_start" 1293),(sv "study_level" 1294),(sv "tabwidth" 1295)] 0),#[]⟩
noncomputable def o185 (P:Params):Obj:=⟨(.type "dict"),none,(.dict #[kv P "__module__" 1152 (sv "cpy313.idlelib.pyparse" 289),kv P "__firstlineno__" 1156 (.int 23 1155),kv P "__init__" 1165 (.ref 155),kv P "set_code" 1173 (.ref 162),kv P "find_good_parse_start" 1181 (.ref 169),kv P "set_lo" 1189 (.ref 176),kv P "_study1" 1208 (.ref 183),kv P "get_continuation_type" 1215 (.ref 190),kv P "_study2" 1235 (.ref 197),kv P "compute_bracket_indent" 1242 (.ref 204),kv P "get_num_lines_in_stmt" 1249 (.ref 211),kv P "compute_backslash_indent" 1256 (.ref 218),kv P "get_base_indent_string" 1263 (.ref 225),kv P "is_block_opener" 1270 (.ref 232),kv P "is_block_closer" 1277 (.ref 239),kv P "get_last_stmt_bracketing" 1284 (.ref 246),kv P "__static_attributes__" 1296 (.ref 247),kv P "__dict__" 1298 (.ref 250),kv P "__weakref__" 1300 (.ref 251),kv P "__doc__" 1301 .none] 4),#[]⟩
noncomputable def o186:Obj:=⟨(.type "type"),none,(.cls ⟨(Str.ofString "Parser"),[(.type "object")],[(.ref 249),(.type "object")],248,(Str.ofString "Parser"),true,[],[],false,none,false⟩),#[none,none,(some (sv "Parser" 1145)),(some (sv "Parser" 1153)),(some (.builtin "object.__new__")),(some (.bool true))]⟩
noncomputable def o187:Obj:=⟨(.type "getset_descriptor"),none,(.fields #[(sv "__dict__" 1297),(.ref 249),(.builtin "function.__dict__"),(.builtin "function.__dict__#set")]),#[]⟩
noncomputable def o188:Obj:=⟨(.type "getset_descriptor"),none,(.fields #[(sv "__weakref__" 1299),(.ref 249),(.builtin "ExceptionGroup.__weakref__"),.none]),#[]⟩
noncomputable def o189:Obj:=⟨(.type "super"),none,(.fields #[(.ref 249),(.ref 249),(.ref 249)]),#[]⟩
noncomputable def o190:Obj:=⟨(.type "builtin_function_or_method"),none,(.fields #[(.builtin "object.__init_subclass__"),(.ref 249)]),#[]⟩
noncomputable def tS9 (P:Params):BT:=(N (o0 P) (N (o1 P) (N (o122 P) (N o7 (N o7 (N o29 (N o54 (lf o8) (lf o7)) (N o84 (lf o7) (lf o169))) (N o42 (N o68 (lf o61) (lf o160)) (N o7 (lf o142) (lf o179)))) (N o22 (N o36 (N o63 (lf o117) (lf o8)) (N o90 (lf o137) (lf o174))) (N o6 (N o75 (lf o128) (lf o7)) (N o103 (lf o147) (lf o184))))) (N (o27 P) (N o18 (N o7 (N o60 (lf o113) (lf o153)) (N (o86 P) (lf o7) (lf o8))) (N o37 (N o71 (lf o126) (lf o163)) (N o99 (lf o144) (lf o7)))) (N o26 (N o39 (N o8 (lf o120) (lf o158)) (N o93 (lf o8) (lf o176))) (N o51 (N o108 (lf o131) (lf o7)) (N o7 (lf o7) (lf o188)))))) (N o5 (N o9 (N o16 (N o8 (N o58 (lf (o111 P)) (lf o152)) (N o8 (lf o134) (lf o171))) (N o45 (N o7 (lf o7) (lf o161)) (N o97 (lf o7) (lf o8)))) (N o24 (N o37 (N o65 (lf o119) (lf o7)) (N o92 (lf o139) (lf o7))) (N o49 (N o78 (lf o129) (lf o166)) (N o7 (lf o8) (lf o186))))) (N (o13 P) (N (o20 P) (N o34 (N (o62 P) (lf o115) (lf o155)) (N o88 (lf o136) (lf o7))) (N o47 (N o73 (lf o7) (lf o8)) (N o101 (lf o145) (lf o182)))) (N o123 (N o6 (N o7 (lf o121) (lf o7)) (N o94 (lf o7) (lf o177))) (N o7 (N o7 (lf o8) (lf o168)) (N o109 (lf o150) (lf o190))))))) (N (o2 P) (N o4 (N o8 (N o15 (N o7 (N o57 (lf o110) (lf o8)) (N o7 (lf o133) (lf o170))) (N o43 (N o69 (lf (o124 P)) (lf o7)) (N o8 (lf o143) (lf o7)))) (N o23 (N o6 (N o64 (lf o118) (lf o156)) (N o91 (lf o138) (lf o175))) (N o37 (N o77 (lf o7) (lf o165)) (N o104 (lf o7) (lf (o185 P)))))) (N o12 (N (o19 P) (N o33 (N o61 (lf o114) (lf o154)) (N o87 (lf o8) (lf o172))) (N o46 (N o72 (lf o127) (lf o7)) (N o100 (lf o7) (lf o181)))) (N o7 (N o41 (N o66 (lf o7) (lf o159)) (N o7 (lf o140) (lf o7))) (N o52 (N o80 (lf o7) (lf o8)) (N o106 (lf o149) (lf o189)))))) (N o6 (N o10 (N o17 (N o32 (N o59 (lf o112) (lf o7)) (N o85 (lf o135) (lf o7))) (N o6 (N (o70 P) (lf o125) (lf o162)) (N (o98 P) (lf o8) (lf o180)))) (N o25 (N o38 (N o7 (lf o7) (lf o157)) (N o7 (lf o7) (lf o8))) (N o50 (N o6 (lf o130) (lf o167)) (N o105 (lf o148) (lf o187))))) (N o14 (N o21 (N o35 (N o7 (lf o116) (lf o7)) (N o89 (lf o7) (lf o173))) (N o48 (N o74 (lf o8) (lf o164)) (N o102 (lf o146) (lf o183)))) (N o28 (N o37 (N o67 (lf o7) (lf o8)) (N o84 (lf o141) (lf o178))) (N o53 (N o81 (lf o132) (lf o7)) (N o7 (lf o151) O)))))))
noncomputable def S9 (w:World)(os:OsState):SharedT:=⟨tS9 w.params,254,{},Array.mk [.finished,.finished,.finished],⟨0,0,0,0⟩,1304,os⟩
noncomputable def o191 (P:Params):Obj:=⟨(.type "dict"),none,(.dict #[kv P "__name__" 165 (sv "law_dm0168_05" 1304),kv P "__doc__" 166 .none,kv P "__package__" 167 .none,kv P "__loader__" 168 (.builtin "__main__.__loader__#opaque"),kv P "__spec__" 169 .none,kv P "__annotations__" 170 (.ref 6),kv P "__builtins__" 171 (.ref 4),kv P "__file__" 173 (sv "/claim/cut.py" 172),kv P "__cached__" 174 .none,kv P "_sre" 275 (.ref 12),kv P "_wall" 288 (.ref 38),kv P "_twin_re_2" 334 (.ref 43),kv P "_twin_re_3" 609 (.ref 48),kv P "_twin_re_5" 706 (.ref 53),kv P "_twin_re_6" 736 (.ref 58),kv P "C_NONE" 745 (.int 0 740),kv P "C_BACKSLASH" 746 (.int 1 741),kv P "C_STRING_FIRST_LINE" 747 (.int 2 742),kv P "C_STRING_NEXT_LINES" 748 (.int 3 743),kv P "C_BRACKET" 749 (.int 4 744),kv P "_junkre" 751 (.ref 63),kv P "_match_stringre" 753 (.ref 64),kv P "_closere" 755 (.ref 65),kv P "_chew_ordinaryre" 757 (.ref 66),kv P "ParseMap" 785 (.ref 83),kv P "trans" 1047 (.ref 91),kv P "Parser" 1303 (.ref 249),kv P "_law_draw" 1313 (.ref 260),kv P "_law_told" 1319 (.ref 265),kv P "law" 1339 (.ref 272)] 30),#[]⟩
noncomputable def o192:Obj:=⟨.none,none,(.fields #[(.int 2 0),(.int 0 0),(.ref 37),(.int 15 0),(.int 0 0),(.ref 72),(.int 20 0),(.int 13 0),(.ref 98),(.int 21 0),(.int 13 0),(.ref 113),(.int 22 0),(.int 13 0),(.ref 128),(.int 23 0),(.int 0 0),(.ref 147),(.int 223 0),(.int 0 0),(.ref 259),(.int 227 0),(.int 0 0),(.ref 264),(.int 231 0),(.int 0 0),(.ref 271)]),#[]⟩
noncomputable def o193:Obj:=⟨(.type "tuple"),none,(.seq #[(sv "pool" 1309),(sv "bound" 1310)] 0),#[]⟩
noncomputable def o194:Obj:=⟨.none,none,(.func ⟨(Str.ofString "_law_draw"),(Str.ofString "_law_draw"),(aO (aB pw.main.body 19)),(.stmts (aI (aB pw.main.body 19))),(aC (aB pw.main.body 19)),0,[],.none,.none,.none,.none,none,.none,.none,0⟩),#[]⟩
noncomputable def o195:Obj:=⟨(.type "code"),none,(.fields #[(sv "_law_draw" 1306),(sv "_law_draw" 1307),(sv "/claim/cut.py" 1308),(.int 223 0),(.int 2 0),(.int 0 0),(.int 0 0),(.int 3 0),(.ref 254),(.bool true),(.int 276 0),(.ref 255),.none,(.ref 256),(.ref 257),(.ref 258),(.int 1311 0),(.int 223 0),(sv "/claim/cut.py" 1312)]),#[]⟩
noncomputable def o196:Obj:=⟨(.type "function"),none,(.func ⟨(Str.ofString "_law_draw"),(Str.ofString "_law_draw"),(aO (aB pw.main.body 19)),(.stmts (aI (aB pw.main.body 19))),(aC (aB pw.main.body 19)),3,[],.none,.none,.none,(sv "law_dm0168_05" 1304),none,(.ref 259),.none,0⟩),#[]⟩
noncomputable def o197:Obj:=⟨.none,none,(.func ⟨(Str.ofString "_law_told"),(Str.ofString "_law_told"),(aO (aB pw.main.body 20)),(.stmts (aI (aB pw.main.body 20))),(aC (aB pw.main.body 20)),0,[],.none,.none,.none,.none,none,.none,.none,0⟩),#[]⟩
noncomputable def o198:Obj:=⟨(.type "code"),none,(.fields #[(sv "_law_told" 1314),(sv "_law_told" 1315),(sv "/claim/cut.py" 1316),(.int 227 0),(.int 3 0),(.int 0 0),(.int 0 0),(.int 3 0),(.ref 261),(.bool true),(.int 276 0),(.ref 262),.none,.none,.none,(.ref 263),(.int 1317 0),(.int 227 0),(sv "/claim/cut.py" 1318)]),#[]⟩
noncomputable def o199:Obj:=⟨(.type "function"),none,(.func ⟨(Str.ofString "_law_told"),(Str.ofString "_law_told"),(aO (aB pw.main.body 20)),(.stmts (aI (aB pw.main.body 20))),(aC (aB pw.main.body 20)),3,[],.none,.none,.none,(sv "law_dm0168_05" 1304),none,(.ref 264),.none,0⟩),#[]⟩
noncomputable def o200:Obj:=⟨(.type "tuple"),none,(.seq #[(sv "script" 1323),(sv "words" 1324),(sv "rests" 1325),(sv "others" 1326),(sv "junk" 1327),(sv "pool" 1328),(sv "parser" 1329),(sv "text" 1330),(sv "turn" 1331),(sv "word" 1332),(sv "rest" 1333),(sv "due" 1334),(sv "begun" 1335),(sv "last" 1336)] 0),#[]⟩
noncomputable def o201:Obj:=⟨.none,none,(.func ⟨(Str.ofString "law"),(Str.ofString "law"),(aO (aB pw.main.body 21)),(.stmts (aI (aB pw.main.body 21))),(aC (aB pw.main.body 21)),0,[],.none,.none,.none,.none,none,.none,.none,0⟩),#[]⟩
noncomputable def o202:Obj:=⟨(.type "code"),none,(.fields #[(sv "law" 1320),(sv "law" 1321),(sv "/claim/cut.py" 1322),(.int 231 0),(.int 1 0),(.int 0 0),(.int 0 0),(.int 3 0),(.ref 266),(.bool true),(.int 276 0),(.ref 267),.none,(.ref 268),(.ref 269),(.ref 270),(.int 1337 0),(.int 231 0),(sv "/claim/cut.py" 1338)]),#[]⟩
noncomputable def o203:Obj:=⟨(.type "function"),none,(.func ⟨(Str.ofString "law"),(Str.ofString "law"),(aO (aB pw.main.body 21)),(.stmts (aI (aB pw.main.body 21))),(aC (aB pw.main.body 21)),3,[],.none,.none,.none,(sv "law_dm0168_05" 1304),none,(.ref 271),.none,0⟩),#[]⟩
noncomputable def zG (P:Params):BT:=(N (o0 P) (N (o1 P) (N (o191 P) (N o7 (N o7 (N o29 (N o54 (N o8 (lf o8) O) (lf o7)) (N o84 (lf o7) (lf o169))) (N o42 (N o68 (N o61 (lf o202) O) (lf o160)) (N o7 (lf o142) (lf o179)))) (N o22 (N o36 (N o63 (N o117 (lf o197) O) (lf o8)) (N o90 (lf o137) (lf o174))) (N o6 (N o75 (lf o128) (lf o7)) (N o103 (lf o147) (lf o184))))) (N (o27 P) (N o18 (N o7 (N o60 (N o113 (lf o195) O) (lf o153)) (N (o86 P) (lf o7) (lf o8))) (N o37 (N o71 (lf o126) (lf o163)) (N o99 (lf o144) (lf o7)))) (N o26 (N o39 (N o8 (N o120 (lf o8) O) (lf o158)) (N o93 (lf o8) (lf o176))) (N o51 (N o108 (lf o131) (lf o7)) (N o7 (lf o7) (lf o188)))))) (N o5 (N o9 (N o16 (N o8 (N o58 (N (o111 P) (lf o7) O) (lf o152)) (N o8 (lf o134) (lf o171))) (N o45 (N o7 (lf o7) (lf o161)) (N o97 (lf o7) (lf o8)))) (N o24 (N o37 (N o65 (N o119 (lf o199) O) (lf o7)) (N o92 (lf o139) (lf o7))) (N o49 (N o78 (lf o129) (lf o166)) (N o7 (lf o8) (lf o186))))) (N (o13 P) (N (o20 P) (N o34 (N (o62 P) (N o115 (lf o7) O) (lf o155)) (N o88 (lf o136) (lf o7))) (N o47 (N o73 (lf o7) (lf o8)) (N o101 (lf o145) (lf o182)))) (N o192 (N o6 (N o7 (N o121 (lf o7) O) (lf o7)) (N o94 (lf o7) (lf o177))) (N o7 (N o7 (lf o8) (lf o168)) (N o109 (lf o150) (lf o190))))))) (N (o2 P) (N o4 (N o8 (N o15 (N o7 (N o57 (N o110 (lf o193) O) (lf o8)) (N o7 (lf o133) (lf o170))) (N o43 (N o69 (N (o124 P) (lf o203) O) (lf o7)) (N o8 (lf o143) (lf o7)))) (N o23 (N o6 (N o64 (N o118 (lf o198) O) (lf o156)) (N o91 (lf o138) (lf o175))) (N o37 (N o77 (lf o7) (lf o165)) (N o104 (lf o7) (lf (o185 P)))))) (N o12 (N (o19 P) (N o33 (N o61 (N o114 (lf o196) O) (lf o154)) (N o87 (lf o8) (lf o172))) (N o46 (N o72 (lf o127) (lf o7)) (N o100 (lf o7) (lf o181)))) (N o7 (N o41 (N o66 (N o7 (lf o200) O) (lf o159)) (N o7 (lf o140) (lf o7))) (N o52 (N o80 (lf o7) (lf o8)) (N o106 (lf o149) (lf o189)))))) (N o6 (N o10 (N o17 (N o32 (N o59 (N o112 (lf o194) O) (lf o7)) (N o85 (lf o135) (lf o7))) (N o6 (N (o70 P) (lf o125) (lf o162)) (N (o98 P) (lf o8) (lf o180)))) (N o25 (N o38 (N o7 (N o7 (lf o7) O) (lf o157)) (N o7 (lf o7) (lf o8))) (N o50 (N o6 (lf o130) (lf o167)) (N o105 (lf o148) (lf o187))))) (N o14 (N o21 (N o35 (N o7 (N o116 (lf o8) O) (lf o7)) (N o89 (lf o7) (lf o173))) (N o48 (N o74 (lf o8) (lf o164)) (N o102 (lf o146) (lf o183)))) (N o28 (N o37 (N o67 (N o7 (lf o201) O) (lf o8)) (N o84 (lf o141) (lf o178))) (N o53 (N o81 (lf o132) (lf o7)) (N o7 (lf o151) (lf o7))))))))
noncomputable def S10 (w:World)(os:OsState):SharedT:=⟨zG w.params,273,{},Array.mk [.finished,.finished,.finished],⟨0,0,0,0⟩,1340,os⟩
noncomputable def o204:Obj:=⟨(.ref 83),(some 90),(.dict #[] 0),#[]⟩
noncomputable def o205:Obj:=⟨(.type "range_iterator"),none,(.fields #[(.int 0 0),(.int 128 0),(.int 1 0)]),#[]⟩
noncomputable def xL (P:Params):BT:=(N (o0 P) (N (o1 P) (N (o55 P) (N o7 (N o7 (N o29 (lf o54) O) (N o42 (lf o68) O)) (N o22 (N o36 (lf o63) O) (N o6 (lf o75) O))) (N (o27 P) (N o18 (N o7 (lf o60) O) (N o37 (lf o71) O)) (N o26 (N o39 (lf o8) O) (N o51 (lf o204) O)))) (N o5 (N o9 (N o16 (N o8 (lf o58) O) (N o45 (lf o7) O)) (N o24 (N o37 (lf o65) O) (N o49 (lf o78) O))) (N (o13 P) (N (o20 P) (N o34 (lf (o62 P)) O) (N o47 (lf o73) O)) (N o56 (N o6 (lf o7) O) (lf o7))))) (N (o2 P) (N o4 (N o8 (N o15 (N o7 (lf o57) O) (N o43 (lf o69) O)) (N o23 (N o6 (lf o64) O) (N o37 (lf o77) O))) (N o12 (N (o19 P) (N o33 (lf o61) O) (N o46 (lf o72) O)) (N o7 (N o41 (lf o66) O) (N o52 (lf o205) O)))) (N o6 (N o10 (N o17 (N o32 (lf o59) O) (N o6 (lf (o70 P)) O)) (N o25 (N o38 (lf o7) O) (N o50 (lf o6) O))) (N o14 (N o21 (N o35 (lf o7) O) (N o48 (lf o74) O)) (N o28 (N o37 (lf o67) O) (lf o53))))))
noncomputable def x5 (w:World)(os:OsState):SharedT:=⟨xL w.params,93,{},Array.mk [],⟨0,0,0,0⟩,791,os⟩
noncomputable def o206:Obj:=⟨(.ref 83),(some 90),(.dict #[ki 0 791 120 790,ki 1 793 120 790,ki 2 795 120 790,ki 3 797 120 790,ki 4 799 120 790,ki 5 801 120 790,ki 6 803 120 790,ki 7 805 120 790,ki 8 807 120 790,ki 9 809 120 790,ki 10 811 120 790,ki 11 813 120 790,ki 12 815 120 790,ki 13 817 120 790,ki 14 819 120 790,ki 15 821 120 790,ki 16 823 120 790,ki 17 825 120 790,ki 18 827 120 790,ki 19 829 120 790,ki 20 831 120 790,ki 21 833 120 790,ki 22 835 120 790,ki 23 837 120 790,ki 24 839 120 790] 25),#[]⟩
noncomputable def o207:Obj:=⟨(.type "range_iterator"),none,(.fields #[(.int 25 0),(.int 103 0),(.int 1 0)]),#[]⟩
noncomputable def xW (P:Params):BT:=(N (o0 P) (N (o1 P) (N (o55 P) (N o7 (N o7 (N o29 (lf o54) O) (N o42 (lf o68) O)) (N o22 (N o36 (lf o63) O) (N o6 (lf o75) O))) (N (o27 P) (N o18 (N o7 (lf o60) O) (N o37 (lf o71) O)) (N o26 (N o39 (lf o8) O) (N o51 (lf o206) O)))) (N o5 (N o9 (N o16 (N o8 (lf o58) O) (N o45 (lf o7) O)) (N o24 (N o37 (lf o65) O) (N o49 (lf o78) O))) (N (o13 P) (N (o20 P) (N o34 (lf (o62 P)) O) (N o47 (lf o73) O)) (N o56 (N o6 (lf o7) O) (lf o7))))) (N (o2 P) (N o4 (N o8 (N o15 (N o7 (lf o57) O) (N o43 (lf o69) O)) (N o23 (N o6 (lf o64) O) (N o37 (lf o77) O))) (N o12 (N (o19 P) (N o33 (lf o61) O) (N o46 (lf o72) O)) (N o7 (N o41 (lf o66) O) (N o52 (lf o207) O)))) (N o6 (N o10 (N o17 (N o32 (lf o59) O) (N o6 (lf (o70 P)) O)) (N o25 (N o38 (lf o7) O) (N o50 (lf o6) O))) (N o14 (N o21 (N o35 (lf o7) O) (N o48 (lf o74) O)) (N o28 (N o37 (lf o67) O) (lf o53))))))
noncomputable def yg (w:World)(os:OsState):SharedT:=⟨xW w.params,93,{},Array.mk [],⟨0,0,0,0⟩,841,os⟩
noncomputable def o208:Obj:=⟨(.ref 83),(some 90),(.dict #[ki 0 791 120 790,ki 1 793 120 790,ki 2 795 120 790,ki 3 797 120 790,ki 4 799 120 790,ki 5 801 120 790,ki 6 803 120 790,ki 7 805 120 790,ki 8 807 120 790,ki 9 809 120 790,ki 10 811 120 790,ki 11 813 120 790,ki 12 815 120 790,ki 13 817 120 790,ki 14 819 120 790,ki 15 821 120 790,ki 16 823 120 790,ki 17 825 120 790,ki 18 827 120 790,ki 19 829 120 790,ki 20 831 120 790,ki 21 833 120 790,ki 22 835 120 790,ki 23 837 120 790,ki 24 839 120 790,ki 25 841 120 790,ki 26 843 120 790,ki 27 845 120 790,ki 28 847 120 790,ki 29 849 120 790,ki 30 851 120 790,ki 31 853 120 790,ki 32 855 120 790,ki 33 857 120 790,ki 34 859 120 790,ki 35 861 120 790,ki 36 863 120 790,ki 37 865 120 790,ki 38 867 120 790,ki 39 869 120 790,ki 40 871 120 790,ki 41 873 120 790,ki 42 875 120 790,ki 43 877 120 790,ki 44 879 120 790,ki 45 881 120 790,ki 46 883 120 790,ki 47 885 120 790,ki 48 887 120 790,ki 49 889 120 790] 50),#[]⟩
noncomputable def o209:Obj:=⟨(.type "range_iterator"),none,(.fields #[(.int 50 0),(.int 78 0),(.int 1 0)]),#[]⟩
noncomputable def yk (P:Params):BT:=(N (o0 P) (N (o1 P) (N (o55 P) (N o7 (N o7 (N o29 (lf o54) O) (N o42 (lf o68) O)) (N o22 (N o36 (lf o63) O) (N o6 (lf o75) O))) (N (o27 P) (N o18 (N o7 (lf o60) O) (N o37 (lf o71) O)) (N o26 (N o39 (lf o8) O) (N o51 (lf o208) O)))) (N o5 (N o9 (N o16 (N o8 (lf o58) O) (N o45 (lf o7) O)) (N o24 (N o37 (lf o65) O) (N o49 (lf o78) O))) (N (o13 P) (N (o20 P) (N o34 (lf (o62 P)) O) (N o47 (lf o73) O)) (N o56 (N o6 (lf o7) O) (lf o7))))) (N (o2 P) (N o4 (N o8 (N o15 (N o7 (lf o57) O) (N o43 (lf o69) O)) (N o23 (N o6 (lf o64) O) (N o37 (lf o77) O))) (N o12 (N (o19 P) (N o33 (lf o61) O) (N o46 (lf o72) O)) (N o7 (N o41 (lf o66) O) (N o52 (lf o209) O)))) (N o6 (N o10 (N o17 (N o32 (lf o59) O) (N o6 (lf (o70 P)) O)) (N o25 (N o38 (lf o7) O) (N o50 (lf o6) O))) (N o14 (N o21 (N o35 (lf o7) O) (N o48 (lf o74) O)) (N o28 (N o37 (lf o67) O) (lf o53))))))
noncomputable def y7 (w:World)(os:OsState):SharedT:=⟨yk w.params,93,{},Array.mk [],⟨0,0,0,0⟩,891,os⟩
noncomputable def o210:Obj:=⟨(.ref 83),(some 90),(.dict #[ki 0 791 120 790,ki 1 793 120 790,ki 2 795 120 790,ki 3 797 120 790,ki 4 799 120 790,ki 5 801 120 790,ki 6 803 120 790,ki 7 805 120 790,ki 8 807 120 790,ki 9 809 120 790,ki 10 811 120 790,ki 11 813 120 790,ki 12 815 120 790,ki 13 817 120 790,ki 14 819 120 790,ki 15 821 120 790,ki 16 823 120 790,ki 17 825 120 790,ki 18 827 120 790,ki 19 829 120 790,ki 20 831 120 790,ki 21 833 120 790,ki 22 835 120 790,ki 23 837 120 790,ki 24 839 120 790,ki 25 841 120 790,ki 26 843 120 790,ki 27 845 120 790,ki 28 847 120 790,ki 29 849 120 790,ki 30 851 120 790,ki 31 853 120 790,ki 32 855 120 790,ki 33 857 120 790,ki 34 859 120 790,ki 35 861 120 790,ki 36 863 120 790,ki 37 865 120 790,ki 38 867 120 790,ki 39 869 120 790,ki 40 871 120 790,ki 41 873 120 790,ki 42 875 120 790,ki 43 877 120 790,ki 44 879 120 790,ki 45 881 120 790,ki 46 883 120 790,ki 47 885 120 790,ki 48 887 120 790,ki 49 889 120 790,ki 50 891 120 790,ki 51 893 120 790,ki 52 895 120 790,ki 53 897 120 790,ki 54 899 120 790,ki 55 901 120 790,ki 56 903 120 790,ki 57 905 120 790,ki 58 907 120 790,ki 59 909 120 790,ki 60 911 120 790,ki 61 913 120 790,ki 62 915 120 790,ki 63 917 120 790,ki 64 919 120 790,ki 65 921 120 790,ki 66 923 120 790,ki 67 925 120 790,ki 68 927 120 790,ki 69 929 120 790,ki 70 931 120 790,ki 71 933 120 790,ki 72 935 120 790,ki 73 937 120 790,ki 74 939 120 790] 75),#[]⟩
noncomputable def o211:Obj:=⟨(.type "range_iterator"),none,(.fields #[(.int 75 0),(.int 53 0),(.int 1 0)]),#[]⟩
noncomputable def yX (P:Params):BT:=(N (o0 P) (N (o1 P) (N (o55 P) (N o7 (N o7 (N o29 (lf o54) O) (N o42 (lf o68) O)) (N o22 (N o36 (lf o63) O) (N o6 (lf o75) O))) (N (o27 P) (N o18 (N o7 (lf o60) O) (N o37 (lf o71) O)) (N o26 (N o39 (lf o8) O) (N o51 (lf o210) O)))) (N o5 (N o9 (N o16 (N o8 (lf o58) O) (N o45 (lf o7) O)) (N o24 (N o37 (lf o65) O) (N o49 (lf o78) O))) (N (o13 P) (N (o20 P) (N o34 (lf (o62 P)) O) (N o47 (lf o73) O)) (N o56 (N o6 (lf o7) O) (lf o7))))) (N (o2 P) (N o4 (N o8 (N o15 (N o7 (lf o57) O) (N o43 (lf o69) O)) (N o23 (N o6 (lf o64) O) (N o37 (lf o77) O))) (N o12 (N (o19 P) (N o33 (lf o61) O) (N o46 (lf o72) O)) (N o7 (N o41 (lf o66) O) (N o52 (lf o211) O)))) (N o6 (N o10 (N o17 (N o32 (lf o59) O) (N o6 (lf (o70 P)) O)) (N o25 (N o38 (lf o7) O) (N o50 (lf o6) O))) (N o14 (N o21 (N o35 (lf o7) O) (N o48 (lf o74) O)) (N o28 (N o37 (lf o67) O) (lf o53))))))
noncomputable def yl (w:World)(os:OsState):SharedT:=⟨yX w.params,93,{},Array.mk [],⟨0,0,0,0⟩,941,os⟩
noncomputable def o212:Obj:=⟨(.ref 83),(some 90),(.dict #[ki 0 791 120 790,ki 1 793 120 790,ki 2 795 120 790,ki 3 797 120 790,ki 4 799 120 790,ki 5 801 120 790,ki 6 803 120 790,ki 7 805 120 790,ki 8 807 120 790,ki 9 809 120 790,ki 10 811 120 790,ki 11 813 120 790,ki 12 815 120 790,ki 13 817 120 790,ki 14 819 120 790,ki 15 821 120 790,ki 16 823 120 790,ki 17 825 120 790,ki 18 827 120 790,ki 19 829 120 790,ki 20 831 120 790,ki 21 833 120 790,ki 22 835 120 790,ki 23 837 120 790,ki 24 839 120 790,ki 25 841 120 790,ki 26 843 120 790,ki 27 845 120 790,ki 28 847 120 790,ki 29 849 120 790,ki 30 851 120 790,ki 31 853 120 790,ki 32 855 120 790,ki 33 857 120 790,ki 34 859 120 790,ki 35 861 120 790,ki 36 863 120 790,ki 37 865 120 790,ki 38 867 120 790,ki 39 869 120 790,ki 40 871 120 790,ki 41 873 120 790,ki 42 875 120 790,ki 43 877 120 790,ki 44 879 120 790,ki 45 881 120 790,ki 46 883 120 790,ki 47 885 120 790,ki 48 887 120 790,ki 49 889 120 790,ki 50 891 120 790,ki 51 893 120 790,ki 52 895 120 790,ki 53 897 120 790,ki 54 899 120 790,ki 55 901 120 790,ki 56 903 120 790,ki 57 905 120 790,ki 58 907 120 790,ki 59 909 120 790,ki 60 911 120 790,ki 61 913 120 790,ki 62 915 120 790,ki 63 917 120 790,ki 64 919 120 790,ki 65 921 120 790,ki 66 923 120 790,ki 67 925 120 790,ki 68 927 120 790,ki 69 929 120 790,ki 70 931 120 790,ki 71 933 120 790,ki 72 935 120 790,ki 73 937 120 790,ki 74 939 120 790,ki 75 941 120 790,ki 76 943 120 790,ki 77 945 120 790,ki 78 947 120 790,ki 79 949 120 790,ki 80 951 120 790,ki 81 953 120 790,ki 82 955 120 790,ki 83 957 120 790,ki 84 959 120 790,ki 85 961 120 790,ki 86 963 120 790,ki 87 965 120 790,ki 88 967 120 790,ki 89 969 120 790,ki 90 971 120 790,ki 91 973 120 790,ki 92 975 120 790,ki 93 977 120 790,ki 94 979 120 790,ki 95 981 120 790,ki 96 983 120 790,ki 97 985 120 790,ki 98 987 120 790,ki 99 989 120 790] 100),#[]⟩
noncomputable def o213:Obj:=⟨(.type "range_iterator"),none,(.fields #[(.int 100 0),(.int 28 0),(.int 1 0)]),#[]⟩
noncomputable def xG (P:Params):BT:=(N (o0 P) (N (o1 P) (N (o55 P) (N o7 (N o7 (N o29 (lf o54) O) (N o42 (lf o68) O)) (N o22 (N o36 (lf o63) O) (N o6 (lf o75) O))) (N (o27 P) (N o18 (N o7 (lf o60) O) (N o37 (lf o71) O)) (N o26 (N o39 (lf o8) O) (N o51 (lf o212) O)))) (N o5 (N o9 (N o16 (N o8 (lf o58) O) (N o45 (lf o7) O)) (N o24 (N o37 (lf o65) O) (N o49 (lf o78) O))) (N (o13 P) (N (o20 P) (N o34 (lf (o62 P)) O) (N o47 (lf o73) O)) (N o56 (N o6 (lf o7) O) (lf o7))))) (N (o2 P) (N o4 (N o8 (N o15 (N o7 (lf o57) O) (N o43 (lf o69) O)) (N o23 (N o6 (lf o64) O) (N o37 (lf o77) O))) (N o12 (N (o19 P) (N o33 (lf o61) O) (N o46 (lf o72) O)) (N o7 (N o41 (lf o66) O) (N o52 (lf o213) O)))) (N o6 (N o10 (N o17 (N o32 (lf o59) O) (N o6 (lf (o70 P)) O)) (N o25 (N o38 (lf o7) O) (N o50 (lf o6) O))) (N o14 (N o21 (N o35 (lf o7) O) (N o48 (lf o74) O)) (N o28 (N o37 (lf o67) O) (lf o53))))))
noncomputable def xC (w:World)(os:OsState):SharedT:=⟨xG w.params,93,{},Array.mk [],⟨0,0,0,0⟩,991,os⟩
noncomputable def hSf (P:Params):Heap:=⟨Array.mk [o0 P,o1 P,o2 P,o191 P,o4,o5,o6,o7,o8,o9,o10,o27 P,o12,o13 P,o14,o7,o15,o16,o17,o18,o19 P,o20 P,o21,o22,o23,o24,o25,o26,o7,o192,o28,o29,o7,o8,o32,o7,o33,o34,o35,o36,o6,o37,o38,o39,o41,o6,o37,o42,o43,o45,o6,o37,o46,o47,o48,o6,o37,o49,o50,o51,o52,o7,o53,o54,o57,o58,o59,o60,o61,o62 P,o7,o63,o64,o65,o7,o8,o66,o7,o67,o68,o69,o7,o70 P,o71,o72,o73,o74,o75,o77,o78,o6,o108,o80,o7,o81,o84,o7,o8,o85,o86 P,o87,o88,o89,o90,o91,o92,o7,o93,o7,o94,o84,o7,o8,o97,o98 P,o99,o100,o101,o102,o103,o104,o7,o105,o7,o106,o109,o7,o8,o110,o111 P,o112,o113,o114,o115,o116,o117,o118,o119,o7,o120,o7,o121,o7,o61,o124 P,o7,o125,o126,o127,o7,o8,o128,o7,o129,o130,o131,o7,o8,o132,o7,o133,o134,o135,o7,o8,o136,o7,o137,o138,o139,o7,o8,o140,o7,o141,o142,o143,o7,o8,o144,o7,o145,o146,o147,o7,o8,o148,o7,o149,o150,o151,o7,o8,o152,o7,o153,o154,o155,o7,o8,o156,o7,o157,o158,o159,o7,o8,o160,o7,o161,o162,o163,o7,o8,o164,o7,o165,o166,o167,o7,o8,o168,o7,o169,o170,o171,o7,o8,o172,o7,o173,o174,o175,o7,o8,o176,o7,o177,o178,o179,o7,o8,o180,o7,o181,o182,o183,o184,o185 P,o186,o187,o188,o189,o190,o7,o8,o193,o7,o194,o195,o196,o7,o8,o197,o198,o199,o7,o8,o200,o7,o201,o202,o203],{}⟩
noncomputable def Sf (w:World)(os:OsState):Shared:=⟨hSf w.params,Array.mk [.finished,.finished,.finished],⟨0,0,0,0⟩,1340,os⟩
noncomputable def bE:List Stmt:=behindTheImports pw
noncomputable def env:Env:={scope:=pw.main.scope,locals:=mainNs,globals:=mainNs,cells:=[],code:=(.ref 30),frame:=some 31}
noncomputable def cE:Code:=.body bE env
noncomputable def B:List Frame:=[topFrame ⟨0,0,0,0⟩]
noncomputable def an:Option Value:=(some (.ref 6))
noncomputable def Z (w:World)(os:OsState):Shared:=⟨hSz w.params,Array.mk [],⟨0,0,0,0⟩,276,os⟩
theorem pre (w:World)(os:OsState):topGo treeTable pw w 28 an 12 (Z w os) (topStub pw)=some (Sa w os,⟨denote treeTable cE,cE,⟨0,0,0,0⟩,B⟩):=by
 rewrite[tH,tF,tD];kernel_rfl
theorem blk (w:World)(os:OsState):segRun treeTable pw w 28 an 1 1 (Sa w os) (blockOf bE env cE ⟨0,0,0,0⟩ B)=some (.next,(S0 w os).abs,cE,⟨0,0,0,0⟩):=by
 rewrite[tG,tF];kernel_rfl
noncomputable def st1:List Stmt:=[aB pw.main.body 1,aB pw.main.body 2,aB pw.main.body 3]
def Q1 (w:World):Prop:=∀os,segRunT treeTable pw w 28 an 1 126 (S0 w os) (piecesOf st1 env cE ⟨0,0,0,0⟩ B)=some (.next,S1 w os,cE,⟨6,0,6,10⟩)
theorem q1 (w:World):Q1 (w):=by
 unfold Q1;rewrite[tA,tF];intro os;kernel_rfl
theorem p1 (w:World):Q1 w:=q1 w
theorem r1 (w:World)(os:OsState):segRun treeTable pw w 28 an 1 126 (S0 w os).abs (piecesOf st1 env cE ⟨0,0,0,0⟩ B)=some (.next,(S1 w os).abs,cE,⟨6,0,6,10⟩):=segRun_of (p1 w os)
noncomputable def st2:List Stmt:=[aB pw.main.body 4]
def Q2 (w:World):Prop:=∀os,segRunT treeTable pw w 28 an 1 319 (S1 w os) (piecesOf st2 env cE ⟨6,0,6,10⟩ B)=some (.next,S2 w os,cE,⟨7,0,7,10⟩)
theorem q2 (w:World):Q2 (w):=by
 unfold Q2;rewrite[tA,tF];intro os;kernel_rfl
theorem p2 (w:World):Q2 w:=q2 w
theorem r2 (w:World)(os:OsState):segRun treeTable pw w 28 an 1 319 (S1 w os).abs (piecesOf st2 env cE ⟨6,0,6,10⟩ B)=some (.next,(S2 w os).abs,cE,⟨7,0,7,10⟩):=segRun_of (p2 w os)
noncomputable def st3:List Stmt:=[aB pw.main.body 5,aB pw.main.body 6,aB pw.main.body 7,aB pw.main.body 8]
def Q3 (w:World):Prop:=∀os,segRunT treeTable pw w 28 an 1 392 (S2 w os) (piecesOf st3 env cE ⟨7,0,7,10⟩ B)=some (.next,S3 w os,cE,⟨11,0,11,7⟩)
theorem q3f (w:World):Q3 ((World.withFollow w "special-get-raises" false)):=by
 unfold Q3;rewrite[tA,tF];intro os;kernel_rfl
theorem q3t (w:World):Q3 ((World.withFollow w "special-get-raises" true)):=by
 unfold Q3;rewrite[tA,tF];intro os;kernel_rfl
theorem p3 (w:World):Q3 w:=(byRow2 "special-get-raises" (P:=fun w=>Q3 (w)) q3f q3t) w
theorem r3 (w:World)(os:OsState):segRun treeTable pw w 28 an 1 392 (S2 w os).abs (piecesOf st3 env cE ⟨7,0,7,10⟩ B)=some (.next,(S3 w os).abs,cE,⟨11,0,11,7⟩):=segRun_of (p3 w os)
noncomputable def st4:List Stmt:=[aB pw.main.body 9,aB pw.main.body 10,aB pw.main.body 11,aB pw.main.body 12]
def Q4 (w:World):Prop:=∀os,segRunT treeTable pw w 28 an 1 307 (S3 w os) (piecesOf st4 env cE ⟨11,0,11,7⟩ B)=some (.next,S4 w os,cE,⟨15,0,18,18⟩)
theorem q4 (w:World):Q4 (w):=by
 unfold Q4;rewrite[tA,tF];intro os;kernel_rfl
theorem p4 (w:World):Q4 w:=q4 w
theorem r4 (w:World)(os:OsState):segRun treeTable pw w 28 an 1 307 (S3 w os).abs (piecesOf st4 env cE ⟨11,0,11,7⟩ B)=some (.next,(S4 w os).abs,cE,⟨15,0,18,18⟩):=segRun_of (p4 w os)
noncomputable def st5:List Stmt:=[aB pw.main.body 13]
noncomputable def th5 (w:World)(os:OsState):Thread:=match PySem.W.Fast.tw10295753902157049106 PySem.W.Fast.tw14364793385576792824 pw w 28 an 1 113 (S4 w os) (piecesOf st5 env cE ⟨15,0,18,18⟩ B) with
 |some r=>r.2
 |none=>⟨doneF .next,cE,⟨15,0,18,18⟩,B⟩
def oP (w:World):Prop:=∀os,segGoT treeTable pw w 28 an 1 113 (S4 w os) (piecesOf st5 env cE ⟨15,0,18,18⟩ B)=some (x5 w os,th5 w os)
theorem yL (w:World):oP ((World.withFollow w "special-get-raises" false)):=by
 unfold oP;rewrite[tC,tF];intro os;kernel_rfl
theorem xF (w:World):oP ((World.withFollow w "special-get-raises" true)):=by
 unfold oP;rewrite[tC,tF];intro os;kernel_rfl
theorem zE (w:World):oP w:=(byRow2 "special-get-raises" (P:=fun w=>oP (w)) yL xF) w
def pb (w:World):Prop:=∀os,segGoT treeTable pw w 28 an 1 1000 (x5 w os) (th5 w os)=some (yg w os,th5 w os)
theorem y5 (w:World):pb ((World.withFollow w "special-get-raises" false)):=by
 unfold pb;rewrite[tC,tF];intro os;kernel_rfl
theorem x7 (w:World):pb ((World.withFollow w "special-get-raises" true)):=by
 unfold pb;rewrite[tC,tF];intro os;kernel_rfl
theorem zC (w:World):pb w:=(byRow2 "special-get-raises" (P:=fun w=>pb (w)) y5 x7) w
def pf (w:World):Prop:=∀os,segGoT treeTable pw w 28 an 1 1000 (yg w os) (th5 w os)=some (y7 w os,th5 w os)
theorem xJ (w:World):pf ((World.withFollow w "special-get-raises" false)):=by
 unfold pf;rewrite[tC,tF];intro os;kernel_rfl
theorem xU (w:World):pf ((World.withFollow w "special-get-raises" true)):=by
 unfold pf;rewrite[tC,tF];intro os;kernel_rfl
theorem zz (w:World):pf w:=(byRow2 "special-get-raises" (P:=fun w=>pf (w)) xJ xU) w
def pE (w:World):Prop:=∀os,segGoT treeTable pw w 28 an 1 1000 (y7 w os) (th5 w os)=some (yl w os,th5 w os)
theorem xR (w:World):pE ((World.withFollow w "special-get-raises" false)):=by
 unfold pE;rewrite[tC,tF];intro os;kernel_rfl
theorem yd (w:World):pE ((World.withFollow w "special-get-raises" true)):=by
 unfold pE;rewrite[tC,tF];intro os;kernel_rfl
theorem zN (w:World):pE w:=(byRow2 "special-get-raises" (P:=fun w=>pE (w)) xR yd) w
def oX (w:World):Prop:=∀os,segGoT treeTable pw w 28 an 1 1000 (yl w os) (th5 w os)=some (xC w os,th5 w os)
theorem xP (w:World):oX ((World.withFollow w "special-get-raises" false)):=by
 unfold oX;rewrite[tC,tF];intro os;kernel_rfl
theorem xS (w:World):oX ((World.withFollow w "special-get-raises" true)):=by
 unfold oX;rewrite[tC,tF];intro os;kernel_rfl
theorem y9 (w:World):oX w:=(byRow2 "special-get-raises" (P:=fun w=>oX (w)) xP xS) w
def Q5 (w:World):Prop:=∀os,segRunT treeTable pw w 28 an 1 1143 (xC w os) (th5 w os)=some (.next,S5 w os,cE,⟨19,0,19,5⟩)
theorem q5f (w:World):Q5 ((World.withFollow w "special-get-raises" false)):=by
 unfold Q5;rewrite[tA,tF];intro os;kernel_rfl
theorem q5t (w:World):Q5 ((World.withFollow w "special-get-raises" true)):=by
 unfold Q5;rewrite[tA,tF];intro os;kernel_rfl
theorem p5 (w:World):Q5 w:=(byRow2 "special-get-raises" (P:=fun w=>Q5 (w)) q5f q5t) w
theorem r5 (w:World)(os:OsState):segRun treeTable pw w 28 an 1 (113+(1000+(1000+(1000+(1000+1143))))) (S4 w os).abs (piecesOf st5 env cE ⟨15,0,18,18⟩ B)=some (.next,(S5 w os).abs,cE,⟨19,0,19,5⟩):=seg_go (segGo_of (zE w os)) (seg_go (segGo_of (zC w os)) (seg_go (segGo_of (zz w os)) (seg_go (segGo_of (zN w os)) (seg_go (segGo_of (y9 w os)) (segRun_of (p5 w os))))))
noncomputable def st6:List Stmt:=[aB pw.main.body 14]
def Q6 (w:World):Prop:=∀os,segRunT treeTable pw w 28 an 1 367 (S5 w os) (piecesOf st6 env cE ⟨19,0,19,5⟩ B)=some (.next,S6 w os,cE,⟨20,0,20,49⟩)
theorem zb (w:World):Q6 ((World.withFollow (World.withFollow w "special-get-raises" false) "comprehension-iter-twice" false)):=by
 unfold Q6;rewrite[tA,tF];intro os;kernel_rfl
theorem zo (w:World):Q6 ((World.withFollow (World.withFollow w "special-get-raises" true) "comprehension-iter-twice" false)):=by
 unfold Q6;rewrite[tA,tF];intro os;kernel_rfl
theorem zf (w:World):Q6 ((World.withFollow (World.withFollow w "special-get-raises" false) "comprehension-iter-twice" true)):=by
 unfold Q6;rewrite[tA,tF];intro os;kernel_rfl
theorem y8 (w:World):Q6 ((World.withFollow (World.withFollow w "special-get-raises" true) "comprehension-iter-twice" true)):=by
 unfold Q6;rewrite[tA,tF];intro os;kernel_rfl
theorem p6 (w:World):Q6 w:=(byRow2 "comprehension-iter-twice" (P:=fun w=>Q6 (w)) (byRow2 "special-get-raises" (P:=fun w=>Q6 ((World.withFollow w "comprehension-iter-twice" false))) zb zo) (byRow2 "special-get-raises" (P:=fun w=>Q6 ((World.withFollow w "comprehension-iter-twice" true))) zf y8)) w
theorem r6 (w:World)(os:OsState):segRun treeTable pw w 28 an 1 367 (S5 w os).abs (piecesOf st6 env cE ⟨19,0,19,5⟩ B)=some (.next,(S6 w os).abs,cE,⟨20,0,20,49⟩):=segRun_of (p6 w os)
noncomputable def st7:List Stmt:=[aB pw.main.body 15]
def Q7 (w:World):Prop:=∀os,segRunT treeTable pw w 28 an 1 367 (S6 w os) (piecesOf st7 env cE ⟨20,0,20,49⟩ B)=some (.next,S7 w os,cE,⟨21,0,21,49⟩)
theorem zx (w:World):Q7 ((World.withFollow (World.withFollow w "special-get-raises" false) "comprehension-iter-twice" false)):=by
 unfold Q7;rewrite[tA,tF];intro os;kernel_rfl
theorem zQ (w:World):Q7 ((World.withFollow (World.withFollow w "special-get-raises" true) "comprehension-iter-twice" false)):=by
 unfold Q7;rewrite[tA,tF];intro os;kernel_rfl
theorem zg (w:World):Q7 ((World.withFollow (World.withFollow w "special-get-raises" false) "comprehension-iter-twice" true)):=by
 unfold Q7;rewrite[tA,tF];intro os;kernel_rfl
theorem zF (w:World):Q7 ((World.withFollow (World.withFollow w "special-get-raises" true) "comprehension-iter-twice" true)):=by
 unfold Q7;rewrite[tA,tF];intro os;kernel_rfl
theorem p7 (w:World):Q7 w:=(byRow2 "comprehension-iter-twice" (P:=fun w=>Q7 (w)) (byRow2 "special-get-raises" (P:=fun w=>Q7 ((World.withFollow w "comprehension-iter-twice" false))) zx zQ) (byRow2 "special-get-raises" (P:=fun w=>Q7 ((World.withFollow w "comprehension-iter-twice" true))) zg zF)) w
theorem r7 (w:World)(os:OsState):segRun treeTable pw w 28 an 1 367 (S6 w os).abs (piecesOf st7 env cE ⟨20,0,20,49⟩ B)=some (.next,(S7 w os).abs,cE,⟨21,0,21,49⟩):=segRun_of (p7 w os)
noncomputable def st8:List Stmt:=[aB pw.main.body 16]
def Q8 (w:World):Prop:=∀os,segRunT treeTable pw w 28 an 1 522 (S7 w os) (piecesOf st8 env cE ⟨21,0,21,49⟩ B)=some (.next,S8 w os,cE,⟨22,0,22,52⟩)
theorem zc (w:World):Q8 ((World.withFollow (World.withFollow w "special-get-raises" false) "comprehension-iter-twice" false)):=by
 unfold Q8;rewrite[tA,tF];intro os;kernel_rfl
theorem zR (w:World):Q8 ((World.withFollow (World.withFollow w "special-get-raises" true) "comprehension-iter-twice" false)):=by
 unfold Q8;rewrite[tA,tF];intro os;kernel_rfl
theorem zi (w:World):Q8 ((World.withFollow (World.withFollow w "special-get-raises" false) "comprehension-iter-twice" true)):=by
 unfold Q8;rewrite[tA,tF];intro os;kernel_rfl
theorem zu (w:World):Q8 ((World.withFollow (World.withFollow w "special-get-raises" true) "comprehension-iter-twice" true)):=by
 unfold Q8;rewrite[tA,tF];intro os;kernel_rfl
theorem p8 (w:World):Q8 w:=(byRow2 "comprehension-iter-twice" (P:=fun w=>Q8 (w)) (byRow2 "special-get-raises" (P:=fun w=>Q8 ((World.withFollow w "comprehension-iter-twice" false))) zc zR) (byRow2 "special-get-raises" (P:=fun w=>Q8 ((World.withFollow w "comprehension-iter-twice" true))) zi zu)) w
theorem r8 (w:World)(os:OsState):segRun treeTable pw w 28 an 1 522 (S7 w os).abs (piecesOf st8 env cE ⟨21,0,21,49⟩ B)=some (.next,(S8 w os).abs,cE,⟨22,0,22,52⟩):=segRun_of (p8 w os)
noncomputable def st9:List Stmt:=[aB pw.main.body 17]
def Q9 (w:World):Prop:=∀os,segRunT treeTable pw w 28 an 1 665 (S8 w os) (piecesOf st9 env cE ⟨22,0,22,52⟩ B)=some (.next,S9 w os,cE,⟨23,0,221,16⟩)
theorem q9 (w:World):Q9 (w):=by
 unfold Q9;rewrite[tA,tF];intro os;kernel_rfl
theorem p9 (w:World):Q9 w:=q9 w
theorem r9 (w:World)(os:OsState):segRun treeTable pw w 28 an 1 665 (S8 w os).abs (piecesOf st9 env cE ⟨22,0,22,52⟩ B)=some (.next,(S9 w os).abs,cE,⟨23,0,221,16⟩):=segRun_of (p9 w os)
noncomputable def fe:List Stmt:=[aB pw.main.body 18,aB pw.main.body 19,aB pw.main.body 20,aB pw.main.body 21]
def Q10 (w:World):Prop:=∀os,segRunT treeTable pw w 28 an 1 108 (S9 w os) (piecesOf fe env cE ⟨23,0,221,16⟩ B)=some (.next,S10 w os,cE,⟨231,0,256,46⟩)
theorem q10 (w:World):Q10 (w):=by
 unfold Q10;rewrite[tA,tF];intro os;kernel_rfl
theorem p10 (w:World):Q10 w:=q10 w
theorem r10 (w:World)(os:OsState):segRun treeTable pw w 28 an 1 108 (S9 w os).abs (piecesOf fe env cE ⟨23,0,221,16⟩ B)=some (.next,(S10 w os).abs,cE,⟨231,0,256,46⟩):=segRun_of (p10 w os)
theorem fin (w:World)(os:OsState):topRun treeTable pw w 28 an 2 (S10 w os).abs (restOf [] env cE ⟨231,0,256,46⟩ B)=some (Sf w os):=by
 rewrite[tE,tF];kernel_rfl
theorem k10 (w:World)(os:OsState):topRun treeTable pw w 28 an (108+2) (S9 w os).abs (restOf (fe++[]) env cE ⟨23,0,221,16⟩ B)=some (Sf w os):=piece_app (r10 w os) (fin w os)
theorem k9 (w:World)(os:OsState):topRun treeTable pw w 28 an (665+(108+2)) (S8 w os).abs (restOf (st9++(fe++[])) env cE ⟨22,0,22,52⟩ B)=some (Sf w os):=piece_app (r9 w os) (k10 w os)
theorem k8 (w:World)(os:OsState):topRun treeTable pw w 28 an (522+(665+(108+2))) (S7 w os).abs (restOf (st8++(st9++(fe++[]))) env cE ⟨21,0,21,49⟩ B)=some (Sf w os):=piece_app (r8 w os) (k9 w os)
theorem k7 (w:World)(os:OsState):topRun treeTable pw w 28 an (367+(522+(665+(108+2)))) (S6 w os).abs (restOf (st7++(st8++(st9++(fe++[])))) env cE ⟨20,0,20,49⟩ B)=some (Sf w os):=piece_app (r7 w os) (k8 w os)
theorem k6 (w:World)(os:OsState):topRun treeTable pw w 28 an (367+(367+(522+(665+(108+2))))) (S5 w os).abs (restOf (st6++(st7++(st8++(st9++(fe++[]))))) env cE ⟨19,0,19,5⟩ B)=some (Sf w os):=piece_app (r6 w os) (k7 w os)
theorem k5 (w:World)(os:OsState):topRun treeTable pw w 28 an ((113+(1000+(1000+(1000+(1000+1143)))))+(367+(367+(522+(665+(108+2)))))) (S4 w os).abs (restOf (st5++(st6++(st7++(st8++(st9++(fe++[])))))) env cE ⟨15,0,18,18⟩ B)=some (Sf w os):=piece_app (r5 w os) (k6 w os)
theorem k4 (w:World)(os:OsState):topRun treeTable pw w 28 an (307+((113+(1000+(1000+(1000+(1000+1143)))))+(367+(367+(522+(665+(108+2))))))) (S3 w os).abs (restOf (st4++(st5++(st6++(st7++(st8++(st9++(fe++[]))))))) env cE ⟨11,0,11,7⟩ B)=some (Sf w os):=piece_app (r4 w os) (k5 w os)
theorem k3 (w:World)(os:OsState):topRun treeTable pw w 28 an (392+(307+((113+(1000+(1000+(1000+(1000+1143)))))+(367+(367+(522+(665+(108+2)))))))) (S2 w os).abs (restOf (st3++(st4++(st5++(st6++(st7++(st8++(st9++(fe++[])))))))) env cE ⟨7,0,7,10⟩ B)=some (Sf w os):=piece_app (r3 w os) (k4 w os)
theorem k2 (w:World)(os:OsState):topRun treeTable pw w 28 an (319+(392+(307+((113+(1000+(1000+(1000+(1000+1143)))))+(367+(367+(522+(665+(108+2))))))))) (S1 w os).abs (restOf (st2++(st3++(st4++(st5++(st6++(st7++(st8++(st9++(fe++[]))))))))) env cE ⟨6,0,6,10⟩ B)=some (Sf w os):=piece_app (r2 w os) (k3 w os)
theorem k1 (w:World)(os:OsState):topRun treeTable pw w 28 an (126+(319+(392+(307+((113+(1000+(1000+(1000+(1000+1143)))))+(367+(367+(522+(665+(108+2)))))))))) (S0 w os).abs (restOf (st1++(st2++(st3++(st4++(st5++(st6++(st7++(st8++(st9++(fe++[])))))))))) env cE ⟨0,0,0,0⟩ B)=some (Sf w os):=piece_app (r1 w os) (k2 w os)
theorem all:(st1++(st2++(st3++(st4++(st5++(st6++(st7++(st8++(st9++(fe++[]))))))))))=bE:=by kernel_rfl
theorem kb (w:World)(os:OsState):topRun treeTable pw w 28 an (1+(126+(319+(392+(307+((113+(1000+(1000+(1000+(1000+1143)))))+(367+(367+(522+(665+(108+2))))))))))) (Sa w os) ⟨denote treeTable cE,cE,⟨0,0,0,0⟩,B⟩=some (Sf w os):=piece_block (b:=bE) (env:=env) (blk w os) (by rw[←all];exact k1 w os)
theorem run (w:World)(os:OsState):topRun treeTable pw w 28 an (12+(1+(126+(319+(392+(307+((113+(1000+(1000+(1000+(1000+1143)))))+(367+(367+(522+(665+(108+2)))))))))))) (Z w os) (topStub pw)=some (Sf w os):=go_top (pre w os) (kb w os)
theorem opn (w:World):importEnds treeTable (opening pw) w 799 (start (opening pw)).1 (start (opening pw)).2=some ⟨hSe w.params,Array.mk [],⟨0,0,0,0⟩,276,(start (opening pw)).1.os⟩:=by
 rewrite[tB,tF];kernel_rfl
theorem yy (w:World):(fun os=>(fenceModules? pw ⟨hSe w.params,Array.mk [],⟨0,0,0,0⟩,276,os⟩).map (fun s=>(s.heap,s.gens,s.drawn,s.toks)))=fun _=>some (hSz w.params,Array.mk [],⟨0,0,0,0⟩,276):=by kernel_rfl
noncomputable def view:Program:={pw with main:={pw.main with body:=[aB pw.main.body 0,aB pw.main.body 1,aB pw.main.body 3,aB pw.main.body 4,aB pw.main.body 5,aB pw.main.body 6,aB pw.main.body 7,aB pw.main.body 8,aB pw.main.body 9,aB pw.main.body 10,aB pw.main.body 11,aB pw.main.body 12,aB pw.main.body 13,aB pw.main.body 17,aB pw.main.body 19,aB pw.main.body 20,aB pw.main.body 21]}}
noncomputable def loose:List PySem.Str:=[Str.ofString "_twin_re_2",Str.ofString "_twin_re_3",Str.ofString "_twin_re_5",Str.ofString "_twin_re_6",Str.ofString "C_NONE",Str.ofString "C_BACKSLASH",Str.ofString "C_STRING_FIRST_LINE",Str.ofString "C_STRING_NEXT_LINES",Str.ofString "C_BRACKET",Str.ofString "_junkre",Str.ofString "_match_stringre",Str.ofString "_closere",Str.ofString "_chew_ordinaryre",Str.ofString "trans"]
noncomputable def lv:List (PySem.Str×WData):=[(Str.ofString "C_NONE",.int 0),(Str.ofString "C_BACKSLASH",.int 1),(Str.ofString "C_STRING_FIRST_LINE",.int 2),(Str.ofString "C_STRING_NEXT_LINES",.int 3),(Str.ofString "C_BRACKET",.int 4)]
noncomputable def K (P:Params):Frag:=[(3,o191 P),(32,o7),(33,o8),(34,o32),(35,o7),(36,o33),(37,o34),(38,o35),(42,o38),(43,o39),(47,o42),(48,o43),(52,o46),(53,o47),(57,o49),(58,o50),(63,o54),(64,o57),(65,o58),(66,o59),(67,o60),(74,o7),(75,o8),(76,o66),(77,o7),(78,o67),(79,o68),(80,o69),(81,o7),(82,o70 P),(83,o71),(84,o72),(85,o73),(90,o6),(91,o108),(149,o7),(150,o8),(151,o128),(152,o7),(153,o129),(154,o130),(155,o131),(156,o7),(157,o8),(158,o132),(159,o7),(160,o133),(161,o134),(162,o135),(163,o7),(164,o8),(165,o136),(166,o7),(167,o137),(168,o138),(169,o139),(170,o7),(171,o8),(172,o140),(173,o7),(174,o141),(175,o142),(176,o143),(177,o7),(178,o8),(179,o144),(180,o7),(181,o145),(182,o146),(183,o147),(184,o7),(185,o8),(186,o148),(187,o7),(188,o149),(189,o150),(190,o151),(191,o7),(192,o8),(193,o152),(194,o7),(195,o153),(196,o154),(197,o155),(198,o7),(199,o8),(200,o156),(201,o7),(202,o157),(203,o158),(204,o159),(205,o7),(206,o8),(207,o160),(208,o7),(209,o161),(210,o162),(211,o163),(212,o7),(213,o8),(214,o164),(215,o7),(216,o165),(217,o166),(218,o167),(219,o7),(220,o8),(221,o168),(222,o7),(223,o169),(224,o170),(225,o171),(226,o7),(227,o8),(228,o172),(229,o7),(230,o173),(231,o174),(232,o175),(233,o7),(234,o8),(235,o176),(236,o7),(237,o177),(238,o178),(239,o179),(240,o7),(241,o8),(242,o180),(243,o7),(244,o181),(245,o182),(246,o183),(247,o184),(248,o185 P),(249,o186),(250,o187),(251,o188),(254,o7),(255,o8),(256,o193),(257,o7),(258,o194),(259,o195),(260,o196),(261,o7),(262,o8),(263,o197),(264,o198),(265,o199),(266,o7),(267,o8),(268,o200),(269,o7),(270,o201),(271,o202),(272,o203)]
noncomputable def as_:List Addr:=[3,32,33,34,35,36,37,38,42,43,47,48,52,53,57,58,63,64,65,66,67,74,75,76,77,78,79,80,81,82,83,84,85,90,91,149,150,151,152,153,154,155,156,157,158,159,160,161,162,163,164,165,166,167,168,169,170,171,172,173,174,175,176,177,178,179,180,181,182,183,184,185,186,187,188,189,190,191,192,193,194,195,196,197,198,199,200,201,202,203,204,205,206,207,208,209,210,211,212,213,214,215,216,217,218,219,220,221,222,223,224,225,226,227,228,229,230,231,232,233,234,235,236,237,238,239,240,241,242,243,244,245,246,247,248,249,250,251,254,255,256,257,258,259,260,261,262,263,264,265,266,267,268,269,270,271,272]
noncomputable def H:Hook:=kHook K as_ (fun _=>by kernel_rfl)
noncomputable def Xt (s:Shared):Bool:=xlAt view lv s&&recOk (RowW.records (OpenRow.toRowW (OpenLaw.row PySem.Challenge.rw_dm0168_05))) s
end Mine.H5
end
section
namespace Mine.H5
open PySem PySem.W PySem.Calls PyProof.Rows
theorem size (w:World):((hSz w.params).isNs mainGlobals&&(Array.mk []:Array GenState).size==0,(hSz w.params).objs.size,(hSz w.params).nsMap mainGlobals "__annotations__")=(true,28,an):=by kernel_rfl
theorem lk1 (w:World)(os:OsState):(staticsOk (importedModules pw.main.body) (hSz w.params) (hSf w.params)&&namesBound pw (hSf w.params)&&gensDone (Sf w os)&&laidKept (hSz w.params) (hSf w.params))=true:=by kernel_rfl
theorem lk3 (w:World)(os:OsState):H.obs (Sf w os)=H.val w:=by kernel_rfl
theorem lk2 (w:World)(os:OsState):openSeen view loose (importedModules pw.main.body) Xt false (Sf w os)=openGood view loose:=by
 unfold openSeen openGood
 refine looks_pair ?_ (looks_pair ?_ (looks_pair ?_ (looks_pair ?_ (looks_pair ?_ (looks_pair ?_ (looks_pair ?_ (looks_pair ?_ ?_)))))))
 all_goals kernel_rfl
theorem hl:LeftO pw view loose Xt H.obs H.val 16964 false:=
 LeftO.of_pieces (H₀:=hSz) (H₁:=hSf) (gs₀:=Array.mk []) (gs₁:=Array.mk [.finished,.finished,.finished]) (d₀:=⟨0,0,0,0⟩) (d₁:=⟨0,0,0,0⟩) (k₀:=276) (k₁:=1340)
  (open_cut opn rfl yy) size run rfl (fun w=>funext fun os=>looks_pair (lk1 w os) (looks_pair (lk2 w os) (lk3 w os)))
end Mine.H5
end
section
namespace Mine.Om
inductive E|n (k:Nat)|v (i:Nat)|a (x y:E)|s (x:E)|m (k:Nat)(x:E)
noncomputable def at':List Nat→Nat→Nat
 | [],_=>0
 |x::_,0=>x
 |_::c,i+1=>at' c i
noncomputable def E.d (c:List Nat):E→Nat
 | .n k=>k
 | .v i=>at' c i
 | .a x y=>x.d c+y.d c
 | .s x=>x.d c+1
 | .m k x=>k*x.d c
noncomputable def ev:List Nat→List Nat→Nat
 |k::p,x::c=>k*x+ev p c
 |_,_=>0
noncomputable def add:List Nat→List Nat→List Nat
 | [],q=>q
 |a::p,[]=>a::p
 |a::p,b::q=>(a+b)::add p q
noncomputable def mul (k:Nat):List Nat→List Nat
 | []=>[]
 |a::p=>k*a::mul k p
noncomputable def vr:Nat→List Nat
 |0=>[1]
 |i+1=>0::vr i
noncomputable def E.f:E→List Nat
 | .n k=>[k]
 | .v i=>0::vr i
 | .a x y=>add x.f y.f
 | .s x=>add x.f [1]
 | .m k x=>mul k x.f
noncomputable def le:List Nat→List Nat→Bool
 | [],_=>true
 |a::p,[]=>Nat.ble a 0&&le p []
 |a::p,b::q=>Nat.ble a b&&le p q
theorem dD:∀c,ev [] c=0
 | []=>rfl
 |_::_=>rfl
theorem lX:∀p q c,ev (add p q) c=ev p c+ev q c
 | [],q,c=>((congrArg (·+ev q c) (dD c)).trans (Nat.zero_add _)).symm
 |a::p,[],c=>(congrArg (ev (a::p) c+·) (dD c)).symm
 |a::p,b::q,[]=>rfl
 |a::p,b::q,x::c=>(congr (congrArg _ (Nat.add_mul a b x)) (lX p q c)).trans (Nat.add_add_add_comm ..)
theorem qi (k:Nat):∀p c,ev (mul k p) c=k*ev p c
 | [],c=>(dD c).trans (congrArg (k*·) (dD c)).symm
 |a::p,[]=>rfl
 |a::p,x::c=>(congr (congrArg _ (Nat.mul_assoc k a x)) (qi k p c)).trans (Nat.mul_add ..).symm
theorem vo:∀i c,ev (vr i) c=at' c i
 |0,[]=>rfl
 |_+1,[]=>rfl
 |0,x::c=>(congr (congrArg _ (Nat.one_mul x)) (dD c)).trans (Nat.add_zero x)
 |i+1,x::c=>(congr (congrArg _ (Nat.zero_mul x)) (vo i c)).trans (Nat.zero_add _)
theorem ru (k:Nat)(c:List Nat):ev [k] (1::c)=k:=(congr (congrArg _ (Nat.mul_one k)) (dD c)).trans (Nat.add_zero k)
theorem E.eq (c:List Nat):∀e:E,ev e.f (1::c)=e.d c
 | .n k=>ru k c
 | .v i=>(vo (i+1) (1::c))
 | .a x y=>(lX ..).trans (congr (congrArg _ (E.eq c x)) (E.eq c y))
 | .s x=>(lX ..).trans (congr (congrArg _ (E.eq c x)) (ru 1 c))
 | .m k x=>(qi ..).trans (congrArg _ (E.eq c x))
theorem rb:∀p q c,le p q=true→ev p c≤ev q c
 | [],q,c,_=>(dD c).symm▸Nat.zero_le _
 |a::p,[],[],_=>Nat.le_refl _
 |a::p,b::q,[],_=>Nat.le_refl _
 |a::p,[],x::c,h=>have h:=(Bool.and_eq_true _ _).mp h;Nat.le_trans (Nat.add_le_add (Nat.mul_le_mul_right x (Nat.le_of_ble_eq_true h.1)) (rb p [] c h.2)) (Nat.le_of_eq ((congr (congrArg _ (Nat.zero_mul x)) (dD c)).trans rfl))
 |a::p,b::q,x::c,h=>have h:=(Bool.and_eq_true _ _).mp h;Nat.add_le_add (Nat.mul_le_mul_right x (Nat.le_of_ble_eq_true h.1)) (rb p q c h.2)
noncomputable def chk (L R:E):List (E×E)→Bool
 | []=>le (E.s R).f L.f
 | (l,r)::q=>chk (.a L l) (.a R r) q
noncomputable def Den (c:List Nat):List (E×E)→Prop
 | []=>False
 | (l,r)::q=>l.d c≤r.d c→Den c q
theorem go (c:List Nat):∀q L R,L.d c≤R.d c→chk L R q=true→Den c q
 | [],L,R,h,k=>absurd (Nat.le_trans (Nat.le_trans (Nat.le_of_eq (E.eq c (.s R)).symm) (rb _ _ (1::c) k)) (Nat.le_trans (Nat.le_of_eq (E.eq c L)) h)) (Nat.not_succ_le_self _)
 | (l,r)::q,L,R,h,k=>fun i=>go c q (.a L l) (.a R r) (Nat.add_le_add h i) k
theorem no (c:List Nat)(q:List (E×E))(k:chk (.n 0) (.n 0) q=true):Den c q:=go c q _ _ (Nat.le_refl _) k
inductive Z|n (k:Int)|v (i:Nat)|a (x y:Z)|s (x y:Z)|g (x:Z)|m (k:Int)(x:Z)
noncomputable def zt:List Int→Nat→Int
 | [],_=>0
 |x::_,0=>x
 |_::c,i+1=>zt c i
noncomputable def Z.d (c:List Int):Z→Int
 | .n k=>k
 | .v i=>zt c i
 | .a x y=>x.d c+y.d c
 | .s x y=>x.d c-y.d c
 | .g x=>-x.d c
 | .m k x=>k*x.d c
noncomputable def zv:List Int→List Int→Int
 |k::p,x::c=>k*x+zv p c
 |_,_=>0
noncomputable def uT:List Int→List Int→List Int
 | [],q=>q
 |a::p,[]=>a::p
 |a::p,b::q=>(a+b)::uT p q
noncomputable def pD (k:Int):List Int→List Int
 | []=>[]
 |a::p=>k*a::pD k p
noncomputable def zr:Nat→List Int
 |0=>[1]
 |i+1=>0::zr i
noncomputable def Z.f:Z→List Int
 | .n k=>[k]
 | .v i=>0::zr i
 | .a x y=>uT x.f y.f
 | .s x y=>uT x.f (pD (-1) y.f)
 | .g x=>pD (-1) x.f
 | .m k x=>pD k x.f
theorem ew:∀c,zv [] c=0
 | []=>rfl
 |_::_=>rfl
theorem lL:∀p q c,zv (uT p q) c=zv p c+zv q c
 | [],q,c=>((congrArg (·+zv q c) (ew c)).trans (Int.zero_add _)).symm
 |a::p,[],c=>((congrArg (zv (a::p) c+·) (ew c)).trans (Int.add_zero _)).symm
 |a::p,b::q,[]=>rfl
 |a::p,b::q,x::c=>(congr (congrArg _ (Int.add_mul a b x)) (lL p q c)).trans ((Int.add_assoc ..).trans ((congrArg _ (Int.add_left_comm ..)).trans (Int.add_assoc ..).symm))
theorem mK (k:Int):∀p c,zv (pD k p) c=k*zv p c
 | [],c=>(ew c).trans ((congrArg (k*·) (ew c)).trans (Int.mul_zero k)).symm
 |a::p,[]=>(Int.mul_zero k).symm
 |a::p,x::c=>(congr (congrArg _ (Int.mul_assoc k a x)) (mK k p c)).trans (Int.mul_add ..).symm
theorem uX:∀i c,zv (zr i) c=zt c i
 |0,[]=>rfl
 |_+1,[]=>rfl
 |0,x::c=>(congr (congrArg _ (Int.one_mul x)) (ew c)).trans (Int.add_zero x)
 |i+1,x::c=>(congr (congrArg _ (Int.zero_mul x)) (uX i c)).trans (Int.zero_add _)
theorem xn (k:Int)(c:List Int):zv [k] (1::c)=k:=(congr (congrArg _ (Int.mul_one k)) (ew c)).trans (Int.add_zero k)
theorem pY (p c:List Int):zv (pD (-1) p) c=-zv p c:=(mK ..).trans (Int.neg_one_mul _)
theorem Z.eq (c:List Int):∀e:Z,zv e.f (1::c)=e.d c
 | .n k=>xn k c
 | .v i=>(congr (congrArg _ (Int.zero_mul 1)) (uX i c)).trans (Int.zero_add _)
 | .a x y=>(lL ..).trans (congr (congrArg _ (Z.eq c x)) (Z.eq c y))
 | .s x y=>(lL ..).trans ((congr (congrArg (·+·) (Z.eq c x)) ((pY ..).trans (congrArg (- ·) (Z.eq c y)))).trans Int.sub_eq_add_neg.symm)
 | .g x=>(pY ..).trans (congrArg (- ·) (Z.eq c x))
 | .m k x=>(mK ..).trans (congrArg _ (Z.eq c x))
noncomputable def zer:List Int→Bool
 | []=>true
 | .ofNat 0::p=>zer p
 |_=>false
theorem rZ:∀p c,zer p=true→zv p c=0
 | [],c,_=>ew c
 | .ofNat 0::p,[],_=>rfl
 | .ofNat 0::p,x::c,h=>(congr (congrArg _ (Int.zero_mul x)) (rZ p c h)).trans rfl
noncomputable def x9:List Int→Bool
 | .ofNat (_+1)::p=>zer p
 |_=>false
theorem uB:∀p c,x9 p=true→0<zv p (1::c)
 | .ofNat (n+1)::p,c,h=>Int.lt_of_lt_of_le (Int.ofNat_succ_pos n) (Int.le_of_eq ((congr (congrArg _ (Int.mul_one _)) (rZ p c h)).trans (Int.add_zero _)).symm)
noncomputable def vJ (L R:Z):List (Z×Z)→Bool
 | []=>x9 (Z.s L R).f
 | (l,r)::q=>vJ (.a L l) (.a R r) q
noncomputable def wa (c:List Int):List (Z×Z)→Prop
 | []=>False
 | (l,r)::q=>l.d c≤r.d c→wa c q
theorem zgo (c:List Int):∀q L R,L.d c≤R.d c→vJ L R q=true→wa c q
 | [],L,R,h,k=>absurd (Int.sub_nonpos_of_le h) (Int.not_le.mpr (Int.lt_of_lt_of_le (uB _ c k) (Int.le_of_eq (Z.eq c (.s L R)))))
 | (l,r)::q,L,R,h,k=>fun i=>zgo c q (.a L l) (.a R r) (Int.add_le_add h i) k
theorem nz (c:List Int)(q:List (Z×Z))(k:vJ (.n 0) (.n 0) q=true):wa c q:=zgo c q _ _ (Int.le_refl _) k
theorem zl {m n:Nat}(h:m≤n):(m:Int)≤n:=Int.ofNat_le.mpr h
theorem nl {a b:Nat}(h:¬b<a):a≤b:=Nat.le_of_not_lt h
theorem nt {a b:Nat}(h:¬b≤a):a<b:=Nat.lt_of_not_le h
theorem le' {a b:Nat}(h:a=b):a≤b:=Nat.le_of_eq h
theorem sl (a b:Nat):a-b≤a:=Nat.sub_le a b
theorem sb (a b:Nat):a≤(a-b)+b:=Nat.sub_le_iff_le_add.mp (Nat.le_refl (a-b))
theorem sc {a b:Nat}(h:b≤a):a-b+b≤a:=Nat.le_of_eq (Nat.sub_add_cancel h)
theorem ne {a b:Nat}(h:¬a=b):a<b∨b<a:=Nat.lt_or_gt_of_ne h
theorem to (a b:Nat):a≤b∨b≤a:=Nat.le_total a b
theorem sz {a b:Nat}(h:a≤b):a-b=0:=Nat.sub_eq_zero_of_le h
theorem an {a b:Nat}(h:a≤b)(k:b≤a):a=b:=Nat.le_antisymm h k
theorem il {a b:Int}(h:¬b<a):a≤b:=Int.not_lt.mp h
theorem it {a b:Int}(h:¬b≤a):a<b:=Int.not_le.mp h
theorem nn (a:Nat):0≤(a:Int):=Int.natCast_nonneg a
theorem tn {a:Int}(h:0≤a):(a.toNat:Int)≤a:=Int.le_of_eq (Int.toNat_of_nonneg h)
theorem st (a:Int):a≤(a.toNat:Int):=Int.self_le_toNat a
noncomputable def v0:E:=.v 0
noncomputable def w0:Z:=.v 0
noncomputable def v1:E:=.v 1
noncomputable def w1:Z:=.v 1
noncomputable def v2:E:=.v 2
noncomputable def w2:Z:=.v 2
noncomputable def v3:E:=.v 3
noncomputable def w3:Z:=.v 3
noncomputable def v4:E:=.v 4
noncomputable def w4:Z:=.v 4
noncomputable def v5:E:=.v 5
noncomputable def w5:Z:=.v 5
noncomputable def v6:E:=.v 6
noncomputable def w6:Z:=.v 6
noncomputable def v7:E:=.v 7
noncomputable def w7:Z:=.v 7
noncomputable def v8:E:=.v 8
noncomputable def w8:Z:=.v 8
end Mine.Om
end
section
namespace Mine.Om
section
variable {a b c d e f g i j k l m n:Nat}
theorem o0:a≤b→c≤d→e+(a+c)≤e+(b+d):=fun h0 h1=>nl fun h=>no [a,b,c,d,e] [(v0,v1),(v2,v3),(.s (.a v4 (.a v1 v3)),.a v4 (.a v0 v2))] rfl h0 h1 h
theorem o1:a≤1048576→a≤16777216:=fun h0=>nl fun h=>no [a] [(v0,.n 1048576),(.s (.n 16777216),v0)] rfl h0 h
theorem o2 {a:Int}:¬a<0→0≤a:=fun h0=>il fun h=>nz [a] [(.n 0,w0),(.a w0 (.n 1),.n 0)] rfl (il h0) h
theorem o3:a+b<c→a<c:=fun h0=>nt fun h=>no [a,b,c] [(.s (.a v0 v1),v2),(v2,v0)] rfl h0 h
theorem o4:a+10*b+200<c→a+64<c:=fun h0=>nt fun h=>no [a,b,c] [(.s (.a (.a v0 (.m 10 v1)) (.n 200)),v2),(v2,.a v0 (.n 64))] rfl h0 h
theorem o5:a≤b→c+10*b+200<d→c+10*a+200<d:=fun h0 h1=>nt fun h=>no [a,b,c,d] [(.m 10 v0,.m 10 v1),(.s (.a (.a v2 (.m 10 v1)) (.n 200)),v3),(v3,.a (.a v2 (.m 10 v0)) (.n 200))] rfl (Nat.mul_le_mul_left 10 h0) h1 h
theorem o6:a≤b→c+b<d→c+a<d:=fun h0 h1=>nt fun h=>no [a,b,c,d] [(v0,v1),(.s (.a v2 v1),v3),(v3,.a v2 v0)] rfl h0 h1 h
theorem o7:a+10*(b+1)+200<c→a+3+10*b+200<c:=fun h0=>nt fun h=>no [a,b,c] [(.s (.a (.a v0 (.m 10 (.s v1))) (.n 200)),v2),(v2,.a (.a (.a v0 (.n 3)) (.m 10 v1)) (.n 200))] rfl h0 h
theorem o8:a+(b+1)<c→a+1+b<c:=fun h0=>nt fun h=>no [a,b,c] [(.s (.a v0 (.s v1)),v2),(v2,.a (.s v0) v1)] rfl h0 h
theorem o9:a≤b→¬a<b→a=b:=fun h0 h1=>an (nl fun h=>no [a,b] [(v0,v1),(.s v1,v0)] rfl h0 h) (nl fun h=>no [a,b] [(v1,v0),(.s v0,v1)] rfl (nl h1) h)
theorem o10:a<b→b+1-(a+1)<b+1-a:=fun h0=>nt fun h=>no [a,b,((b+1)-a),((b+1)-(a+1))] [(v2,v3),(.s v1,.a v2 v0),(.a v3 (.s v0),.s v1)] rfl h (sb (b+1) a) (sc (nl fun u=>no [a,b,((b+1)-a),((b+1)-(a+1))] [(.s v0,v1),(.s (.s v1),.s v0)] rfl h0 u))
theorem o11:a≤b→a+1≤b+1:=fun h0=>nl fun h=>no [a,b] [(v0,v1),(.s (.s v1),.s v0)] rfl h0 h
theorem o12:a≤b→c≤d→d<a→c≤b:=fun h0 h1 h2=>nl fun h=>no [a,b,c,d] [(v0,v1),(v2,v3),(.s v3,v0),(.s v1,v2)] rfl h0 h1 h2 h
theorem o13:a≤b→a≤b+1:=fun h0=>nl fun h=>no [a,b] [(v0,v1),(.s (.s v1),v0)] rfl h0 h
theorem o14:a=b→a≤b:=fun h0=>nl fun h=>no [a,b] [(v0,v1),(.s v1,v0)] rfl (le' h0) h
theorem o15:a=b+c→b≤a:=fun h0=>nl fun h=>no [a,b,c] [(.a v1 v2,v0),(.s v0,v1)] rfl (le' h0.symm) h
theorem o16:a<128→¬1114111<(↑a:Int):=fun h0=>fun h=>nz [↑a] [(.a w0 (.n 1),.n 128),(.a (.n 1114111) (.n 1),w0)] rfl (zl h0) h
theorem o17:¬(↑a:Int)<0:=fun h=>nz [↑a] [(.a w0 (.n 1),.n 0),(.n 0,w0)] rfl h (nn a)
theorem o18 {a:Int}{b:Nat}:a≤(↑b:Int)→Min.min (Int.toNat a) b=Int.toNat a:=fun h=>Nat.min_eq_left (Int.toNat_le.mpr h)
theorem o19 {a:Int}:0≤a→Max.max 0 a=a:=Int.max_eq_right
theorem o20 {a:Int}:0≤a→¬a<0:=fun h0=>fun h=>nz [a] [(.n 0,w0),(.a w0 (.n 1),.n 0)] rfl h0 h
theorem o21:1≤a+1+1:=nl fun h=>no [a] [(.s (.s (.s v0)),.n 1)] rfl h
theorem o22:a+10*(b+1)+200<c→a+1+10*b+200<c:=fun h0=>nt fun h=>no [a,b,c] [(.s (.a (.a v0 (.m 10 (.s v1))) (.n 200)),v2),(v2,.a (.a (.s v0) (.m 10 v1)) (.n 200))] rfl h0 h
theorem o23:a+1+b=a+(b+1):=an (nl fun h=>no [a,b] [(.s (.a v0 (.s v1)),.a (.s v0) v1)] rfl h) (nl fun h=>no [a,b] [(.s (.a (.s v0) v1),.a v0 (.s v1))] rfl h)
theorem o24:0<a→¬a-1=a:=fun h0=>fun h=>no [a,(a-1)] [(v0,v1),(.s v1,v0)] rfl (le' h.symm) (sc (nl fun u=>no [a,(a-1)] [(.s (.n 0),v0),(.s v0,.n 1)] rfl h0 u))
theorem o25:0<a→a-1<a:=fun h0=>nt fun h=>no [a,(a-1)] [(v0,v1),(.s v1,v0)] rfl h (sc (nl fun u=>no [a,(a-1)] [(.s (.n 0),v0),(.s v0,.n 1)] rfl h0 u))
theorem o26:Int.toNat (-1+(↑a:Int))=a-1:=by rw[Int.add_comm];exact Int.toNat_sub a 1
theorem o27:-1+(↑a:Int)<(↑a:Int):=it fun h=>nz [↑a] [(w0,.a (.g (.n 1)) w0)] rfl h
theorem o28:0<a→0≤-1+(↑a:Int):=fun h0=>il fun h=>nz [↑a] [(.a (.n 0) (.n 1),w0),(.a (.a (.g (.n 1)) w0) (.n 1),.n 0)] rfl (zl h0) h
theorem o29:a<b→b<a→False:=fun h0 h1=>no [a,b] [(.s v0,v1),(.s v1,v0)] rfl h0 h1
theorem o30:a<a→False:=fun h0=>no [a] [(.s v0,v0)] rfl h0
theorem o31:a≤b→b<c→a≤c∧c<a+(d+1-a)→a≤b∧b<a+(d+1-a):=fun h0 h1 h2=>⟨nl fun h=>no [a,b,c,d,((d+1)-a)] [(v0,v1),(.s v1,v0)] rfl h0 h,nt fun h=>no [a,b,c,d,((d+1)-a)] [(.s v1,v2),(.s v2,.a v0 v4),(.a v0 v4,v1)] rfl h1 h2.2 h⟩
theorem o32:a≤b→b<c→a≤b∧b<a+(c+1-a):=fun h0 h1=>⟨nl fun h=>no [a,b,c] [(v0,v1),(.s v1,v0)] rfl h0 h,nt fun h=>no [a,b,c,((c+1)-a)] [(.s v1,v2),(.a v0 v3,v1),(.s v2,.a v3 v0)] rfl h1 h (sb (c+1) a)⟩
theorem o33:a≤b∧b<a+(c+1-a)→a≤b:=fun h0=>nl fun h=>no [a,b,c,((c+1)-a)] [(v0,v1),(.s v1,v0)] rfl h0.1 h
theorem o34:Int.toNat (max 0 (↑a:Int))=a:=congrArg Int.toNat (Int.max_eq_right (Int.natCast_nonneg a))
theorem o35:¬a≤b→b-c≤a-c:=fun h0=>nl fun h=>(to a c).elim (fun u=>(to b c).elim (fun uv=>no [a,b,c,(a-c),(b-c)] [(.s v3,v4),(v4,.n 0)] rfl h (le' (sz uv))) (fun uv=>no [a,b,c,(a-c),(b-c)] [(.s v1,v0),(v0,v2),(v2,v1)] rfl (nt h0) u uv)) (fun u=>(to b c).elim (fun uv=>no [a,b,c,(a-c),(b-c)] [(.s v3,v4),(v4,.n 0)] rfl h (le' (sz uv))) (fun uv=>no [a,b,c,(a-c),(b-c)] [(.s v1,v0),(.s v3,v4),(v0,.a v3 v2),(.a v4 v2,v1)] rfl (nt h0) h (sb a c) (sc (nl fun uvv=>no [a,b,c,(a-c),(b-c)] [(v2,v1),(.s v1,v2)] rfl uv uvv))))
theorem o36:a-b≤a-b:=nl fun h=>no [a,b,(a-b)] [(.s v2,v2)] rfl h
theorem o37:¬a≤b→max 0 (min (↑a:Int) (↑b:Int))=max 0 (min (↑b:Int) (↑b:Int)):=fun h=>congrArg (max 0) ((Int.min_eq_right (Int.ofNat_le.mpr (Nat.le_of_not_le h))).trans (Int.min_self _).symm)
theorem o38:0<a→0≤-1+(↑a:Int)∧-1+(↑a:Int)<(↑a:Int):=fun h0=>⟨il fun h=>nz [↑a] [(.a (.n 0) (.n 1),w0),(.a (.a (.g (.n 1)) w0) (.n 1),.n 0)] rfl (zl h0) h,it fun h=>nz [↑a] [(w0,.a (.g (.n 1)) w0)] rfl h⟩
theorem o39:a<b→a<b:=fun h0=>nt fun h=>no [a,b] [(.s v0,v1),(v1,v0)] rfl h0 h
theorem o40:a=b+1→¬(↑a:Int)-1=(↑b:Int)→False:=fun h0 h1=>(Int.lt_or_gt_of_ne h1).elim (fun u=>nz [↑a,↑b] [(.a w1 (.n 1),w0),(.a (.s w0 (.n 1)) (.n 1),w1)] rfl (zl (le' h0.symm)) u) (fun u=>nz [↑a,↑b] [(w0,.a w1 (.n 1)),(.a w1 (.n 1),.s w0 (.n 1))] rfl (zl (le' h0)) u)
theorem o41:(↑a:Int)-1=(↑b:Int)→a=b+1:=fun h0=>Nat.le_antisymm (nl fun h=>nz [↑a,↑b] [(.s w0 (.n 1),w1),(.a (.a w1 (.n 1)) (.n 1),w0)] rfl (Int.le_of_eq h0) (zl h)) (nl fun h=>nz [↑a,↑b] [(w1,.s w0 (.n 1)),(.a w0 (.n 1),.a w1 (.n 1))] rfl (Int.le_of_eq h0.symm) (zl h))
theorem o42:¬(↑a:Int)<(↑b:Int)→a≤b→a=b:=fun h0 h1=>Nat.le_antisymm (nl fun h=>nz [↑b,↑a] [(w1,w0),(.a w0 (.n 1),w1)] rfl (zl h1) (zl h)) (nl fun h=>nz [↑b,↑a] [(w0,w1),(.a w1 (.n 1),w0)] rfl (il h0) (zl h))
theorem o43:a<a+1:=nt fun h=>no [a] [(.s v0,v0)] rfl h
theorem o44:a<a+2:=nt fun h=>no [a] [(.a v0 (.n 2),v0)] rfl h
theorem o45:a+1<b→(↑a:Int)+1<(↑b:Int):=fun h0=>it fun h=>nz [↑a,↑b] [(.a (.a w0 (.n 1)) (.n 1),w1),(w1,.a w0 (.n 1))] rfl (zl h0) h
theorem o46:-(↑a:Int)≤(↑b:Int)+1:=il fun h=>nz [↑b,↑a] [(.a (.a w0 (.n 1)) (.n 1),.g w1),(.n 0,w0),(.n 0,w1)] rfl h (nn b) (nn a)
theorem o47:a<b→b≤a+1→a+1=b:=fun h0 h1=>an (nl fun h=>no [a,b] [(.s v0,v1),(.s v1,.s v0)] rfl h0 h) (nl fun h=>no [a,b] [(v1,.s v0),(.s (.s v0),v1)] rfl h1 h)
theorem o48:¬(↑a:Int)=0→¬a=0:=fun h0=>fun h=>(Int.lt_or_gt_of_ne h0).elim (fun u=>nz [↑a] [(.n 0,w0),(.a w0 (.n 1),.n 0)] rfl (zl (le' h.symm)) u) (fun u=>nz [↑a] [(w0,.n 0),(.a (.n 0) (.n 1),w0)] rfl (zl (le' h)) u)
theorem o49:(↑a:Int)=0→a=0:=fun h0=>Nat.le_antisymm (nl fun h=>nz [↑a] [(w0,.n 0),(.a (.n 0) (.n 1),w0)] rfl (Int.le_of_eq h0) (zl h)) (nl fun h=>nz [↑a] [(.n 0,w0),(.a w0 (.n 1),.n 0)] rfl (Int.le_of_eq h0.symm) (zl h))
theorem o50:a≤b→a≤b+3:=fun h0=>nl fun h=>no [a,b] [(v0,v1),(.s (.a v1 (.n 3)),v0)] rfl h0 h
theorem o51:a=120→¬a=92:=fun h0=>fun h=>no [a] [(.n 120,v0),(v0,.n 92)] rfl (le' h0.symm) (le' h)
theorem o52:a=120→¬a=10:=fun h0=>fun h=>no [a] [(.n 120,v0),(v0,.n 10)] rfl (le' h0.symm) (le' h)
theorem o53:a<b→(↑a:Int)<(↑b:Int):=fun h0=>it fun h=>nz [↑a,↑b] [(.a w0 (.n 1),w1),(w1,w0)] rfl (zl h0) h
theorem o54:-(↑a:Int)≤(↑b:Int):=il fun h=>nz [↑b,↑a] [(.a w0 (.n 1),.g w1),(.n 0,w0),(.n 0,w1)] rfl h (nn b) (nn a)
theorem o55:a+1+b-a=b+1:=an (nl fun h=>no [a,b,(((a+1)+b)-a)] [(.s (.s v1),v2),(.a v2 v0,.a (.s v0) v1)] rfl h (sc (nl fun u=>no [a,b,(((a+1)+b)-a)] [(.s (.a (.s v0) v1),v0)] rfl u))) (nl fun h=>no [a,b,(((a+1)+b)-a)] [(.s v2,.s v1),(.a (.s v0) v1,.a v2 v0)] rfl h (sb ((a+1)+b) a))
theorem o56:(↑a:Int)+1+(↑b:Int)=(↑(a+1+b):Int):=Int.le_antisymm (il fun h=>nz [↑a,↑b] [(.a (.a (.a w0 (.n 1)) w1) (.n 1),.a (.a w0 (.n 1)) w1)] rfl h) (il fun h=>nz [↑a,↑b] [(.a (.a (.a w0 (.n 1)) w1) (.n 1),.a (.a w0 (.n 1)) w1)] rfl h)
theorem o57:(↑a:Int)+1-1=(↑a:Int):=Int.le_antisymm (il fun h=>nz [↑a] [(.a w0 (.n 1),.s (.a w0 (.n 1)) (.n 1))] rfl h) (il fun h=>nz [↑a] [(.a (.s (.a w0 (.n 1)) (.n 1)) (.n 1),w0)] rfl h)
theorem o58:a<b→a≤b:=fun h0=>nl fun h=>no [a,b] [(.s v0,v1),(.s v1,v0)] rfl h0 h
theorem o59:a≤a+1+b:=nl fun h=>no [a,b] [(.s (.a (.s v0) v1),v0)] rfl h
theorem o60:a≤b→b<c→a≤c:=fun h0 h1=>nl fun h=>no [a,b,c] [(v0,v1),(.s v1,v2),(.s v2,v0)] rfl h0 h1 h
theorem o61:a<b→b≤c→c-b<c-a:=fun h0 h1=>nt fun h=>no [a,b,c,(c-a),(c-b)] [(.s v0,v1),(v3,v4),(v2,.a v3 v0),(.a v4 v1,v2)] rfl h0 h (sb c a) (sc (nl fun u=>no [a,b,c,(c-a),(c-b)] [(v1,v2),(.s v2,v1)] rfl h1 u))
theorem o62:(↑a:Int)<(↑b:Int)→a<b:=fun h0=>nt fun h=>nz [↑a,↑b] [(.a w0 (.n 1),w1),(w1,w0)] rfl h0 (zl h)
theorem o63:a+5≤b→a≤b:=fun h0=>nl fun h=>no [a,b] [(.a v0 (.n 5),v1),(.s v1,v0)] rfl h0 h
theorem o64:a+5≤b→c≤d+e→e≤a→d=1→c≤b:=fun h0 h1 h2 h3=>nl fun h=>no [a,b,c,d,e] [(.a v0 (.n 5),v1),(v2,.a v3 v4),(v4,v0),(v3,.n 1),(.s v1,v2)] rfl h0 h1 h2 (le' h3) h
theorem o65:a≤b+c→b≤d+1→a≤d+(c+1):=fun h0 h1=>nl fun h=>no [a,b,c,d] [(v0,.a v1 v2),(v1,.s v3),(.s (.a v3 (.s v2)),v0)] rfl h0 h1 h
theorem o66:a+1<b→a+2≤b:=fun h0=>nl fun h=>no [a,b] [(.s (.s v0),v1),(.s v1,.a v0 (.n 2))] rfl h0 h
theorem o67:¬(↑a:Int)+1+1=(↑b:Int)→¬a+2=b:=fun h0=>fun h=>(Int.lt_or_gt_of_ne h0).elim (fun u=>nz [↑a,↑b] [(w1,.a w0 (.n 2)),(.a (.a (.a w0 (.n 1)) (.n 1)) (.n 1),w1)] rfl (zl (le' h.symm)) u) (fun u=>nz [↑a,↑b] [(.a w0 (.n 2),w1),(.a w1 (.n 1),.a (.a w0 (.n 1)) (.n 1))] rfl (zl (le' h)) u)
theorem o68:a+2=b→a+2≤b:=fun h0=>nl fun h=>no [a,b] [(.a v0 (.n 2),v1),(.s v1,.a v0 (.n 2))] rfl (le' h0) h
theorem o69:(↑a:Int)+1+1=(↑b:Int)→a+2=b:=fun h0=>Nat.le_antisymm (nl fun h=>nz [↑a,↑b] [(.a (.a w0 (.n 1)) (.n 1),w1),(.a w1 (.n 1),.a w0 (.n 2))] rfl (Int.le_of_eq h0) (zl h)) (nl fun h=>nz [↑a,↑b] [(w1,.a (.a w0 (.n 1)) (.n 1)),(.a (.a w0 (.n 2)) (.n 1),w1)] rfl (Int.le_of_eq h0.symm) (zl h))
theorem o70:a+1<b→(↑(a+1):Int)<(↑b:Int):=fun h0=>it fun h=>nz [↑a,↑b] [(.a (.a w0 (.n 1)) (.n 1),w1),(w1,.a w0 (.n 1))] rfl (zl h0) h
theorem o71:-(↑a:Int)≤(↑(b+1):Int):=il fun h=>nz [↑b,↑a] [(.a (.a w0 (.n 1)) (.n 1),.g w1),(.n 0,w0),(.n 0,w1)] rfl h (nn b) (nn a)
theorem o72:0≤(↑a:Int):=il fun h=>nz [↑a] [(.a w0 (.n 1),.n 0),(.n 0,w0)] rfl h (nn a)
theorem o73:a+1≤b→a≤b:=fun h0=>nl fun h=>no [a,b] [(.s v0,v1),(.s v1,v0)] rfl h0 h
theorem o74:a+1≤b→a<b:=fun h0=>nt fun h=>no [a,b] [(.s v0,v1),(v1,v0)] rfl h0 h
theorem o75:a+1≤b→a=b→False:=fun h0 h1=>no [a,b] [(.s v0,v1),(v1,v0)] rfl h0 (le' h1.symm)
theorem o76:a+1≤a+1+b:=nl fun h=>no [a,b] [(.s (.a (.s v0) v1),.s v0)] rfl h
theorem o77:a+1+b<min c d→a+1+b<c:=fun h=>Nat.lt_of_lt_of_le h (Nat.min_le_left ..)
theorem o78:a+1<b→a+1≤b-1:=fun h0=>nl fun h=>no [a,b,(b-1)] [(.s (.s v0),v1),(.s v2,.s v0),(v1,.s v2)] rfl h0 h (sb b 1)
theorem o79:a+1+0≤b→a+1≤b:=fun h0=>nl fun h=>no [a,b] [(.a (.s v0) (.n 0),v1),(.s v1,.s v0)] rfl h0 h
theorem o80:a+1+2≤b→a+1≤b:=fun h0=>nl fun h=>no [a,b] [(.a (.s v0) (.n 2),v1),(.s v1,.s v0)] rfl h0 h
theorem o81:a=0→a=a-1:=fun h0=>an (nl fun h=>no [a,(a-1)] [(v0,.n 0),(.s v1,v0)] rfl (le' h0) h) (nl fun h=>no [a,(a-1)] [(.s v0,v1),(v1,v0)] rfl h (sl a 1))
theorem o82:a<b→a+1≤b:=fun h0=>nl fun h=>no [a,b] [(.s v0,v1),(.s v1,.s v0)] rfl h0 h
theorem o83:¬a=0→(↑(a-1):Int)=(↑a:Int)-1:=fun h0=>Int.le_antisymm (il fun h=>(Nat.lt_or_gt_of_ne h0).elim (fun u=>nz [↑a,↑(a-1)] [(.a w0 (.n 1),.n 0),(.n 0,w0)] rfl (zl u) (nn a)) (fun u=>nz [↑a,↑(a-1)] [(.a (.s w0 (.n 1)) (.n 1),w1),(.a w1 (.n 1),w0)] rfl h (zl (sc (nl fun uv=>nz [↑a,↑(a-1)] [(.a (.n 0) (.n 1),w0),(.a w0 (.n 1),.n 1)] rfl (zl u) (zl uv)))))) (il fun h=>nz [↑(a-1),↑a] [(.a w0 (.n 1),.s w1 (.n 1)),(w1,.a w0 (.n 1))] rfl h (zl (sb a 1)))
theorem o84:a+3-a=3:=an (nl fun h=>no [a,((a+3)-a)] [(.s (.n 3),v1),(.a v1 v0,.a v0 (.n 3))] rfl h (sc (nl fun u=>no [a,((a+3)-a)] [(.s (.a v0 (.n 3)),v0)] rfl u))) (nl fun h=>no [a,((a+3)-a)] [(.s v1,.n 3),(.a v0 (.n 3),.a v1 v0)] rfl h (sb (a+3) a))
theorem o85:(↑a:Int)+1+2=(↑(a+3):Int):=Int.le_antisymm (il fun h=>nz [↑a] [(.a (.a w0 (.n 3)) (.n 1),.a (.a w0 (.n 1)) (.n 2))] rfl h) (il fun h=>nz [↑a] [(.a (.a (.a w0 (.n 1)) (.n 2)) (.n 1),.a w0 (.n 3))] rfl h)
theorem o86:a≤a+3:=nl fun h=>no [a] [(.s (.a v0 (.n 3)),v0)] rfl h
theorem o87:a<b→a=b→False:=fun h0 h1=>no [a,b] [(.s v0,v1),(v1,v0)] rfl h0 (le' h1.symm)
theorem o88:(↑(a+1):Int)-1=(↑a:Int):=Int.le_antisymm (il fun h=>nz [↑a] [(.a w0 (.n 1),.s (.a w0 (.n 1)) (.n 1))] rfl h) (il fun h=>nz [↑a] [(.a (.s (.a w0 (.n 1)) (.n 1)) (.n 1),w0)] rfl h)
theorem o89:a≤b→a=b+1→False:=fun h0 h1=>no [a,b] [(v0,v1),(.s v1,v0)] rfl h0 (le' h1.symm)
theorem o90:a≤900→b≤a+1→b≤1000:=fun h0 h1=>nl fun h=>no [a,b] [(v0,.n 900),(v1,.s v0),(.s (.n 1000),v1)] rfl h0 h1 h
theorem o91:a≤900→a≤1000:=fun h0=>nl fun h=>no [a] [(v0,.n 900),(.s (.n 1000),v0)] rfl h0 h
theorem o92:¬0<a→¬0<(↑a:Int):=fun h0=>fun h=>nz [↑a] [(w0,.n 0),(.a (.n 0) (.n 1),w0)] rfl (zl (nl h0)) h
theorem o93:0<a→0<(↑a:Int):=fun h0=>it fun h=>nz [↑a] [(.a (.n 0) (.n 1),w0),(w0,.n 0)] rfl (zl h0) h
theorem o94:(↑a:Int)=(↑b:Int)→a=b:=fun h0=>Nat.le_antisymm (nl fun h=>nz [↑a,↑b] [(w0,w1),(.a w1 (.n 1),w0)] rfl (Int.le_of_eq h0) (zl h)) (nl fun h=>nz [↑a,↑b] [(w1,w0),(.a w0 (.n 1),w1)] rfl (Int.le_of_eq h0.symm) (zl h))
theorem o95:a≤900→b≤c+1→c≤a+1→b≤1000:=fun h0 h1 h2=>nl fun h=>no [a,b,c] [(v0,.n 900),(v1,.s v2),(v2,.s v0),(.s (.n 1000),v1)] rfl h0 h1 h2 h
theorem o96:a+5≤b→c≤d+a→d=1→c≤b:=fun h0 h1 h2=>nl fun h=>no [a,b,c,d] [(.a v0 (.n 5),v1),(v2,.a v3 v0),(v3,.n 1),(.s v1,v2)] rfl h0 h1 (le' h2) h
theorem o97:a≤b→b=c→c+5≤d→a+5≤d:=fun h0 h1 h2=>nl fun h=>no [a,b,c,d] [(v0,v1),(v1,v2),(.a v2 (.n 5),v3),(.s v3,.a v0 (.n 5))] rfl h0 (le' h1) h2 h
theorem o98:a≤b→c≤a→c≤b:=fun h0 h1=>nl fun h=>no [a,b,c] [(v0,v1),(v2,v0),(.s v1,v2)] rfl h0 h1 h
theorem o99:-1<(↑a:Int):=it fun h=>nz [↑a] [(w0,.g (.n 1)),(.n 0,w0)] rfl h (nn a)
theorem o100:0<a→-(↑a:Int)≤-1:=fun h0=>il fun h=>nz [↑a] [(.a (.n 0) (.n 1),w0),(.a (.g (.n 1)) (.n 1),.g w0)] rfl (zl h0) h
theorem o101:a≤890→b≤c+1→c≤a+1→b≤900:=fun h0 h1 h2=>nl fun h=>no [a,b,c] [(v0,.n 890),(v1,.s v2),(v2,.s v0),(.s (.n 900),v1)] rfl h0 h1 h2 h
theorem o102:a=b→c=d→a<c→b≤d:=fun h0 h1 h2=>nl fun h=>no [a,b,c,d] [(v1,v0),(v2,v3),(.s v0,v2),(.s v3,v1)] rfl (le' h0.symm) (le' h1) h2 h
theorem o103:a+1<b→¬a+1=b-1→a+1<b-1:=fun h0 h1=>nt fun h=>(ne h1).elim (fun u=>no [a,b,(b-1)] [(v2,.s v0),(.s (.s v0),v2)] rfl h u) (fun u=>no [a,b,(b-1)] [(.s (.s v0),v1),(.s v2,.s v0),(v1,.s v2)] rfl h0 u (sb b 1))
theorem o104:a=b→a<c→c≤b→False:=fun h0 h1 h2=>no [a,b,c] [(v1,v0),(.s v0,v2),(v2,v1)] rfl (le' h0.symm) h1 h2
theorem o105:a<b→b-1<b:=fun h0=>nt fun h=>no [a,b,(b-1)] [(v1,v2),(.s v2,v1)] rfl h (sc (nl fun u=>no [a,b,(b-1)] [(.s v0,v1),(.s v1,.n 1)] rfl h0 u))
theorem o106:a<b→¬a=b-1→a<b-1:=fun h0 h1=>nt fun h=>(ne h1).elim (fun u=>no [a,b,(b-1)] [(v2,v0),(.s v0,v2)] rfl h u) (fun u=>no [a,b,(b-1)] [(.s v0,v1),(.s v2,v0),(v1,.s v2)] rfl h0 u (sb b 1))
theorem o107:0+a=a:=an (nl fun h=>no [a] [(.s v0,.a (.n 0) v0)] rfl h) (nl fun h=>no [a] [(.s (.a (.n 0) v0),v0)] rfl h)
theorem o108:¬120=10:=fun h=>no [] [(.n 120,.n 10)] rfl (le' h)
theorem o109:¬a=10→¬a=10:=fun h0=>fun h=>(ne h0).elim (fun u=>no [a] [(.n 10,v0),(.s v0,.n 10)] rfl (le' h.symm) u) (fun u=>no [a] [(v0,.n 10),(.s (.n 10),v0)] rfl (le' h) u)
theorem o110:¬41=10:=fun h=>no [] [(.n 41,.n 10)] rfl (le' h)
theorem o111:¬40=10:=fun h=>no [] [(.n 40,.n 10)] rfl (le' h)
theorem o112:a=0→a≤b:=fun h0=>nl fun h=>no [a,b] [(v0,.n 0),(.s v1,v0)] rfl (le' h0) h
theorem o113:a=b+1→c=b+1→c≤a:=fun h0 h1=>nl fun h=>no [a,b,c] [(.s v1,v0),(v2,.s v1),(.s v0,v2)] rfl (le' h0.symm) (le' h1) h
theorem o114:a=b+1→c≤b→c≤a:=fun h0 h1=>nl fun h=>no [a,b,c] [(.s v1,v0),(v2,v1),(.s v0,v2)] rfl (le' h0.symm) h1 h
theorem o115:a≤b→c=b+1→a<c:=fun h0 h1=>nt fun h=>no [a,b,c] [(v0,v1),(.s v1,v2),(v2,v0)] rfl h0 (le' h1.symm) h
theorem o116:a=b+c→d≤b→d≤a:=fun h0 h1=>nl fun h=>no [a,b,c,d] [(.a v1 v2,v0),(v3,v1),(.s v0,v3)] rfl (le' h0.symm) h1 h
theorem o117:a+b+c=a+(b+c):=an (nl fun h=>no [a,b,c] [(.s (.a v0 (.a v1 v2)),.a (.a v0 v1) v2)] rfl h) (nl fun h=>no [a,b,c] [(.s (.a (.a v0 v1) v2),.a v0 (.a v1 v2))] rfl h)
theorem o118:¬a≤b→¬b<a-1→(↑b:Int)+1=(↑a:Int):=fun h0 h1=>Int.le_antisymm (il fun h=>nz [↑b,↑a,↑(a-1)] [(.a w0 (.n 1),w1),(.a w1 (.n 1),.a w0 (.n 1))] rfl (zl (nt h0)) h) (il fun h=>nz [↑b,↑a,↑(a-1)] [(w2,w0),(.a (.a w0 (.n 1)) (.n 1),w1),(w1,.a w2 (.n 1))] rfl (zl (nl h1)) h (zl (sb a 1)))
theorem o119:a<b→c<a→a-1<b-1:=fun h0 h1=>nt fun h=>no [a,b,c,(b-1),(a-1)] [(.s v0,v1),(v3,v4),(v1,.s v3),(.s v4,v0)] rfl h0 h (sb b 1) (sc (nl fun u=>no [a,b,c,(b-1),(a-1)] [(.s v2,v0),(.s v0,.n 1)] rfl h1 u))
theorem o120:a+1<b→a<b:=fun h0=>nt fun h=>no [a,b] [(.s (.s v0),v1),(v1,v0)] rfl h0 h
theorem o121:a≤b→a-1≤b:=fun h0=>nl fun h=>no [a,b,(a-1)] [(v0,v1),(.s v1,v2),(v2,v0)] rfl h0 h (sl a 1)
theorem o122:a-1+1≤b→a≤b:=fun h0=>nl fun h=>no [a,b,(a-1)] [(.s v2,v1),(.s v1,v0),(v0,.s v2)] rfl h0 h (sb a 1)
theorem o123:a<b→c<a→c<b:=fun h0 h1=>nt fun h=>no [a,b,c] [(.s v0,v1),(.s v2,v0),(v1,v2)] rfl h0 h1 h
theorem o124:a<b+1→¬a=b→a<b:=fun h0 h1=>nt fun h=>(ne h1).elim (fun u=>no [a,b] [(v1,v0),(.s v0,v1)] rfl h u) (fun u=>no [a,b] [(.s v0,.s v1),(.s v1,v0)] rfl h0 u)
theorem o125:a<0→False:=fun h0=>no [a] [(.s v0,.n 0)] rfl h0
theorem o126:1+(a+1)=a+1+1:=an (nl fun h=>no [a] [(.s (.s (.s v0)),.a (.n 1) (.s v0))] rfl h) (nl fun h=>no [a] [(.s (.a (.n 1) (.s v0)),.s (.s v0))] rfl h)
theorem o127:0<a+1:=nt fun h=>no [a] [(.s v0,.n 0)] rfl h
theorem o128:1+a≤b→b<1+c-1→b-1<c-1:=fun h0 h1=>nt fun h=>no [a,b,c,((1+c)-1),(c-1),(b-1)] [(.s v1,v3),(v4,v5),(v2,.s v4),(.s v3,.a (.n 1) v2),(.s v5,v1)] rfl h1 h (sb c 1) (sc (nl fun u=>no [a,b,c,((1+c)-1),(c-1),(b-1)] [(.s (.a (.n 1) v2),.n 1)] rfl u)) (sc (nl fun u=>no [a,b,c,((1+c)-1),(c-1),(b-1)] [(.a (.n 1) v0,v1),(.s v1,.n 1)] rfl h0 u))
theorem o129:1+a≤b→a≤b-1:=fun h0=>nl fun h=>no [a,b,(b-1)] [(.a (.n 1) v0,v1),(.s v2,v0),(v1,.s v2)] rfl h0 h (sb b 1)
theorem o130:1+a≤b→b=b-1+1:=fun h0=>an (nl fun h=>no [a,b,(b-1)] [(.s (.s v2),v1),(v1,.s v2)] rfl h (sb b 1)) (nl fun h=>no [a,b,(b-1)] [(.s v1,.s v2),(.s v2,v1)] rfl h (sc (nl fun u=>no [a,b,(b-1)] [(.a (.n 1) v0,v1),(.s v1,.n 1)] rfl h0 u)))
theorem o131:0<a→1+a-1=a-1+1:=fun h0=>an (nl fun h=>no [a,(a-1),((1+a)-1)] [(.s (.s v1),v2),(v0,.s v1),(.s v2,.a (.n 1) v0)] rfl h (sb a 1) (sc (nl fun u=>no [a,(a-1),((1+a)-1)] [(.s (.a (.n 1) v0),.n 1)] rfl u))) (nl fun h=>no [a,((1+a)-1),(a-1)] [(.s v1,.s v2),(.a (.n 1) v0,.s v1),(.s v2,v0)] rfl h (sb (1+a) 1) (sc (nl fun u=>no [a,((1+a)-1),(a-1)] [(.s (.n 0),v0),(.s v0,.n 1)] rfl h0 u)))
theorem o132:a<b→1+a<1+b:=fun h0=>nt fun h=>no [a,b] [(.s v0,v1),(.a (.n 1) v1,.a (.n 1) v0)] rfl h0 h
theorem o133:a+1<1+b-1→a<b-1:=fun h0=>nt fun h=>no [a,b,((1+b)-1),(b-1)] [(.s (.s v0),v2),(v3,v0),(v1,.s v3),(.s v2,.a (.n 1) v1)] rfl h0 h (sb b 1) (sc (nl fun u=>no [a,b,((1+b)-1),(b-1)] [(.s (.a (.n 1) v1),.n 1)] rfl u))
theorem o134:0<1+a:=nt fun h=>no [a] [(.a (.n 1) v0,.n 0)] rfl h
theorem o135:a<b→0<b:=fun h0=>nt fun h=>no [a,b] [(.s v0,v1),(v1,.n 0)] rfl h0 h
theorem o136:a<b→1+b-1=b-1+1:=fun h0=>an (nl fun h=>no [a,b,(b-1),((1+b)-1)] [(.s (.s v2),v3),(v1,.s v2),(.s v3,.a (.n 1) v1)] rfl h (sb b 1) (sc (nl fun u=>no [a,b,(b-1),((1+b)-1)] [(.s (.a (.n 1) v1),.n 1)] rfl u))) (nl fun h=>no [a,b,((1+b)-1),(b-1)] [(.s v2,.s v3),(.a (.n 1) v1,.s v2),(.s v3,v1)] rfl h (sb (1+b) 1) (sc (nl fun u=>no [a,b,((1+b)-1),(b-1)] [(.s v0,v1),(.s v1,.n 1)] rfl h0 u)))
theorem o137:a+1<1+b→a<b:=fun h0=>nt fun h=>no [a,b] [(.s (.s v0),.a (.n 1) v1),(v1,v0)] rfl h0 h
theorem o138:a<1-1→False:=fun h0=>no [a,(1-1)] [(.s v0,v1),(.s v1,.n 1)] rfl h0 (sc (nl fun u=>no [a,(1-1)] [(.s (.n 1),.n 1)] rfl u))
theorem o139:0<1:=nt fun h=>no [] [(.n 1,.n 0)] rfl h
theorem o140:a<b→c≤d→d<a→c≤d∧d<c+(b+1-c):=fun h0 h1 h2=>⟨nl fun h=>no [a,b,c,d] [(v2,v3),(.s v3,v2)] rfl h1 h,nt fun h=>no [a,b,c,d,((b+1)-c)] [(.s v0,v1),(.s v3,v0),(.a v2 v4,v3),(.s v1,.a v4 v2)] rfl h0 h2 h (sb (b+1) c)⟩
theorem o141:a<b→a<b+1:=fun h0=>nt fun h=>no [a,b] [(.s v0,v1),(.s v1,v0)] rfl h0 h
theorem o142:1≤1:=nl fun h=>no [] [(.s (.n 1),.n 1)] rfl h
theorem o143:a<16777216→¬16777216<a+1+0:=fun h0=>fun h=>no [a] [(.s v0,.n 16777216),(.s (.n 16777216),.a (.s v0) (.n 0))] rfl h0 h
theorem o144:¬a<b→b≤a:=fun h0=>nl fun h=>no [a,b] [(v1,v0),(.s v0,v1)] rfl (nl h0) h
theorem o145:a<b→¬b≤a:=fun h0=>fun h=>no [a,b] [(.s v0,v1),(v1,v0)] rfl h0 h
theorem o146:¬a<0:=fun h=>no [a] [(.s v0,.n 0)] rfl h
theorem o147:a≤b→(↑a:Int)-1<(↑b:Int):=fun h0=>it fun h=>nz [↑a,↑b] [(w0,w1),(w1,.s w0 (.n 1))] rfl (zl h0) h
theorem o148:a≤b→¬(↑(b+1):Int)-1<(↑a:Int):=fun h0=>fun h=>nz [↑a,↑b] [(w0,w1),(.a (.s (.a w1 (.n 1)) (.n 1)) (.n 1),w0)] rfl (zl h0) h
theorem o149:a<b→0+a<b:=fun h0=>nt fun h=>no [a,b] [(.s v0,v1),(v1,.a (.n 0) v0)] rfl h0 h
theorem o150:min a b=c→c≤b:=fun h=>h▸Nat.min_le_right ..
theorem o151:a+b=c→Int.toNat ((↑c:Int)-(↑a:Int))=b:=fun h0=>Nat.le_antisymm (nl fun h=>nz [↑a,↑b,↑c,↑(Int.toNat ((↑c:Int)-(↑a:Int)))] [(w2,.a w0 w1),(.a w1 (.n 1),w3),(w3,.s w2 w0)] rfl (zl (le' h0.symm)) (zl h) (tn (il fun u=>nz [↑a,↑b,↑c,↑(Int.toNat ((↑c:Int)-(↑a:Int)))] [(.a w0 w1,w2),(.a (.s w2 w0) (.n 1),.n 0),(.n 0,w1)] rfl (zl (le' h0)) u (nn b)))) (nl fun h=>nz [↑a,↑b,↑c,↑(Int.toNat ((↑c:Int)-(↑a:Int)))] [(.a w0 w1,w2),(.a w3 (.n 1),w1),(.s w2 w0,w3)] rfl (zl (le' h0)) (zl h) (st ((↑c:Int)-(↑a:Int))))
theorem o152:a=b→c≤b→¬0+a<c:=fun h0 h1=>fun h=>no [a,b,c] [(v1,v0),(v2,v1),(.s (.a (.n 0) v0),v2)] rfl (le' h0.symm) h1 h
theorem o153:a≤b→c+b=d→¬(↑d:Int)-(↑c:Int)<(↑a:Int):=fun h0 h1=>fun h=>nz [↑a,↑b,↑c,↑d] [(w0,w1),(.a w2 w1,w3),(.a (.s w3 w2) (.n 1),w0)] rfl (zl h0) (zl (le' h1)) h
theorem o154:a+(b+1)=a+1+b:=an (nl fun h=>no [a,b] [(.s (.a (.s v0) v1),.a v0 (.s v1))] rfl h) (nl fun h=>no [a,b] [(.s (.a v0 (.s v1)),.a (.s v0) v1)] rfl h)
theorem o155:a+(b+1)=c→a+1+b=c:=fun h0=>an (nl fun h=>no [a,b,c] [(.a v0 (.s v1),v2),(.s v2,.a (.s v0) v1)] rfl (le' h0) h) (nl fun h=>no [a,b,c] [(v2,.a v0 (.s v1)),(.s (.a (.s v0) v1),v2)] rfl (le' h0.symm) h)
theorem o156:a+(b+1)=c→a<c:=fun h0=>nt fun h=>no [a,b,c] [(.a v0 (.s v1),v2),(v2,v0)] rfl (le' h0) h
theorem o157:14+1≤9*a+20:=nl fun h=>no [a] [(.s (.a (.m 9 v0) (.n 20)),.s (.n 14))] rfl h
theorem o158:a≤4294967295→b+1+1≤a→b≤4294967295:=fun h0 h1=>nl fun h=>no [a,b] [(v0,.n 4294967295),(.s (.s v1),v0),(.s (.n 4294967295),v1)] rfl h0 h1 h
theorem o159:10+1≤9*a+20:=nl fun h=>no [a] [(.s (.a (.m 9 v0) (.n 20)),.s (.n 10))] rfl h
theorem o160:a≤b→9*a+2+8+1≤9*b+20:=fun h0=>nl fun h=>no [a,b] [(.m 9 v0,.m 9 v1),(.s (.a (.m 9 v1) (.n 20)),.s (.a (.a (.m 9 v0) (.n 2)) (.n 8)))] rfl (Nat.mul_le_mul_left 9 h0) h
theorem o161:9*a+2+8+1≤9*(a+1)+2:=nl fun h=>no [a] [(.s (.a (.m 9 (.s v0)) (.n 2)),.s (.a (.a (.m 9 v0) (.n 2)) (.n 8)))] rfl h
theorem o162:a+4+1≤a+6:=nl fun h=>no [a] [(.s (.a v0 (.n 6)),.s (.a v0 (.n 4)))] rfl h
theorem o163:a≤4294967295→min 4294967295 a=a:=Nat.min_eq_right
theorem o164:a<4*(b+1)→¬a≤4→a-4<4*b:=fun h0 h1=>nt fun h=>no [a,b,(a-4)] [(.s v0,.m 4 (.s v1)),(.m 4 v1,v2),(.a v2 (.n 4),v0)] rfl h0 h (sc (nl fun u=>no [a,b,(a-4)] [(.s (.n 4),v0),(.s v0,.n 4)] rfl (nt h1) u))
theorem o165:¬a≤4→a=4+(a-4):=fun h0=>an (nl fun h=>no [a,(a-4)] [(.s (.a (.n 4) v1),v0),(v0,.a v1 (.n 4))] rfl h (sb a 4)) (nl fun h=>no [a,(a-4)] [(.s v0,.a (.n 4) v1),(.a v1 (.n 4),v0)] rfl h (sc (nl fun u=>no [a,(a-4)] [(.s (.n 4),v0),(.s v0,.n 4)] rfl (nt h0) u)))
theorem o166:a≤4→4=a+(4-a):=fun h0=>an (nl fun h=>no [a,(4-a)] [(.s (.a v0 v1),.n 4),(.n 4,.a v1 v0)] rfl h (sb 4 a)) (nl fun h=>no [a,(4-a)] [(.s (.n 4),.a v0 v1),(.a v1 v0,.n 4)] rfl h (sc (nl fun u=>no [a,(4-a)] [(v0,.n 4),(.s (.n 4),v0)] rfl h0 u)))
theorem o167:¬a<4*0:=fun h=>no [a] [(.s v0,.m 4 (.n 0))] rfl h
theorem o168:a≤b→b-a<c→(¬c=0∧a≤b)∧b-a<c:=fun h0 h1=>⟨⟨fun h=>no [a,b,c,(b-a)] [(.s v3,v2),(v2,.n 0)] rfl h1 (le' h),nl fun h=>no [a,b,c,(b-a)] [(v0,v1),(.s v1,v0)] rfl h0 h⟩,nt fun h=>no [a,b,c,(b-a)] [(.s v3,v2),(v2,v3)] rfl h1 h⟩
theorem o169:a≤b-c→b-c<a→False:=fun h0 h1=>no [a,b,c,(b-c)] [(v0,v3),(.s v3,v0)] rfl h0 h1
theorem o170:a≤1048576→Min.min 9223372036854775807 a=a:=fun h=>Nat.min_eq_right (Nat.le_trans h (by decide))
theorem o171:a≤b→Min.min (Int.toNat (↑a:Int)) b=a:=fun h=>Nat.min_eq_left h
theorem o172:a≤b→b≤c→Min.min (Int.toNat (↑a:Int)) c=a:=fun h k=>Nat.min_eq_left (Nat.le_trans h k)
theorem o173:a≤b→b≤1048576→(↑a:Int)≤1048576:=fun h0 h1=>il fun h=>nz [↑a,↑b] [(w0,w1),(w1,.n 1048576),(.a (.n 1048576) (.n 1),w0)] rfl (zl h0) (zl h1) h
theorem o174:a≤b→b≤c→c≤1048576→(↑a:Int)≤1048576:=fun h0 h1 h2=>il fun h=>nz [↑a,↑b,↑c] [(w0,w1),(w1,w2),(w2,.n 1048576),(.a (.n 1048576) (.n 1),w0)] rfl (zl h0) (zl h1) (zl h2) h
theorem o175:a≤1048576→a≤1048576:=fun h0=>nl fun h=>no [a] [(v0,.n 1048576),(.s (.n 1048576),v0)] rfl h0 h
theorem o176:a≤1048576→b≤a→(↑b:Int)≤1048576:=fun h0 h1=>il fun h=>nz [↑a,↑b] [(w0,.n 1048576),(w1,w0),(.a (.n 1048576) (.n 1),w1)] rfl (zl h0) (zl h1) h
theorem o177:¬a+1<a:=fun h=>no [a] [(.s (.s v0),v0)] rfl h
theorem o178:a<b→b-(b-a)=a:=fun h0=>an (nl fun h=>no [a,b,(b-(b-a)),(b-a)] [(.s v0,v2),(v1,.a v3 v0),(.a v2 v3,v1)] rfl h (sb b a) (sc (nl fun u=>no [a,b,(b-(b-a)),(b-a)] [(v3,v1),(.s v1,v3)] rfl (sl b a) u))) (nl fun h=>no [a,b,(b-(b-a)),(b-a)] [(.s v2,v0),(v1,.a v2 v3),(.a v3 v0,v1)] rfl h (sb b (b-a)) (sc (nl fun u=>no [a,b,(b-(b-a)),(b-a)] [(.s v0,v1),(.s v1,v0)] rfl h0 u)))
theorem o179:a+b<c→b+1≤c-a:=fun h0=>nl fun h=>no [a,b,c,(c-a)] [(.s (.a v0 v1),v2),(.s v3,.s v1),(v2,.a v3 v0)] rfl h0 h (sb c a)
theorem o180:a-b-1=a-(b+1):=Nat.sub_sub a b 1
theorem o181:Int.toNat ((↑a:Int)-1)=a-1:=Int.toNat_sub a 1
theorem o182:a≤b→(↑a:Int)-1≤(↑b:Int):=fun h0=>il fun h=>nz [↑a,↑b] [(w0,w1),(.a w1 (.n 1),.s w0 (.n 1))] rfl (zl h0) h
theorem o183:0<a→0≤(↑a:Int)-1:=fun h0=>il fun h=>nz [↑a] [(.a (.n 0) (.n 1),w0),(.a (.s w0 (.n 1)) (.n 1),.n 0)] rfl (zl h0) h
theorem o184:6<14:=nt fun h=>no [] [(.n 14,.n 6)] rfl h
theorem o185:a≤b→a-c≤b:=fun h0=>nl fun h=>no [a,b,c,(a-c)] [(v0,v1),(.s v1,v3),(v3,v0)] rfl h0 h (sl a c)
theorem o186:a+b<c→0<c-b:=fun h0=>nt fun h=>no [a,b,c,(c-b)] [(.s (.a v0 v1),v2),(v3,.n 0),(v2,.a v3 v1)] rfl h0 h (sb c b)
theorem o187:a+b<c→c-b-1+1=c-b:=fun h0=>an (nl fun h=>no [a,b,c,(c-b),((c-b)-1)] [(.s v3,.s v4),(.s v4,v3)] rfl h (sc (nl fun u=>no [a,b,c,(c-b),((c-b)-1)] [(.s (.a v0 v1),v2),(v2,.a v3 v1),(.s v3,.n 1)] rfl h0 (sb c b) u))) (nl fun h=>no [a,b,c,((c-b)-1),(c-b)] [(.s (.s v3),v4),(v4,.s v3)] rfl h (sb (c-b) 1))
theorem o188:a≤b→c+d<a→a-d-1<b:=fun h0 h1=>nt fun h=>no [a,b,c,d,((a-d)-1),(a-d)] [(v0,v1),(v1,v4),(v5,v0),(.s v4,v5)] rfl h0 h (sl a d) (sc (nl fun u=>no [a,b,c,d,((a-d)-1),(a-d)] [(.s (.a v2 v3),v0),(v0,.a v5 v3),(.s v5,.n 1)] rfl h1 (sb a d) u))
theorem o189:a≤1048576→(↑a:Int)≤1048576:=fun h0=>il fun h=>nz [↑a] [(w0,.n 1048576),(.a (.n 1048576) (.n 1),w0)] rfl (zl h0) h
theorem o190:-1048576≤(↑a:Int):=il fun h=>nz [↑a] [(.a w0 (.n 1),.g (.n 1048576)),(.n 0,w0)] rfl h (nn a)
theorem o191:a<b→b≤1048576→(↑a:Int)≤1048576:=fun h0 h1=>il fun h=>nz [↑a,↑b] [(.a w0 (.n 1),w1),(w1,.n 1048576),(.a (.n 1048576) (.n 1),w0)] rfl (zl h0) (zl h1) h
theorem o192:a≤b→b≤c→c+5≤d→a≤d:=fun h0 h1 h2=>nl fun h=>no [a,b,c,d] [(v0,v1),(v1,v2),(.a v2 (.n 5),v3),(.s v3,v0)] rfl h0 h1 h2 h
theorem o193:a<b→c≤a→c+1≤b:=fun h0 h1=>nl fun h=>no [a,b,c] [(.s v0,v1),(v2,v0),(.s v1,.s v2)] rfl h0 h1 h
theorem o194:a<b-c→c+a<b:=fun h0=>nt fun h=>(to b c).elim (fun u=>no [a,b,c,(b-c)] [(.s v0,v3),(v3,.n 0)] rfl h0 (le' (sz u))) (fun u=>no [a,b,c,(b-c)] [(.s v0,v3),(v1,.a v2 v0),(.a v3 v2,v1)] rfl h0 h (sc (nl fun uv=>no [a,b,c,(b-c)] [(v2,v1),(.s v1,v2)] rfl u uv)))
theorem o195:a<b→b≤c→a<c:=fun h0 h1=>nt fun h=>no [a,b,c] [(.s v0,v1),(v1,v2),(v2,v0)] rfl h0 h1 h
theorem o196:a<b→¬(↑b:Int)=0:=fun h0=>fun h=>nz [↑a,↑b] [(.a w0 (.n 1),w1),(w1,.n 0),(.n 0,w0)] rfl (zl h0) (Int.le_of_eq h) (nn a)
theorem o197:1≤9*a+20:=nl fun h=>no [a] [(.s (.a (.m 9 v0) (.n 20)),.n 1)] rfl h
theorem o198:a<b→1≤b-a:=fun h0=>nl fun h=>no [a,b,(b-a)] [(.s v0,v1),(.s v2,.n 1),(v1,.a v2 v0)] rfl h0 h (sb b a)
theorem o199:a≤1048576→a≤4294967295:=fun h0=>nl fun h=>no [a] [(v0,.n 1048576),(.s (.n 4294967295),v0)] rfl h0 h
theorem o200:a+5≤1048576→a-b≤1048576:=fun h0=>nl fun h=>no [a,b,(a-b)] [(.a v0 (.n 5),.n 1048576),(.s (.n 1048576),v2),(v2,v0)] rfl h0 h (sl a b)
theorem o201:a<b→a+(b-1-a)=b-1:=fun h0=>an (nl fun h=>no [a,b,(b-1),((b-1)-a)] [(.s v2,.a v0 v3),(.a v3 v0,v2)] rfl h (sc (nl fun u=>no [a,b,(b-1),((b-1)-a)] [(.s v0,v1),(v1,.s v2),(.s v2,v0)] rfl h0 (sb b 1) u))) (nl fun h=>no [a,b,((b-1)-a),(b-1)] [(.s (.a v0 v2),v3),(v3,.a v2 v0)] rfl h (sb (b-1) a))
theorem o202:a<b→0=b→False:=fun h0 h1=>no [a,b] [(.s v0,v1),(v1,.n 0)] rfl h0 (le' h1.symm)
theorem o203:a≤b→b≤c→a+(min b c-a)=b:=fun h k=>(congrArg (fun t=>a+(t-a)) (Nat.min_eq_left k)).trans (Nat.add_sub_cancel' h)
theorem o204:20*a+b+36≤20*a+b+40:=nl fun h=>no [a,b] [(.s (.a (.a (.m 20 v0) v1) (.n 40)),.a (.a (.m 20 v0) v1) (.n 36))] rfl h
theorem o205:a+3*b+20<16777216→a+1+0<16777216:=fun h0=>nt fun h=>no [a,b] [(.s (.a (.a v0 (.m 3 v1)) (.n 20)),.n 16777216),(.n 16777216,.a (.s v0) (.n 0))] rfl h0 h
theorem o206:a=b-c→20*a+(d+1+1)+30+1≤20*b+d+34:=fun h0=>nl fun h=>no [a,b,c,d,(b-c)] [(.m 20 v0,.m 20 v4),(.s (.a (.a (.m 20 v1) v3) (.n 34)),.s (.a (.a (.m 20 v0) (.s (.s v3))) (.n 30))),(.m 20 v4,.m 20 v1)] rfl (Nat.mul_le_mul_left 20 (le' h0)) h (Nat.mul_le_mul_left 20 (sl b c))
theorem o207:a+3*b+20<16777216→c=b-d→a+1+1+3*c+12<16777216:=fun h0 h1=>nt fun h=>no [a,b,c,d,(b-d)] [(.s (.a (.a v0 (.m 3 v1)) (.n 20)),.n 16777216),(.m 3 v2,.m 3 v4),(.n 16777216,.a (.a (.s (.s v0)) (.m 3 v2)) (.n 12)),(.m 3 v4,.m 3 v1)] rfl h0 (Nat.mul_le_mul_left 3 (le' h1)) h (Nat.mul_le_mul_left 3 (sl b d))
theorem o208:a+3*b+20<16777216→c=b-d→-1+(↑c:Int)<4294967290:=fun h0 h1=>it fun h=>nz [↑a,↑b,↑c,↑(b-d),↑d] [(.a (.a (.a w0 (.m 3 w1)) (.n 20)) (.n 1),.n 16777216),(w2,w3),(w2,w3),(w2,w3),(.n 4294967290,.a (.g (.n 1)) w2),(.n 4294967290,.a (.g (.n 1)) w2),(.n 4294967290,.a (.g (.n 1)) w2),(w3,w1),(w3,w1),(w3,w1),(.n 0,w0)] rfl (zl h0) (zl (le' h1)) (zl (le' h1)) (zl (le' h1)) h h h (zl (sl b d)) (zl (sl b d)) (zl (sl b d)) (nn a)
theorem o209:-1≤-1:=il fun h=>nz [] [(.a (.g (.n 1)) (.n 1),.g (.n 1))] rfl h
theorem o210:a+1+(b+c)=a+1+b+c:=an (nl fun h=>no [a,b,c] [(.s (.a (.a (.s v0) v1) v2),.a (.s v0) (.a v1 v2))] rfl h) (nl fun h=>no [a,b,c] [(.s (.a (.s v0) (.a v1 v2)),.a (.a (.s v0) v1) v2)] rfl h)
theorem o211:a+3*b+20<16777216→a+0<16777216:=fun h0=>nt fun h=>no [a,b] [(.s (.a (.a v0 (.m 3 v1)) (.n 20)),.n 16777216),(.n 16777216,.a v0 (.n 0))] rfl h0 h
theorem o212:a+3*b+20<16777216→b≤4294967295:=fun h0=>nl fun h=>no [a,b] [(.s (.a (.a v0 (.m 3 v1)) (.n 20)),.n 16777216),(.s (.n 4294967295),v1)] rfl h0 h
theorem o213:20*a+b+38≤20*a+b+40:=nl fun h=>no [a,b] [(.s (.a (.a (.m 20 v0) v1) (.n 40)),.a (.a (.m 20 v0) v1) (.n 38))] rfl h
theorem o214:a+1+1+1+(b+c)=a+1+1+1+b+c:=an (nl fun h=>no [a,b,c] [(.s (.a (.a (.s (.s (.s v0))) v1) v2),.a (.s (.s (.s v0))) (.a v1 v2))] rfl h) (nl fun h=>no [a,b,c] [(.s (.a (.s (.s (.s v0))) (.a v1 v2)),.a (.a (.s (.s (.s v0))) v1) v2)] rfl h)
theorem o215:a+8≤a+9:=nl fun h=>no [a] [(.s (.a v0 (.n 9)),.a v0 (.n 8))] rfl h
theorem o216:a+9+1≤20*b+a+30:=nl fun h=>no [a,b] [(.s (.a (.a (.m 20 v1) v0) (.n 30)),.s (.a v0 (.n 9)))] rfl h
theorem o217:a+1+5≤a+6:=nl fun h=>no [a] [(.s (.a v0 (.n 6)),.a (.s v0) (.n 5))] rfl h
theorem o218:a+3*b+12<16777216→a+1+1<16777216:=fun h0=>nt fun h=>no [a,b] [(.s (.a (.a v0 (.m 3 v1)) (.n 12)),.n 16777216),(.n 16777216,.s (.s v0))] rfl h0 h
theorem o219:a+3*b+12<16777216→a+12<16777216:=fun h0=>nt fun h=>no [a,b] [(.s (.a (.a v0 (.m 3 v1)) (.n 12)),.n 16777216),(.n 16777216,.a v0 (.n 12))] rfl h0 h
theorem o220:20*a+b+35+1≤20*(a+1+1)+b+30:=nl fun h=>no [a,b] [(.s (.a (.a (.m 20 (.s (.s v0))) v1) (.n 30)),.s (.a (.a (.m 20 v0) v1) (.n 35)))] rfl h
theorem o221:a=b-c→20*a+(d+1+1)+30≤20*b+d+32:=fun h0=>nl fun h=>no [a,b,c,d,(b-c)] [(.m 20 v0,.m 20 v4),(.s (.a (.a (.m 20 v1) v3) (.n 32)),.a (.a (.m 20 v0) (.s (.s v3))) (.n 30)),(.m 20 v4,.m 20 v1)] rfl (Nat.mul_le_mul_left 20 (le' h0)) h (Nat.mul_le_mul_left 20 (sl b c))
theorem o222:a+3*(b+1+1)+12<16777216→c=b-d→a+1+1+3*c+12<16777216:=fun h0 h1=>nt fun h=>no [a,b,c,d,(b-d)] [(.s (.a (.a v0 (.m 3 (.s (.s v1)))) (.n 12)),.n 16777216),(.m 3 v2,.m 3 v4),(.n 16777216,.a (.a (.s (.s v0)) (.m 3 v2)) (.n 12)),(.m 3 v4,.m 3 v1)] rfl h0 (Nat.mul_le_mul_left 3 (le' h1)) h (Nat.mul_le_mul_left 3 (sl b d))
theorem o223:a<a+1+1+b:=nt fun h=>no [a,b] [(.a (.s (.s v0)) v1,v0)] rfl h
theorem o224 {a:Int}{b c d:Nat}:a+(↑(b+1+1):Int)<4294967290→c=b-d→a+1+(↑c:Int)<4294967290:=fun h0 h1=>it fun h=>nz [a,↑b,↑c,↑(b-d),↑d] [(.a (.a w0 (.a (.a w1 (.n 1)) (.n 1))) (.n 1),.n 4294967290),(w2,w3),(.n 4294967290,.a (.a w0 (.n 1)) w2),(w3,w1)] rfl h0 (zl (le' h1)) h (zl (sl b d))
theorem o225 {a:Int}:-1≤a→-1≤a+1:=fun h0=>il fun h=>nz [a] [(.g (.n 1),w0),(.a (.a w0 (.n 1)) (.n 1),.g (.n 1))] rfl h0 h
theorem o226:a+1+1<b+1→c=a-d→c<b:=fun h0 h1=>nt fun h=>no [a,b,c,d,(a-d)] [(.s (.s (.s v0)),.s v1),(v2,v4),(v1,v2),(v4,v0)] rfl h0 (le' h1) h (sl a d)
theorem o227:a+1+1+(b+c)=a+1+1+b+c:=an (nl fun h=>no [a,b,c] [(.s (.a (.a (.s (.s v0)) v1) v2),.a (.s (.s v0)) (.a v1 v2))] rfl h) (nl fun h=>no [a,b,c] [(.s (.a (.s (.s v0)) (.a v1 v2)),.a (.a (.s (.s v0)) v1) v2)] rfl h)
theorem o228:a+3*(b+1+1)+12<16777216→a+1+0<16777216:=fun h0=>nt fun h=>no [a,b] [(.s (.a (.a v0 (.m 3 (.s (.s v1)))) (.n 12)),.n 16777216),(.n 16777216,.a (.s v0) (.n 0))] rfl h0 h
theorem o229 {a:Int}{b:Nat}:-1≤a→a+(↑(b+1+1):Int)<4294967290→b≤4294967295:=fun h0 h1=>nl fun h=>nz [a,↑b] [(.g (.n 1),w0),(.a (.a w0 (.a (.a w1 (.n 1)) (.n 1))) (.n 1),.n 4294967290),(.a (.n 4294967295) (.n 1),w1)] rfl h0 h1 (zl h)
theorem o230:a+(2+b)=a+1+1+b:=an (nl fun h=>no [a,b] [(.s (.a (.s (.s v0)) v1),.a v0 (.a (.n 2) v1))] rfl h) (nl fun h=>no [a,b] [(.s (.a v0 (.a (.n 2) v1)),.a (.s (.s v0)) v1)] rfl h)
theorem o231 {a:Int}{b:Nat}:a+(↑b:Int)<4294967290→a+1<(↑4294967295:Int):=fun h0=>it fun h=>nz [a,↑b] [(.a (.a w0 w1) (.n 1),.n 4294967290),(.n 4294967295,.a w0 (.n 1)),(.n 0,w1)] rfl h0 h (nn b)
theorem o232 {a:Int}:-1≤a→¬a+1<(↑0:Int):=fun h0=>fun h=>nz [a] [(.g (.n 1),w0),(.a (.a w0 (.n 1)) (.n 1),.n 0)] rfl h0 h
theorem o233:min 1 (a+1)=1:=Nat.min_eq_left (Nat.le_add_left 1 a)
theorem o234:a=b+1→20*b+c+42+2≤20*a+c+30:=fun h0=>nl fun h=>no [a,b,c] [(.m 20 (.s v1),.m 20 v0),(.s (.a (.a (.m 20 v0) v2) (.n 30)),.a (.a (.a (.m 20 v1) v2) (.n 42)) (.n 2))] rfl (Nat.mul_le_mul_left 20 (le' h0.symm)) h
theorem o235:a+3*b+12<16777216→a+2<16777216:=fun h0=>nt fun h=>no [a,b] [(.s (.a (.a v0 (.m 3 v1)) (.n 12)),.n 16777216),(.n 16777216,.a v0 (.n 2))] rfl h0 h
theorem o236 {a:Int}{b:Nat}:a+(↑b:Int)<4294967290→a<4294967290:=fun h0=>it fun h=>nz [a,↑b] [(.a (.a w0 w1) (.n 1),.n 4294967290),(.n 4294967290,w0),(.n 0,w1)] rfl h0 h (nn b)
theorem o237:a+3*b+12<16777216→a+1+1+0<16777216:=fun h0=>nt fun h=>no [a,b] [(.s (.a (.a v0 (.m 3 v1)) (.n 12)),.n 16777216),(.n 16777216,.a (.s (.s v0)) (.n 0))] rfl h0 h
theorem o238:20*a+b+37≤20*a+b+38:=nl fun h=>no [a,b] [(.s (.a (.a (.m 20 v0) v1) (.n 38)),.a (.a (.m 20 v0) v1) (.n 37))] rfl h
theorem o239:a+27+2≤20*(b+1+1+1)+a+30:=nl fun h=>no [a,b] [(.s (.a (.a (.m 20 (.s (.s (.s v1)))) v0) (.n 30)),.a (.a v0 (.n 27)) (.n 2))] rfl h
theorem o240:a+3*b+12<16777216→a+7<16777216:=fun h0=>nt fun h=>no [a,b] [(.s (.a (.a v0 (.m 3 v1)) (.n 12)),.n 16777216),(.n 16777216,.a v0 (.n 7))] rfl h0 h
theorem o241:20*a+b+37+2≤20*(a+1+1)+b+30:=nl fun h=>no [a,b] [(.s (.a (.a (.m 20 (.s (.s v0))) v1) (.n 30)),.a (.a (.a (.m 20 v0) v1) (.n 37)) (.n 2))] rfl h
theorem o242 {a:Int}{b:Nat}:a+(↑(b+1+1):Int)<4294967290→a<4294967290:=fun h0=>it fun h=>nz [a,↑b] [(.a (.a w0 (.a (.a w1 (.n 1)) (.n 1))) (.n 1),.n 4294967290),(.n 4294967290,w0),(.n 0,w1)] rfl h0 h (nn b)
theorem o243:a<a+1+1:=nt fun h=>no [a] [(.s (.s v0),v0)] rfl h
theorem o244:a+23+2≤20*b+a+30:=nl fun h=>no [a,b] [(.s (.a (.a (.m 20 v1) v0) (.n 30)),.a (.a v0 (.n 23)) (.n 2))] rfl h
theorem o245:a+22+2≤20*b+a+30:=nl fun h=>no [a,b] [(.s (.a (.a (.m 20 v1) v0) (.n 30)),.a (.a v0 (.n 22)) (.n 2))] rfl h
theorem o246:a=b-c→20*a+(d+1+1+1)+30≤20*b+d+33:=fun h0=>nl fun h=>no [a,b,c,d,(b-c)] [(.m 20 v0,.m 20 v4),(.s (.a (.a (.m 20 v1) v3) (.n 33)),.a (.a (.m 20 v0) (.s (.s (.s v3)))) (.n 30)),(.m 20 v4,.m 20 v1)] rfl (Nat.mul_le_mul_left 20 (le' h0)) h (Nat.mul_le_mul_left 20 (sl b c))
theorem o247:a+3*b+12<16777216→c<b→d=c-e→a+1+1+1+3*d+12<16777216:=fun h0 h1 h2=>nt fun h=>no [a,b,c,d,e,(c-e)] [(.s (.a (.a v0 (.m 3 v1)) (.n 12)),.n 16777216),(.m 3 (.s v2),.m 3 v1),(.m 3 v3,.m 3 v5),(.n 16777216,.a (.a (.s (.s (.s v0))) (.m 3 v3)) (.n 12)),(.m 3 v5,.m 3 v2)] rfl h0 (Nat.mul_le_mul_left 3 h1) (Nat.mul_le_mul_left 3 (le' h2)) h (Nat.mul_le_mul_left 3 (sl c e))
theorem o248:a<b→a<b+c:=fun h0=>nt fun h=>no [a,b,c] [(.s v0,v1),(.a v1 v2,v0)] rfl h0 h
theorem o249 {a:Int}{b c d e:Nat}:a+(↑b:Int)<4294967290→c<b→d=c-e→a+1+(↑d:Int)<4294967290:=fun h0 h1 h2=>it fun h=>nz [a,↑b,↑c,↑d,↑(c-e),↑e] [(.a (.a w0 w1) (.n 1),.n 4294967290),(.a w2 (.n 1),w1),(w3,w4),(.n 4294967290,.a (.a w0 (.n 1)) w3),(w4,w2)] rfl h0 (zl h1) (zl (le' h2)) h (zl (sl c e))
theorem o250:a<b+1→c<a→d=c-e→d<b:=fun h0 h1 h2=>nt fun h=>no [a,b,c,d,e,(c-e)] [(.s v0,.s v1),(.s v2,v0),(v3,v5),(v1,v3),(v5,v2)] rfl h0 h1 (le' h2) h (sl c e)
theorem o251:a+(b+c)=a+b+c:=an (nl fun h=>no [a,b,c] [(.s (.a (.a v0 v1) v2),.a v0 (.a v1 v2))] rfl h) (nl fun h=>no [a,b,c] [(.s (.a v0 (.a v1 v2)),.a (.a v0 v1) v2)] rfl h)
theorem o252:a+3*b+12<16777216→c<b→c≤4294967295:=fun h0 h1=>nl fun h=>no [a,b,c] [(.s (.a (.a v0 (.m 3 v1)) (.n 12)),.n 16777216),(.s v2,v1),(.s (.n 4294967295),v2)] rfl h0 h1 h
theorem o253 {a:Int}:a<4294967290→a+1<(↑4294967295:Int):=fun h0=>it fun h=>nz [a] [(.a w0 (.n 1),.n 4294967290),(.n 4294967295,.a w0 (.n 1))] rfl h0 h
theorem o254:a+1+16≤a+17:=nl fun h=>no [a] [(.s (.a v0 (.n 17)),.a (.s v0) (.n 16))] rfl h
theorem o255:a+1+1+1≤a+3:=nl fun h=>no [a] [(.s (.a v0 (.n 3)),.s (.s (.s v0)))] rfl h
theorem o256:a+6<16777216→a+(4+1)<16777216:=fun h0=>nt fun h=>no [a] [(.s (.a v0 (.n 6)),.n 16777216),(.n 16777216,.a v0 (.s (.n 4)))] rfl h0 h
theorem o257:a+6+3≤a+14:=nl fun h=>no [a] [(.s (.a v0 (.n 14)),.a (.a v0 (.n 6)) (.n 3))] rfl h
theorem o258:a+1≤a+3:=nl fun h=>no [a] [(.s (.a v0 (.n 3)),.s v0)] rfl h
theorem o259:a+2≤a+3:=nl fun h=>no [a] [(.s (.a v0 (.n 3)),.a v0 (.n 2))] rfl h
theorem o260:a+1+1+1+1≤a+8:=nl fun h=>no [a] [(.s (.a v0 (.n 8)),.s (.s (.s (.s v0))))] rfl h
theorem o261:a+6<16777216→a+(3+1+1)<16777216:=fun h0=>nt fun h=>no [a] [(.s (.a v0 (.n 6)),.n 16777216),(.n 16777216,.a v0 (.s (.s (.n 3))))] rfl h0 h
theorem o262:a+b<16777216→a<16777216:=fun h0=>nt fun h=>no [a,b] [(.s (.a v0 v1),.n 16777216),(.n 16777216,v0)] rfl h0 h
theorem o263:a+(b+1)<16777216→a+1+b<16777216:=fun h0=>nt fun h=>no [a,b] [(.s (.a v0 (.s v1)),.n 16777216),(.n 16777216,.a (.s v0) v1)] rfl h0 h
theorem o264:1+(a+b)=a+1+b:=an (nl fun h=>no [a,b] [(.s (.a (.s v0) v1),.a (.n 1) (.a v0 v1))] rfl h) (nl fun h=>no [a,b] [(.s (.a (.n 1) (.a v0 v1)),.a (.s v0) v1)] rfl h)
theorem o265:20*a+55≤20*a+60:=nl fun h=>no [a] [(.s (.a (.m 20 v0) (.n 60)),.a (.m 20 v0) (.n 55))] rfl h
theorem o266:20*a+51≤20*a+60:=nl fun h=>no [a] [(.s (.a (.m 20 v0) (.n 60)),.a (.m 20 v0) (.n 51))] rfl h
theorem o267:20*a+42+3≤20*a+50:=nl fun h=>no [a] [(.s (.a (.m 20 v0) (.n 50)),.a (.a (.m 20 v0) (.n 42)) (.n 3))] rfl h
theorem o268:20*a+(0+1)+40≤20*a+41:=nl fun h=>no [a] [(.s (.a (.m 20 v0) (.n 41)),.a (.a (.m 20 v0) (.s (.n 0))) (.n 40))] rfl h
theorem o269:3*a+30<16777216→0+1+3*a+20<16777216:=fun h0=>nt fun h=>no [a] [(.s (.a (.m 3 v0) (.n 30)),.n 16777216),(.n 16777216,.a (.a (.s (.n 0)) (.m 3 v0)) (.n 20))] rfl h0 h
theorem o270:20*a+(0+1)+40≤20*(a+1+1)+50:=nl fun h=>no [a] [(.s (.a (.m 20 (.s (.s v0))) (.n 50)),.a (.a (.m 20 v0) (.s (.n 0))) (.n 40))] rfl h
theorem o271:3*(a+1+1)+30<16777216→0+1+3*a+20<16777216:=fun h0=>nt fun h=>no [a] [(.s (.a (.m 3 (.s (.s v0))) (.n 30)),.n 16777216),(.n 16777216,.a (.a (.s (.n 0)) (.m 3 v0)) (.n 20))] rfl h0 h
theorem o272:1≤20*a+60:=nl fun h=>no [a] [(.s (.a (.m 20 v0) (.n 60)),.n 1)] rfl h
theorem o273:a≤b→b+5≤1048576→c+1=a-d→3*c+30<16777216:=fun h0 h1 h2=>nt fun h=>no [a,b,c,d,(a-d)] [(.m 3 v0,.m 3 v1),(.m 3 (.a v1 (.n 5)),.m 3 (.n 1048576)),(.m 3 (.s v2),.m 3 v4),(.n 16777216,.a (.m 3 v2) (.n 30)),(.m 3 v4,.m 3 v0)] rfl (Nat.mul_le_mul_left 3 h0) (Nat.mul_le_mul_left 3 h1) (Nat.mul_le_mul_left 3 (le' h2)) h (Nat.mul_le_mul_left 3 (sl a d))
theorem o274:a≤b→b+5≤1048576→a-c≤4294967295:=fun h0 h1=>nl fun h=>no [a,b,c,(a-c)] [(v0,v1),(.a v1 (.n 5),.n 1048576),(.s (.n 4294967295),v3),(v3,v0)] rfl h0 h1 h (sl a c)
theorem o275:a≤b→min a b-c=a-c:=fun h=>congrArg (·-c) (Nat.min_eq_left h)
theorem o276:a<b→0≤a∧a<0+(b+1-0):=fun h0=>⟨nl fun h=>no [a,b] [(.s v0,.n 0)] rfl h,nt fun h=>no [a,b,((b+1)-0)] [(.s v0,v1),(.a (.n 0) v2,v0),(.s v1,.a v2 (.n 0))] rfl h0 h (sb (b+1) 0)⟩
theorem o277:a+(b+1)-1=a+b:=an (nl fun h=>no [a,b,((a+(b+1))-1)] [(.s (.a v0 v1),v2),(.s v2,.a v0 (.s v1))] rfl h (sc (nl fun u=>no [a,b,((a+(b+1))-1)] [(.s (.a v0 (.s v1)),.n 1)] rfl u))) (nl fun h=>no [a,b,((a+(b+1))-1)] [(.s v2,.a v0 v1),(.a v0 (.s v1),.s v2)] rfl h (sb (a+(b+1)) 1))
theorem o278:a+b<c→(↑(a+(b+1)):Int)-1<(↑c:Int):=fun h0=>it fun h=>nz [↑a,↑b,↑c] [(.a (.a w0 w1) (.n 1),w2),(w2,.s (.a w0 (.a w1 (.n 1))) (.n 1))] rfl (zl h0) h
theorem o279:-(↑a:Int)≤(↑(b+(c+1)):Int)-1:=il fun h=>nz [↑b,↑c,↑a] [(.a (.s (.a w0 (.a w1 (.n 1))) (.n 1)) (.n 1),.g w2),(.n 0,w0),(.n 0,w1),(.n 0,w2)] rfl h (nn b) (nn c) (nn a)
theorem o280:(↑(a+(b+1)):Int)-1=(↑(a+b):Int):=Int.le_antisymm (il fun h=>nz [↑a,↑b] [(.a (.a w0 w1) (.n 1),.s (.a w0 (.a w1 (.n 1))) (.n 1))] rfl h) (il fun h=>nz [↑a,↑b] [(.a (.s (.a w0 (.a w1 (.n 1))) (.n 1)) (.n 1),.a w0 w1)] rfl h)
theorem o281:(↑a:Int)≤(↑(a+b):Int)-1→b=b-1+1:=fun h0=>Nat.le_antisymm (nl fun h=>nz [↑a,↑b,↑(b-1)] [(.a (.a w2 (.n 1)) (.n 1),w1),(w1,.a w2 (.n 1))] rfl (zl h) (zl (sb b 1))) (nl fun h=>nz [↑a,↑b,↑(b-1)] [(.a w1 (.n 1),.a w2 (.n 1)),(.a w2 (.n 1),w1)] rfl (zl h) (zl (sc (nl fun u=>nz [↑a,↑b,↑(b-1)] [(w0,.s (.a w0 w1) (.n 1)),(.a w1 (.n 1),.n 1)] rfl h0 (zl u)))))
theorem o282:¬(↑a:Int)≤(↑(a+b):Int)-1→b=0:=fun h0=>Nat.le_antisymm (nl fun h=>nz [↑a,↑b] [(.a (.s (.a w0 w1) (.n 1)) (.n 1),w0),(.a (.n 0) (.n 1),w1)] rfl (it h0) (zl h)) (nl fun h=>nz [↑a,↑b] [(.a w1 (.n 1),.n 0),(.n 0,w1)] rfl (zl h) (nn b))
theorem o283:a+b-1<c→(↑(a+b):Int)-1<(↑c:Int):=fun h0=>it fun h=>nz [↑((a+b)-1),↑a,↑b,↑c] [(.a w0 (.n 1),w3),(w3,.s (.a w1 w2) (.n 1)),(.a w1 w2,.a w0 (.n 1))] rfl (zl h0) h (zl (sb (a+b) 1))
theorem o284:(↑(a+b):Int)-1=(↑(a+b-1):Int)→-(↑c:Int)≤(↑(a+b):Int)-1:=fun h0=>il fun h=>nz [↑a,↑b,↑((a+b)-1),↑c] [(w2,.s (.a w0 w1) (.n 1)),(.a (.s (.a w0 w1) (.n 1)) (.n 1),.g w3),(.n 0,w2),(.n 0,w3)] rfl (Int.le_of_eq h0.symm) h (nn ((a+b)-1)) (nn c)
theorem o285:0<a→(↑(b+a):Int)-1=(↑(b+a-1):Int):=fun h0=>Int.le_antisymm (il fun h=>nz [↑a,↑((b+a)-1),↑b] [(.a w1 (.n 1),.s (.a w2 w0) (.n 1)),(.a w2 w0,.a w1 (.n 1))] rfl h (zl (sb (b+a) 1))) (il fun h=>nz [↑a,↑b,↑((b+a)-1)] [(.a (.s (.a w1 w0) (.n 1)) (.n 1),w2),(.a w2 (.n 1),.a w1 w0)] rfl h (zl (sc (nl fun u=>nz [↑a,↑b,↑((b+a)-1)] [(.a (.n 0) (.n 1),w0),(.a (.a w1 w0) (.n 1),.n 1),(.n 0,w1)] rfl (zl h0) (zl u) (nn b)))))
theorem o286:0<a→(↑b:Int)≤(↑(b+a):Int)-1:=fun h0=>il fun h=>nz [↑a,↑b] [(.a (.n 0) (.n 1),w0),(.a (.s (.a w1 w0) (.n 1)) (.n 1),w1)] rfl (zl h0) h
theorem o287:¬(↑a:Int)≤(↑(a+0):Int)-1:=fun h=>nz [↑a] [(w0,.s (.a w0 (.n 0)) (.n 1))] rfl h
theorem o288:a+b=c-d→0<b→¬(↑c:Int)≤(↑(d+a):Int):=by intros;omega
theorem o289:a=b-c→(↑b:Int)≤(↑(c+a):Int):=fun h0=>il fun h=>nz [↑a,↑(b-c),↑b,↑c] [(w1,w0),(.a (.a w3 w0) (.n 1),w2),(w2,.a w1 w3)] rfl (zl (le' h0.symm)) h (zl (sb b c))
theorem o290:a<b→0=b-a→False:=fun h0 h1=>no [a,b,(b-a)] [(.s v0,v1),(v2,.n 0),(v1,.a v2 v0)] rfl h0 (le' h1.symm) (sb b a)
theorem o291:(↑a:Int)+1=(↑(a+1):Int):=Int.le_antisymm (il fun h=>nz [↑a] [(.a (.a w0 (.n 1)) (.n 1),.a w0 (.n 1))] rfl h) (il fun h=>nz [↑a] [(.a (.a w0 (.n 1)) (.n 1),.a w0 (.n 1))] rfl h)
theorem o292:(↑(a+2):Int)=(↑(a+1):Int)+1:=Int.le_antisymm (il fun h=>nz [↑a] [(.a (.a (.a w0 (.n 1)) (.n 1)) (.n 1),.a w0 (.n 2))] rfl h) (il fun h=>nz [↑a] [(.a (.a w0 (.n 2)) (.n 1),.a (.a w0 (.n 1)) (.n 1))] rfl h)
theorem o293:a+2≤b→a≤b:=fun h0=>nl fun h=>no [a,b] [(.a v0 (.n 2),v1),(.s v1,v0)] rfl h0 h
theorem o294:a+2≤b→a+(0+1)≤b:=fun h0=>nl fun h=>no [a,b] [(.a v0 (.n 2),v1),(.s v1,.a v0 (.s (.n 0)))] rfl h0 h
theorem o295:0<(↑(a+b+2):Int):=it fun h=>nz [↑a,↑b] [(.a (.a w0 w1) (.n 2),.n 0),(.n 0,w0),(.n 0,w1)] rfl h (nn a) (nn b)
theorem o296:a≤b→(↑a:Int)≤(↑b:Int):=fun h0=>il fun h=>nz [↑a,↑b] [(w0,w1),(.a w1 (.n 1),w0)] rfl (zl h0) h
theorem o297:(↑(a+(b+1)):Int)+1=(↑(a+b+2):Int):=Int.le_antisymm (il fun h=>nz [↑a,↑b] [(.a (.a (.a w0 w1) (.n 2)) (.n 1),.a (.a w0 (.a w1 (.n 1))) (.n 1))] rfl h) (il fun h=>nz [↑a,↑b] [(.a (.a (.a w0 (.a w1 (.n 1))) (.n 1)) (.n 1),.a (.a w0 w1) (.n 2))] rfl h)
theorem o298:a≤a+(b+1):=nl fun h=>no [a,b] [(.s (.a v0 (.s v1)),v0)] rfl h
theorem o299:a<b+(c+1)→a=b+(d+1)→d<c:=fun h0 h1=>nt fun h=>no [a,b,c,d] [(.s v0,.a v1 (.s v2)),(.a v1 (.s v3),v0),(v2,v3)] rfl h0 (le' h1.symm) h
theorem o300:a≤b→¬b=a→b=a+(b-a-1+1):=fun h0 h1=>an (nl fun h=>no [a,b,((b-a)-1),(b-a)] [(.s (.a v0 (.s v2)),v1),(v3,.s v2),(v1,.a v3 v0)] rfl h (sb (b-a) 1) (sb b a)) (nl fun h=>(ne h1).elim (fun u=>no [a,b,((b-a)-1),(b-a)] [(v0,v1),(.s v1,v0)] rfl h0 u) (fun u=>no [a,b,((b-a)-1),(b-a)] [(.s v1,.a v0 (.s v2)),(.s v2,v3),(.a v3 v0,v1)] rfl h (sc (nl fun uv=>no [a,b,((b-a)-1),(b-a)] [(.s v0,v1),(v1,.a v3 v0),(.s v3,.n 1)] rfl u (sb b a) uv)) (sc (nl fun uv=>no [a,b,((b-a)-1),(b-a)] [(v0,v1),(.s v1,v0)] rfl h0 uv))))
theorem o301:a+1<b+1→a<b:=fun h0=>nt fun h=>no [a,b] [(.s (.s v0),.s v1),(v1,v0)] rfl h0 h
theorem o302:a+2≤b→a-1≤b:=fun h0=>nl fun h=>no [a,b,(a-1)] [(.a v0 (.n 2),v1),(.s v1,v2),(v2,v0)] rfl h0 h (sl a 1)
theorem o303:a≤b→¬(↑a:Int)<(↑b:Int)→a=b:=fun h0 h1=>Nat.le_antisymm (nl fun h=>nz [↑a,↑b] [(w0,w1),(.a w1 (.n 1),w0)] rfl (zl h0) (zl h)) (nl fun h=>nz [↑a,↑b] [(w1,w0),(.a w0 (.n 1),w1)] rfl (il h1) (zl h))
theorem o304:2*a+10≤b→c≤a→d≤2*e+1→e+f+g=c→d+2≤b:=fun h0 h1 h2 h3=>nl fun h=>no [a,b,c,d,e,f,g] [(.a (.m 2 v0) (.n 10),v1),(v2,v0),(v2,v0),(v3,.s (.m 2 v4)),(.a (.a v4 v5) v6,v2),(.a (.a v4 v5) v6,v2),(.s v1,.a v3 (.n 2))] rfl h0 h1 h1 h2 (le' h3) (le' h3) h
theorem o305:2*a+10≤b→c≤a→d≤e→e+f+g=c→d+2≤b:=fun h0 h1 h2 h3=>nl fun h=>no [a,b,c,d,e,f,g] [(.a (.m 2 v0) (.n 10),v1),(v2,v0),(v2,v0),(v3,v4),(.a (.a v4 v5) v6,v2),(.a (.a v4 v5) v6,v2),(.s v1,.a v3 (.n 2))] rfl h0 h1 h1 h2 (le' h3) (le' h3) h
theorem o306:a+b<c→c≤d→a+b<d:=fun h0 h1=>nt fun h=>no [a,b,c,d] [(.s (.a v0 v1),v2),(v2,v3),(v3,.a v0 v1)] rfl h0 h1 h
theorem o307:a≤2*b+1→a≤2*(b+c)+1:=fun h0=>nl fun h=>no [a,b,c] [(v0,.s (.m 2 v1)),(.s (.s (.m 2 (.a v1 v2))),v0)] rfl h0 h
theorem o308:a≤b→a≤b+c:=fun h0=>nl fun h=>no [a,b,c] [(v0,v1),(.s (.a v1 v2),v0)] rfl h0 h
theorem o309:a+b+c=d→0<c→a+b<d:=fun h0 h1=>nt fun h=>no [a,b,c,d] [(.a (.a v0 v1) v2,v3),(.s (.n 0),v2),(v3,.a v0 v1)] rfl (le' h0) h1 h
theorem o310:a<b→c+d=b-a→a+c+d=b:=fun h0 h1=>an (nl fun h=>no [a,b,c,d,(b-a)] [(.a v2 v3,v4),(.s v1,.a (.a v0 v2) v3),(.a v4 v0,v1)] rfl (le' h1) h (sc (nl fun u=>no [a,b,c,d,(b-a)] [(.s v0,v1),(.s v1,v0)] rfl h0 u))) (nl fun h=>no [a,b,c,d,(b-a)] [(v4,.a v2 v3),(.s (.a (.a v0 v2) v3),v1),(v1,.a v4 v0)] rfl (le' h1.symm) h (sb b a))
theorem o311:a+b=c→a+b≤c:=fun h0=>nl fun h=>no [a,b,c] [(.a v0 v1,v2),(.s v2,.a v0 v1)] rfl (le' h0) h
theorem o312:a<b→c=b-a→a+c=b:=fun h0 h1=>an (nl fun h=>no [a,b,c,(b-a)] [(v2,v3),(.s v1,.a v0 v2),(.a v3 v0,v1)] rfl (le' h1) h (sc (nl fun u=>no [a,b,c,(b-a)] [(.s v0,v1),(.s v1,v0)] rfl h0 u))) (nl fun h=>no [a,b,c,(b-a)] [(v3,v2),(.s (.a v0 v2),v1),(v1,.a v3 v0)] rfl (le' h1.symm) h (sb b a))
theorem o313:a<b→a+(b-a-1)=b-1:=fun h0=>an (nl fun h=>no [a,b,(b-1),((b-a)-1),(b-a)] [(.s v2,.a v0 v3),(v1,.s v2),(.s v3,v4),(.a v4 v0,v1)] rfl h (sb b 1) (sc (nl fun u=>no [a,b,(b-1),((b-a)-1),(b-a)] [(.s v0,v1),(v1,.a v4 v0),(.s v4,.n 1)] rfl h0 (sb b a) u)) (sc (nl fun u=>no [a,b,(b-1),((b-a)-1),(b-a)] [(.s v0,v1),(.s v1,v0)] rfl h0 u))) (nl fun h=>no [a,b,((b-a)-1),(b-a),(b-1)] [(.s (.a v0 v2),v4),(v3,.s v2),(v1,.a v3 v0),(.s v4,v1)] rfl h (sb (b-a) 1) (sb b a) (sc (nl fun u=>no [a,b,((b-a)-1),(b-a),(b-1)] [(.s v0,v1),(.s v1,.n 1)] rfl h0 u)))
theorem o314:a<b→a+(b-a-1)<b:=fun h0=>nt fun h=>no [a,b,((b-a)-1),(b-a)] [(v1,.a v0 v2),(.s v2,v3),(.a v3 v0,v1)] rfl h (sc (nl fun u=>no [a,b,((b-a)-1),(b-a)] [(.s v0,v1),(v1,.a v3 v0),(.s v3,.n 1)] rfl h0 (sb b a) u)) (sc (nl fun u=>no [a,b,((b-a)-1),(b-a)] [(.s v0,v1),(.s v1,v0)] rfl h0 u))
theorem o315:a≤2*b+1→a≤2*(b+2)+1:=fun h0=>nl fun h=>no [a,b] [(v0,.s (.m 2 v1)),(.s (.s (.m 2 (.a v1 (.n 2)))),v0)] rfl h0 h
theorem o316:a≤b→a≤b+2:=fun h0=>nl fun h=>no [a,b] [(v0,v1),(.s (.a v1 (.n 2)),v0)] rfl h0 h
theorem o317:a+(b+1+1)=c→a+2≤c:=fun h0=>nl fun h=>no [a,b,c] [(.a v0 (.s (.s v1)),v2),(.s v2,.a v0 (.n 2))] rfl (le' h0) h
theorem o318:a≤2*b+1→a≤2*(b+1)+1:=fun h0=>nl fun h=>no [a,b] [(v0,.s (.m 2 v1)),(.s (.s (.m 2 (.s v1))),v0)] rfl h0 h
theorem o319:a+(0+1)=b→a+1≤b:=fun h0=>nl fun h=>no [a,b] [(.a v0 (.s (.n 0)),v1),(.s v1,.s v0)] rfl (le' h0) h
theorem o320:a≤b→1≤1+a∧1+a≤b+1:=fun h0=>⟨nl fun h=>no [a,b] [(.s (.a (.n 1) v0),.n 1)] rfl h,nl fun h=>no [a,b] [(v0,v1),(.s (.s v1),.a (.n 1) v0)] rfl h0 h⟩
theorem o321:a≤b→1≤3+a∧3+a≤b+1+1+1:=fun h0=>⟨nl fun h=>no [a,b] [(.s (.a (.n 3) v0),.n 1)] rfl h,nl fun h=>no [a,b] [(v0,v1),(.s (.s (.s (.s v1))),.a (.n 3) v0)] rfl h0 h⟩
theorem o322:0≤a+1+1:=nl fun h=>no [a] [(.s (.s (.s v0)),.n 0)] rfl h
theorem o323:a≤b→2+a≤b+1+1:=fun h0=>nl fun h=>no [a,b] [(v0,v1),(.s (.s (.s v1)),.a (.n 2) v0)] rfl h0 h
theorem o324:a≤b+1→1+a≤b+1+1:=fun h0=>nl fun h=>no [a,b] [(v0,.s v1),(.s (.s (.s v1)),.a (.n 1) v0)] rfl h0 h
theorem o325:3≤a+1+1+1:=nl fun h=>no [a] [(.s (.s (.s (.s v0))),.n 3)] rfl h
theorem o326:950+1+1≤1000:=nl fun h=>no [] [(.s (.n 1000),.s (.s (.n 950)))] rfl h
theorem o327:950+1≤1000:=nl fun h=>no [] [(.s (.n 1000),.s (.n 950))] rfl h
theorem o328:a≤950→a≤1000:=fun h0=>nl fun h=>no [a] [(v0,.n 950),(.s (.n 1000),v0)] rfl h0 h
theorem o329:a≤b→c≤a+1→c≤b+1:=fun h0 h1=>nl fun h=>no [a,b,c] [(v0,v1),(v2,.s v0),(.s (.s v1),v2)] rfl h0 h1 h
theorem o330:2*a+10≤b→c≤a→d=c→e≤2*d+1→e≤b:=fun h0 h1 h2 h3=>nl fun h=>no [a,b,c,d,e] [(.a (.m 2 v0) (.n 10),v1),(v2,v0),(v2,v0),(v3,v2),(v3,v2),(v4,.s (.m 2 v3)),(.s v1,v4)] rfl h0 h1 h1 (le' h2) (le' h2) h3 h
theorem o331:2*a+10≤b→c≤a→d=c→e≤d→e≤b:=fun h0 h1 h2 h3=>nl fun h=>no [a,b,c,d,e] [(.a (.m 2 v0) (.n 10),v1),(v2,v0),(v2,v0),(v3,v2),(v3,v2),(v4,v3),(v4,v3),(.s v1,v4)] rfl h0 h1 h1 (le' h2) (le' h2) h3 h3 h
theorem o332:1≤2*a+1:=nl fun h=>no [a] [(.s (.s (.m 2 v0)),.n 1)] rfl h
theorem o333:940+1+1≤950:=nl fun h=>no [] [(.s (.n 950),.s (.s (.n 940)))] rfl h
theorem o334:a≤940→a≤990:=fun h0=>nl fun h=>no [a] [(v0,.n 940),(.s (.n 990),v0)] rfl h0 h
theorem o335:990+1≤1000:=nl fun h=>no [] [(.s (.n 1000),.s (.n 990))] rfl h
theorem o336:a≤990→a≤1000:=fun h0=>nl fun h=>no [a] [(v0,.n 990),(.s (.n 1000),v0)] rfl h0 h
theorem o337:¬(↑(a+1):Int)=0:=fun h=>nz [↑a] [(.a w0 (.n 1),.n 0),(.n 0,w0)] rfl (Int.le_of_eq h) (nn a)
theorem o338:1≤a→(↑(a-1):Int)=(↑a:Int)-1:=fun h0=>Int.le_antisymm (il fun h=>nz [↑a,↑(a-1)] [(.a (.s w0 (.n 1)) (.n 1),w1),(.a w1 (.n 1),w0)] rfl h (zl (sc (nl fun u=>nz [↑a,↑(a-1)] [(.n 1,w0),(.a w0 (.n 1),.n 1)] rfl (zl h0) (zl u))))) (il fun h=>nz [↑a,↑(a-1)] [(.a w1 (.n 1),.s w0 (.n 1)),(w0,.a w1 (.n 1))] rfl h (zl (sb a 1)))
theorem o339:903+1≤940:=nl fun h=>no [] [(.s (.n 940),.s (.n 903))] rfl h
theorem o340:a≤903→a≤1000:=fun h0=>nl fun h=>no [a] [(v0,.n 903),(.s (.n 1000),v0)] rfl h0 h
theorem o341:900+1+1+1≤903:=nl fun h=>no [] [(.s (.n 903),.s (.s (.s (.n 900))))] rfl h
theorem o342:1≤a→a-1+1≤a:=fun h0=>nl fun h=>no [a,(a-1)] [(.s v0,.s v1),(.s v1,v0)] rfl h (sc (nl fun u=>no [a,(a-1)] [(.n 1,v0),(.s v0,.n 1)] rfl h0 u))
theorem o343:a≤b+1→b+5≤c→a≤c:=fun h0 h1=>nl fun h=>no [a,b,c] [(v0,.s v1),(.a v1 (.n 5),v2),(.s v2,v0)] rfl h0 h1 h
theorem o344:a≤b→a≤b:=fun h0=>nl fun h=>no [a,b] [(v0,v1),(.s v1,v0)] rfl h0 h
theorem o345:a<b→b=b-1+1:=fun h0=>an (nl fun h=>no [a,b,(b-1)] [(.s (.s v2),v1),(v1,.s v2)] rfl h (sb b 1)) (nl fun h=>no [a,b,(b-1)] [(.s v1,.s v2),(.s v2,v1)] rfl h (sc (nl fun u=>no [a,b,(b-1)] [(.s v0,v1),(.s v1,.n 1)] rfl h0 u)))
theorem o346:a+1+1≤b→a+1<b:=fun h0=>nt fun h=>no [a,b] [(.s (.s v0),v1),(v1,.s v0)] rfl h0 h
theorem o347:a+1+1≤b→a<b:=fun h0=>nt fun h=>no [a,b] [(.s (.s v0),v1),(v1,v0)] rfl h0 h
theorem o348:a+1+1≤b→a+1≤b:=fun h0=>nl fun h=>no [a,b] [(.s (.s v0),v1),(.s v1,.s v0)] rfl h0 h
theorem o349:a-1<a→a-1≤b→b≤c→1≤a∧a≤c+1:=fun h0 h1 h2=>⟨nl fun h=>no [a,b,c,(a-1)] [(.s v3,v0),(.s v0,.n 1)] rfl h0 h,nl fun h=>no [a,b,c,(a-1)] [(v3,v1),(v1,v2),(.s (.s v2),v0),(v0,.s v3)] rfl h1 h2 h (sb a 1)⟩
theorem o350:a=b→c≤d→d<a→c+1≤b:=fun h0 h1 h2=>nl fun h=>no [a,b,c,d] [(v0,v1),(v2,v3),(.s v3,v0),(.s v1,.s v2)] rfl (le' h0) h1 h2 h
theorem o351:60*a+4+56+1≤60*a+70:=nl fun h=>no [a] [(.s (.a (.m 60 v0) (.n 70)),.s (.a (.a (.m 60 v0) (.n 4)) (.n 56)))] rfl h
theorem o352:a≤b→60*a+4≤60*b+4:=fun h0=>nl fun h=>no [a,b] [(.m 60 v0,.m 60 v1),(.s (.a (.m 60 v1) (.n 4)),.a (.m 60 v0) (.n 4))] rfl (Nat.mul_le_mul_left 60 h0) h
theorem o353:4≤60*a+4:=nl fun h=>no [a] [(.s (.a (.m 60 v0) (.n 4)),.n 4)] rfl h
theorem o354:60*a+60+1≤60*(a+1)+4:=nl fun h=>no [a] [(.s (.a (.m 60 (.s v0)) (.n 4)),.s (.a (.m 60 v0) (.n 60)))] rfl h
theorem o355:a+1≤b→b-a=0→False:=fun h0 h1=>no [a,b,(b-a)] [(.s v0,v1),(v2,.n 0),(v1,.a v2 v0)] rfl h0 (le' h1) (sb b a)
theorem o356:1+1≤60*0+4:=nl fun h=>no [] [(.s (.a (.m 60 (.n 0)) (.n 4)),.s (.n 1))] rfl h
theorem o357:a+11*(b+1)+1+10≤a+11*(b+1+1):=nl fun h=>no [a,b] [(.s (.a v0 (.m 11 (.s (.s v1)))),.a (.s (.a v0 (.m 11 (.s v1)))) (.n 10))] rfl h
theorem o358:4≤a+11*(b+1)+1:=nl fun h=>no [a,b] [(.s (.s (.a v0 (.m 11 (.s v1)))),.n 4)] rfl h
theorem o359:4≤a→4≤a+1:=fun h0=>nl fun h=>no [a] [(.n 4,v0),(.s (.s v0),.n 4)] rfl h0 h
theorem o360:a≤8→b+2+a≤b+10:=fun h0=>nl fun h=>no [a,b] [(v0,.n 8),(.s (.a v1 (.n 10)),.a (.a v1 (.n 2)) v0)] rfl h0 h
theorem o361:a≤8→b+a≤b+10:=fun h0=>nl fun h=>no [a,b] [(v0,.n 8),(.s (.a v1 (.n 10)),.a v1 v0)] rfl h0 h
theorem o362:0<a→¬b+(a+c)=0:=fun h0=>fun h=>no [a,b,c] [(.s (.n 0),v0),(.a v1 (.a v0 v2),.n 0)] rfl h0 (le' h)
theorem o363:0<a→0<b+a:=fun h0=>nt fun h=>no [a,b] [(.s (.n 0),v0),(.a v1 v0,.n 0)] rfl h0 h
theorem o364:a+(b+1+1)-1=a+1+(b+1)-1:=an (nl fun h=>no [a,b,(((a+1)+(b+1))-1),((a+((b+1)+1))-1)] [(.s v2,v3),(.a (.s v0) (.s v1),.s v2),(.s v3,.a v0 (.s (.s v1)))] rfl h (sb ((a+1)+(b+1)) 1) (sc (nl fun u=>no [a,b,(((a+1)+(b+1))-1),((a+((b+1)+1))-1)] [(.s (.a v0 (.s (.s v1))),.n 1)] rfl u))) (nl fun h=>no [a,b,((a+((b+1)+1))-1),(((a+1)+(b+1))-1)] [(.s v2,v3),(.a v0 (.s (.s v1)),.s v2),(.s v3,.a (.s v0) (.s v1))] rfl h (sb (a+((b+1)+1)) 1) (sc (nl fun u=>no [a,b,((a+((b+1)+1))-1),(((a+1)+(b+1))-1)] [(.s (.a (.s v0) (.s v1)),.n 1)] rfl u)))
theorem o365:a+2+2*b=a+2*(b+1):=an (nl fun h=>no [a,b] [(.s (.a v0 (.m 2 (.s v1))),.a (.a v0 (.n 2)) (.m 2 v1))] rfl h) (nl fun h=>no [a,b] [(.s (.a (.a v0 (.n 2)) (.m 2 v1)),.a v0 (.m 2 (.s v1)))] rfl h)
theorem o366:a+1≤a+(b+1):=nl fun h=>no [a,b] [(.s (.a v0 (.s v1)),.s v0)] rfl h
theorem o367:a+20=a+18+2:=an (nl fun h=>no [a] [(.s (.a (.a v0 (.n 18)) (.n 2)),.a v0 (.n 20))] rfl h) (nl fun h=>no [a] [(.s (.a v0 (.n 20)),.a (.a v0 (.n 18)) (.n 2))] rfl h)
theorem o368:1≤60*a+70:=nl fun h=>no [a] [(.s (.a (.m 60 v0) (.n 70)),.n 1)] rfl h
theorem o369:¬a-b<4→4≤a-b:=fun h0=>nl fun h=>no [a,b,(a-b)] [(.n 4,v2),(.s v2,.n 4)] rfl (nl h0) h
theorem o370:a≤1048576→b=a-c→b≤4294967295:=fun h0 h1=>nl fun h=>no [a,b,c,(a-c)] [(v0,.n 1048576),(v1,v3),(.s (.n 4294967295),v1),(v3,v0)] rfl h0 (le' h1) h (sl a c)
theorem o371:a=b-c→b-c<4→a<4:=fun h0 h1=>nt fun h=>no [a,b,c,(b-c)] [(v0,v3),(.s v3,.n 4),(.n 4,v0)] rfl (le' h0) h1 h
theorem o372:a-b=a-b:=an (nl fun h=>no [a,b,(a-b)] [(.s v2,v2)] rfl h) (nl fun h=>no [a,b,(a-b)] [(.s v2,v2)] rfl h)
theorem o373:a<4→b≤a→4≤c→c≤b→False:=fun h0 h1 h2 h3=>no [a,b,c] [(.s v0,.n 4),(v1,v0),(.n 4,v2),(v2,v1)] rfl h0 h1 h2 h3
theorem o374 {a:Int}{b:Nat}:0≤a→Int.toNat a<b→0≤a∧a<(↑b:Int):=fun h0 h1=>⟨il fun h=>nz [a,↑(Int.toNat a),↑b] [(.n 0,w0),(.a w0 (.n 1),.n 0)] rfl h0 h,it fun h=>nz [a,↑(Int.toNat a),↑b] [(.a w1 (.n 1),w2),(w2,w0),(w0,w1)] rfl (zl h1) h (st a)⟩
theorem o375:a+2+9≤a+11:=nl fun h=>no [a] [(.s (.a v0 (.n 11)),.a (.a v0 (.n 2)) (.n 9))] rfl h
theorem o376:a+39=a+37+2:=an (nl fun h=>no [a] [(.s (.a (.a v0 (.n 37)) (.n 2)),.a v0 (.n 39))] rfl h) (nl fun h=>no [a] [(.s (.a v0 (.n 39)),.a (.a v0 (.n 37)) (.n 2))] rfl h)
theorem o377:0<a→a<2→a=1:=fun h0 h1=>an (nl fun h=>no [a] [(.s v0,.n 2),(.s (.n 1),v0)] rfl h1 h) (nl fun h=>no [a] [(.s (.n 0),v0),(.s v0,.n 1)] rfl h0 h)
theorem o378:a≤800→a≤900:=fun h0=>nl fun h=>no [a] [(v0,.n 800),(.s (.n 900),v0)] rfl h0 h
theorem o379:a≤800→a≤890:=fun h0=>nl fun h=>no [a] [(v0,.n 800),(.s (.n 890),v0)] rfl h0 h
theorem o380:1+(a+1+b)=a+1+1+b:=an (nl fun h=>no [a,b] [(.s (.a (.s (.s v0)) v1),.a (.n 1) (.a (.s v0) v1))] rfl h) (nl fun h=>no [a,b] [(.s (.a (.n 1) (.a (.s v0) v1)),.a (.s (.s v0)) v1)] rfl h)
theorem o381:a+b=c+1→0+a+b=c+1:=fun h0=>an (nl fun h=>no [a,b,c] [(.a v0 v1,.s v2),(.s (.s v2),.a (.a (.n 0) v0) v1)] rfl (le' h0) h) (nl fun h=>no [a,b,c] [(.s v2,.a v0 v1),(.s (.a (.a (.n 0) v0) v1),.s v2)] rfl (le' h0.symm) h)
theorem o382:0<a→a+b=a+b-1+1:=fun h0=>an (nl fun h=>no [a,b,((a+b)-1)] [(.s (.s v2),.a v0 v1),(.a v0 v1,.s v2)] rfl h (sb (a+b) 1)) (nl fun h=>no [a,b,((a+b)-1)] [(.s (.a v0 v1),.s v2),(.s v2,.a v0 v1)] rfl h (sc (nl fun u=>no [a,b,((a+b)-1)] [(.s (.n 0),v0),(.s (.a v0 v1),.n 1)] rfl h0 u)))
theorem o383:1+a+b=a+b+1:=an (nl fun h=>no [a,b] [(.s (.s (.a v0 v1)),.a (.a (.n 1) v0) v1)] rfl h) (nl fun h=>no [a,b] [(.s (.a (.a (.n 1) v0) v1),.s (.a v0 v1))] rfl h)
theorem o384:1+0+a=a+1:=an (nl fun h=>no [a] [(.s (.s v0),.a (.a (.n 1) (.n 0)) v0)] rfl h) (nl fun h=>no [a] [(.s (.a (.a (.n 1) (.n 0)) v0),.s v0)] rfl h)
theorem o385:a=0+a:=an (nl fun h=>no [a] [(.s (.a (.n 0) v0),v0)] rfl h) (nl fun h=>no [a] [(.s v0,.a (.n 0) v0)] rfl h)
theorem o386:a+b+1=a+1+b:=an (nl fun h=>no [a,b] [(.s (.a (.s v0) v1),.s (.a v0 v1))] rfl h) (nl fun h=>no [a,b] [(.s (.s (.a v0 v1)),.a (.s v0) v1)] rfl h)
theorem o387:0+a+b=a+b:=an (nl fun h=>no [a,b] [(.s (.a v0 v1),.a (.a (.n 0) v0) v1)] rfl h) (nl fun h=>no [a,b] [(.s (.a (.a (.n 0) v0) v1),.a v0 v1)] rfl h)
theorem o388:a+(b+c)=b+c+a:=an (nl fun h=>no [a,b,c] [(.s (.a (.a v1 v2) v0),.a v0 (.a v1 v2))] rfl h) (nl fun h=>no [a,b,c] [(.s (.a v0 (.a v1 v2)),.a (.a v1 v2) v0)] rfl h)
theorem o389:a+1≤b→a<b+1:=fun h0=>nt fun h=>no [a,b] [(.s v0,v1),(.s v1,v0)] rfl h0 h
theorem o390:a+1+b-(a+1)=b:=an (nl fun h=>no [a,b,(((a+1)+b)-(a+1))] [(.s v1,v2),(.a v2 (.s v0),.a (.s v0) v1)] rfl h (sc (nl fun u=>no [a,b,(((a+1)+b)-(a+1))] [(.s (.a (.s v0) v1),.s v0)] rfl u))) (nl fun h=>no [a,b,(((a+1)+b)-(a+1))] [(.s v2,v1),(.a (.s v0) v1,.a v2 (.s v0))] rfl h (sb ((a+1)+b) (a+1)))
theorem o391:a=b+1→a≤b+1+c:=fun h0=>nl fun h=>no [a,b,c] [(v0,.s v1),(.s (.a (.s v1) v2),v0)] rfl (le' h0) h
theorem o392:a=b+1→b<a:=fun h0=>nt fun h=>no [a,b] [(.s v1,v0),(v0,v1)] rfl (le' h0.symm) h
theorem o393:a+1+(b+1)-1=a+1+b:=an (nl fun h=>no [a,b,(((a+1)+(b+1))-1)] [(.s (.a (.s v0) v1),v2),(.s v2,.a (.s v0) (.s v1))] rfl h (sc (nl fun u=>no [a,b,(((a+1)+(b+1))-1)] [(.s (.a (.s v0) (.s v1)),.n 1)] rfl u))) (nl fun h=>no [a,b,(((a+1)+(b+1))-1)] [(.s v2,.a (.s v0) v1),(.a (.s v0) (.s v1),.s v2)] rfl h (sb ((a+1)+(b+1)) 1))
theorem o394:a≤10→b≤20+80*a→2*b+10≤1048576:=fun h0 h1=>nl fun h=>no [a,b] [(.m 160 v0,.m 160 (.n 10)),(v1,.a (.n 20) (.m 80 v0)),(v1,.a (.n 20) (.m 80 v0)),(.s (.n 1048576),.a (.m 2 v1) (.n 10))] rfl (Nat.mul_le_mul_left 160 h0) h1 h1 h
theorem o395:a≤10→b≤20+80*a→b+5≤1048576:=fun h0 h1=>nl fun h=>no [a,b] [(.m 80 v0,.m 80 (.n 10)),(v1,.a (.n 20) (.m 80 v0)),(.s (.n 1048576),.a v1 (.n 5))] rfl (Nat.mul_le_mul_left 80 h0) h1 h
theorem o396:a≤b→c≤a+11→c≤b+11:=fun h0 h1=>nl fun h=>no [a,b,c] [(v0,v1),(v2,.a v0 (.n 11)),(.s (.a v1 (.n 11)),v2)] rfl h0 h1 h
theorem o397:a≤700→b≤a→b≤800:=fun h0 h1=>nl fun h=>no [a,b] [(v0,.n 700),(v1,v0),(.s (.n 800),v1)] rfl h0 h1 h
theorem o398 {a:Int}:0≤a→(↑(Int.toNat a):Int)=a:=fun h0=>Int.le_antisymm (il fun h=>nz [a,↑(Int.toNat a)] [(.a w0 (.n 1),w1),(w1,w0)] rfl h (tn (il fun u=>nz [a,↑(Int.toNat a)] [(.n 0,w0),(.a w0 (.n 1),.n 0)] rfl h0 u))) (il fun h=>nz [a,↑(Int.toNat a)] [(.a w1 (.n 1),w0),(w0,w1)] rfl h (st a))
theorem o399:0<a→¬(↑a:Int)=0:=fun h0=>fun h=>nz [↑a] [(.a (.n 0) (.n 1),w0),(w0,.n 0)] rfl (zl h0) (Int.le_of_eq h)
theorem o400 {a:Nat}{b:Int}:0<a→b<(↑a:Int)→Int.toNat b<a:=by intros;omega
theorem o401:a≤63→a≤1048576:=fun h0=>nl fun h=>no [a] [(v0,.n 63),(.s (.n 1048576),v0)] rfl h0 h
theorem o402:a≤60→b≤15→c≤20+80*d→c+(a+b)≤20+80*(d+1):=fun h0 h1 h2=>nl fun h=>no [a,b,c,d] [(v0,.n 60),(v1,.n 15),(v2,.a (.n 20) (.m 80 v3)),(.s (.a (.n 20) (.m 80 (.s v3))),.a v2 (.a v0 v1))] rfl h0 h1 h2 h
theorem o403:a=b→b≤100→a≤100:=fun h0 h1=>nl fun h=>no [a,b] [(v0,v1),(v1,.n 100),(.s (.n 100),v0)] rfl (le' h0) h1 h
theorem o404:a=b→c<b→c<a:=fun h0 h1=>nt fun h=>no [a,b,c] [(v1,v0),(.s v2,v1),(v0,v2)] rfl (le' h0.symm) h1 h
theorem o405:a≤100→a≤1048576:=fun h0=>nl fun h=>no [a] [(v0,.n 100),(.s (.n 1048576),v0)] rfl h0 h
theorem o406:a≤63→b≤a→c≤b→d≤c→d≤63:=fun h0 h1 h2 h3=>nl fun h=>no [a,b,c,d] [(v0,.n 63),(v1,v0),(v2,v1),(v3,v2),(.s (.n 63),v3)] rfl h0 h1 h2 h3 h
theorem o407:a≤15→a≤40:=fun h0=>nl fun h=>no [a] [(v0,.n 15),(.s (.n 40),v0)] rfl h0 h
theorem o408:a≤1030→a+1≤1048576:=fun h0=>nl fun h=>no [a] [(v0,.n 1030),(.s (.n 1048576),.s v0)] rfl h0 h
theorem o409:a≤1015→b≤15→a+b≤1048576:=fun h0 h1=>nl fun h=>no [a,b] [(v0,.n 1015),(v1,.n 15),(.s (.n 1048576),.a v0 v1)] rfl h0 h1 h
theorem o410:a≤1015→b≤15→a+b≤1030:=fun h0 h1=>nl fun h=>no [a,b] [(v0,.n 1015),(v1,.n 15),(.s (.n 1030),.a v0 v1)] rfl h0 h1 h
theorem o411:a≤63→b≤a→c≤b→c≤63:=fun h0 h1 h2=>nl fun h=>no [a,b,c] [(v0,.n 63),(v1,v0),(v2,v1),(.s (.n 63),v2)] rfl h0 h1 h2 h
theorem o412:a≤63→b≤a→c≤b→d≤c→e≤d→e≤63:=fun h0 h1 h2 h3 h4=>nl fun h=>no [a,b,c,d,e] [(v0,.n 63),(v1,v0),(v2,v1),(v3,v2),(v4,v3),(.s (.n 63),v4)] rfl h0 h1 h2 h3 h4 h
theorem o413:a≤15→b≤15→a+b≤40:=fun h0 h1=>nl fun h=>no [a,b] [(v0,.n 15),(v1,.n 15),(.s (.n 40),.a v0 v1)] rfl h0 h1 h
theorem o414:a≤15→b≤1030→b+a≤1048576:=fun h0 h1=>nl fun h=>no [a,b] [(v0,.n 15),(v1,.n 1030),(.s (.n 1048576),.a v1 v0)] rfl h0 h1 h
theorem o415:a≤1045→a+1≤1048576:=fun h0=>nl fun h=>no [a] [(v0,.n 1045),(.s (.n 1048576),.s v0)] rfl h0 h
theorem o416:a≤15→b≤1030→b+a≤1045:=fun h0 h1=>nl fun h=>no [a,b] [(v0,.n 15),(v1,.n 1030),(.s (.n 1045),.a v1 v0)] rfl h0 h1 h
theorem o417:¬a<7→¬(↑a:Int)<7:=fun h0=>fun h=>nz [↑a] [(.n 7,w0),(.a w0 (.n 1),.n 7)] rfl (zl (nl h0)) h
theorem o418:a<7→(↑a:Int)<7:=fun h0=>it fun h=>nz [↑a] [(.a w0 (.n 1),.n 7),(.n 7,w0)] rfl (zl h0) h
theorem o419:¬a<5→¬(↑a:Int)<5:=fun h0=>fun h=>nz [↑a] [(.n 5,w0),(.a w0 (.n 1),.n 5)] rfl (zl (nl h0)) h
theorem o420:a<5→(↑a:Int)<5:=fun h0=>it fun h=>nz [↑a] [(.a w0 (.n 1),.n 5),(.n 5,w0)] rfl (zl h0) h
theorem o421:a≤63→b≤a→b≤63:=fun h0 h1=>nl fun h=>no [a,b] [(v0,.n 63),(v1,v0),(.s (.n 63),v1)] rfl h0 h1 h
theorem o422:a≤600→a≤700:=fun h0=>nl fun h=>no [a] [(v0,.n 600),(.s (.n 700),v0)] rfl h0 h
theorem o423:a≤6→a+1≤10:=fun h0=>nl fun h=>no [a] [(v0,.n 6),(.s (.n 10),.s v0)] rfl h0 h
theorem o424:a=10→a<128:=fun h0=>nt fun h=>no [a] [(v0,.n 10),(.n 128,v0)] rfl (le' h0) h
theorem o425:a≤15→b≤40→a+b+(0+1)≤60:=fun h0 h1=>nl fun h=>no [a,b] [(v0,.n 15),(v1,.n 40),(.s (.n 60),.a (.a v0 v1) (.s (.n 0)))] rfl h0 h1 h
theorem o426:a≤15→b≤1100→b+a≤1048576:=fun h0 h1=>nl fun h=>no [a,b] [(v0,.n 15),(v1,.n 1100),(.s (.n 1048576),.a v1 v0)] rfl h0 h1 h
theorem o427:a≤1000→b≤15→c≤40→a+(b+c+(0+1))≤1100:=fun h0 h1 h2=>nl fun h=>no [a,b,c] [(v0,.n 1000),(v1,.n 15),(v2,.n 40),(.s (.n 1100),.a v0 (.a (.a v1 v2) (.s (.n 0))))] rfl h0 h1 h2 h
theorem o428:a≤1000→b≤15→a+b≤1015:=fun h0 h1=>nl fun h=>no [a,b] [(v0,.n 1000),(v1,.n 15),(.s (.n 1015),.a v0 v1)] rfl h0 h1 h
theorem o429:a≤1000→b≤15→a+b≤1048576:=fun h0 h1=>nl fun h=>no [a,b] [(v0,.n 1000),(v1,.n 15),(.s (.n 1048576),.a v0 v1)] rfl h0 h1 h
theorem o430:a≤6→b≤20+80*a→b≤1000:=fun h0 h1=>nl fun h=>no [a,b] [(.m 80 v0,.m 80 (.n 6)),(v1,.a (.n 20) (.m 80 v0)),(.s (.n 1000),v1)] rfl (Nat.mul_le_mul_left 80 h0) h1 h
theorem o431:a≤1000→a≤1048576:=fun h0=>nl fun h=>no [a] [(v0,.n 1000),(.s (.n 1048576),v0)] rfl h0 h
theorem o432:a≤1000→2*a+10≤1048576:=fun h0=>nl fun h=>no [a] [(v0,.n 1000),(v0,.n 1000),(.s (.n 1048576),.a (.m 2 v0) (.n 10))] rfl h0 h0 h
theorem o433 {a:Int}:2≤a∧a≤5→31+11*Int.toNat a≤700:=by intros;omega
theorem o434:a≤1000→a+5≤1048576:=fun h0=>nl fun h=>no [a] [(v0,.n 1000),(.s (.n 1048576),.a v0 (.n 5))] rfl h0 h
theorem o435 {a:Int}{b c:Nat}:2≤a∧a≤5→b≤15→c≤20+80*Int.toNat a→c+b≤1000:=by intros;omega
theorem o436:a+90=a+88+1+1:=an (nl fun h=>no [a] [(.s (.s (.s (.a v0 (.n 88)))),.a v0 (.n 90))] rfl h) (nl fun h=>no [a] [(.s (.a v0 (.n 90)),.s (.s (.a v0 (.n 88))))] rfl h)
theorem o437 {a:Int}:2≤a∧a≤5→Int.toNat a=0→False:=fun h0 h1=>nz [a,↑(Int.toNat a)] [(.n 2,w0),(w1,.n 0),(w0,w1)] rfl h0.1 (zl (le' h1)) (st a)
theorem o438:a≤31+11*b+11→a≤31+11*(b+1):=fun h0=>nl fun h=>no [a,b] [(v0,.a (.a (.n 31) (.m 11 v1)) (.n 11)),(.s (.a (.n 31) (.m 11 (.s v1))),v0)] rfl h0 h
theorem o439 {a:Int}{b:Nat}:2≤a∧a≤5→(↑b:Int)<a→b≤6:=fun h0 h1=>nl fun h=>nz [a,↑b] [(w0,.n 5),(.a w1 (.n 1),w0),(.a (.n 6) (.n 1),w1)] rfl h0.2 h1 (zl h)
theorem o440 {a:Int}{b:Nat}:2≤a∧a≤5→(↑b:Int)<a→31+11*b≤600:=by intros;omega
theorem o441 {a:Int}:2≤a∧a≤5→a≤1048576:=fun h0=>il fun h=>nz [a] [(w0,.n 5),(.a (.n 1048576) (.n 1),w0)] rfl h0.2 h
theorem o442 {a:Int}:2≤a∧a≤5→-1048576≤a:=fun h0=>il fun h=>nz [a] [(.n 2,w0),(.a w0 (.n 1),.g (.n 1048576))] rfl h0.1 h
theorem o443:a≤15→a≤20+80*0:=fun h0=>nl fun h=>no [a] [(v0,.n 15),(.s (.a (.n 20) (.m 80 (.n 0))),v0)] rfl h0 h
theorem o444 {a:Nat}{b:Int}:(↑a:Int)<b→(↑a:Int)<b:=fun h0=>it fun h=>nz [↑a,b] [(.a w0 (.n 1),w1),(w1,w0)] rfl h0 h
theorem o445:a≤20→4+10*20+200<b→4+10*a+200<b:=fun h0 h1=>nt fun h=>no [a,b] [(.m 10 v0,.m 10 (.n 20)),(.s (.a (.a (.n 4) (.m 10 (.n 20))) (.n 200)),v1),(v1,.a (.a (.n 4) (.m 10 v0)) (.n 200))] rfl (Nat.mul_le_mul_left 10 h0) h1 h
theorem o446:a≤20→1+b+20<c→1+b+a<c:=fun h0 h1=>nt fun h=>no [a,b,c] [(v0,.n 20),(.s (.a (.a (.n 1) v1) (.n 20)),v2),(v2,.a (.a (.n 1) v1) v0)] rfl h0 h1 h
theorem zS:¬(↑63:Int)<(↑a:Int)→a≤63:=fun h0=>nl fun h=>nz [↑a] [(w0,.n 63),(.a (.n 63) (.n 1),w0)] rfl (il h0) (zl h)
end
end Mine.Om
end
section
namespace Mine
inductive Md where
 |N|Nb|E|C
 |Q1 (d:Bool) (f:Nat)|Q2 (d:Bool) (f:Nat)
 |S1 (d:Bool) (f:Nat)|S1e (d:Bool) (f:Nat)
 |S3 (d:Bool) (k f:Nat)|S3e (d:Bool) (f:Nat)
 deriving DecidableEq
structure St where
 md:Md
 lv:Nat
 ln:Nat
 gd:List Nat
 deriving DecidableEq
noncomputable def qc (d:Bool):Nat:=if d then 34 else 39
noncomputable def nl (s:St):St:=⟨.N,s.lv,s.ln+1,if s.lv=0 then s.gd++[s.ln+1] else s.gd⟩
noncomputable def aY (s:St)(c:Nat):St:=
 if c=10 then nl s
 else if c=40 then {s with md:=.N,lv:=s.lv+1}
 else if c=41 then {s with md:=.N,lv:=s.lv-1}
 else if c=34 then {s with md:=.Q1 true s.ln}
 else if c=39 then {s with md:=.Q1 false s.ln}
 else if c=35 then {s with md:=.C}
 else if c=92 then {s with md:=.E}
 else {s with md:=.N}
noncomputable def bb (s:St)(d:Bool)(f c:Nat):St:=
 if c=qc d then {s with md:=.N}
 else if c=10 then nl s
 else if c=92 then {s with md:=.S1e d f}
 else {s with md:=.S1 d f}
noncomputable def step (s:St)(c:Nat):St:=
 match s.md with
 | .N=>aY s c
 | .Nb=>aY s c
 | .E=>if c=10 then {s with md:=.Nb,ln:=s.ln+1} else {s with md:=.N}
 | .C=>if c=10 then nl s else s
 | .Q1 d f=>if c=qc d then {s with md:=.Q2 d f} else bb s d f c
 | .Q2 d f=>if c=qc d then {s with md:=.S3 d 0 f} else aY s c
 | .S1 d f=>bb s d f c
 | .S1e d f=>if c=10 then {s with md:=.S1 d f,ln:=s.ln+1} else {s with md:=.S1 d f}
 | .S3 d k f=>
  if c=qc d then (if k=2 then {s with md:=.N} else {s with md:=.S3 d (k+1) f})
  else if c=10 then {s with md:=.S3 d 0 f,ln:=s.ln+1}
  else if c=92 then {s with md:=.S3e d f}
  else {s with md:=.S3 d 0 f}
 | .S3e d f=>if c=10 then {s with md:=.S3 d 0 f,ln:=s.ln+1} else {s with md:=.S3 d 0 f}
noncomputable def scan (s:St)(l:List Nat):St:=l.foldl step s
noncomputable def st0:St:=⟨.N,0,0,[0]⟩
noncomputable def tr (c:Nat):Nat:=
 if c=40∨c=123∨c=91 then 40 else if c=41∨c=125∨c=93 then 41
 else if c=34∨c=39∨c=92∨c=10∨c=35 then c else 120
theorem bh (s:St)(c:Nat)(l:List Nat):scan s (c::l)=scan (step s c) l:=rfl
theorem aT (s:St)(a b:List Nat):scan s (a++b)=scan (scan s a) b:=List.foldl_append ..
theorem sN (s:St):step (step s 120) 120=step s 120:=by
 obtain⟨md,lv,ln,gd⟩:=s
 cases md with
 |N=>rfl
 |Nb=>rfl
 |E=>rfl
 |C=>rfl
 |Q1 d f=>cases d<;>rfl
 |Q2 d f=>cases d<;>rfl
 |S1 d f=>cases d<;>rfl
 |S1e d f=>cases d<;>rfl
 |S3 d k f=>cases d<;>rfl
 |S3e d f=>cases d<;>rfl
theorem qB (s:St)(k:Nat):scan s (List.replicate (k+1) 120)=step s 120:=by
 induction k generalizing s with
 |zero=>rfl
 |succ k ih=>rw[List.replicate_succ,bh,ih,sN]
noncomputable def un (s:St):St:=match s.md with | .Nb=>{s with md:=.N}|_=>s
theorem sX (s:St)(c:Nat):step (un s) c=step s c:=by
 obtain⟨md,lv,ln,gd⟩:=s
 cases md<;>rfl
theorem sC (s:St)(c:Nat)(l:List Nat):scan (un s) (c::l)=scan s (c::l):=by
 rw[bh,bh,sX]
theorem uw (s:St):step (step s 10) 120=un (step s 10):=by
 obtain⟨md,lv,ln,gd⟩:=s
 cases md with
 |N=>rfl
 |Nb=>rfl
 |E=>rfl
 |C=>rfl
 |Q1 d f=>cases d<;>rfl
 |Q2 d f=>cases d<;>rfl
 |S1 d f=>cases d<;>rfl
 |S1e d f=>cases d<;>rfl
 |S3 d k f=>cases d<;>rfl
 |S3e d f=>cases d<;>rfl
theorem sV (s:St)(c:Nat)(l:List Nat):scan s (10::120::c::l)=scan s (10::c::l):=by
 rw[bh,bh,uw,sC,←bh]
end Mine
end
section
namespace Mine
open PySem PySem.Builtin.Str
noncomputable abbrev sg (x:Str):List Nat:=x.cps.toList
theorem iK (a b:Str):sg (a++b)=sg a++sg b:=by
 show (a.cps++b.cps).toList=_
 simp[sg]
theorem bq (x y z:Str)(hy:y.length≠0):∃parts:List Str,Str.join y parts=x∧Txt.replace x y z=Str.join z parts:=by
 unfold Txt.replace
 have e:(y.length==0&&z.length==0)=false:=by simp[hy]
 rw[e,Bool.or_false]
 by_cases h:(occurrences x y 0 x.length (x.length+1)).isEmpty=true
 ·rw[if_pos h];exact⟨[x],rfl,rfl⟩
 ·rw[if_neg h]
  refine⟨partsBetween x (occurrences x y 0 x.length (x.length+1)) y.length,?_,StrLaws.glued_eq_join _ _⟩
  obtain⟨f,h⟩:=StrLaws.occ_chain x y (x.length+1)
  rw[StrLaws.partsBetween_eq,StrLaws.join_partsFrom x y _ 0 f h,StrLaws.sub_whole]
theorem aN (y a b:Str)(r:List Str):sg (Str.join y (a::b::r))=sg a++(sg y++sg (Str.join y (b::r))):=by
 show sg (a++y++Str.join y (b::r))=_
 rw[iK,iK,List.append_assoc]
theorem hV {y z:Str}(h:∀s,scan s (sg y)=scan s (sg z)):∀(parts:List Str) (s:St),scan s (sg (Str.join y parts))=scan s (sg (Str.join z parts))
 | [],_=>rfl
 | [_],_=>rfl
 |a::b::r,s=>by
  rw[aN,aN,aT,aT,aT,aT,h,hV h (b::r)]
theorem jB {x y z:Str}(hy:y.length≠0)(h:∀s,scan s (sg y)=scan s (sg z))(s:St):scan s (sg (Txt.replace x y z))=scan s (sg x):=by
 obtain⟨parts,e1,e2⟩:=bq x y z hy
 rw[e2,←hV h,e1]
theorem f7 {y z:Str}(hy:sg y=[10,120])(hz:sg z=[10]):∀(parts:List Str) (s:St),(sg (Str.join y parts)).getLast?≠some 120→
  scan s (sg (Str.join y parts))=scan s (sg (Str.join z parts))
 | [],_,_=>rfl
 | [_],_,_=>rfl
 |a::b::r,s,hl=>by
  rw[aN,hy] at hl
  rw[aN,aN,hy,hz,aT s (sg a),aT s (sg a)]
  have hne:sg (Str.join y (b::r))≠[]:=by
   intro e;rw[e] at hl;simp at hl
  have hl':(sg (Str.join y (b::r))).getLast?≠some 120:=by
   intro e;apply hl
   rw[List.getLast?_append,List.getLast?_append,e];rfl
  have ih:=fun s=>f7 hy hz (b::r) s hl'
  generalize scan s (sg a)=s
  have e10:scan s ([10]++sg (Str.join z (b::r)))=scan s (10::sg (Str.join y (b::r))):=by
   show scan (step s 10) (sg (Str.join z (b::r)))=scan (step s 10) (sg (Str.join y (b::r)))
   exact (ih _).symm
  rw[e10]
  obtain⟨c,l,e⟩:=List.exists_cons_of_ne_nil hne
  rw[e]
  exact sV s c l
theorem gS {y z:Str}(hy:sg y=[10,120])(hz:sg z=[10]):∀(parts:List Str),(sg (Str.join y parts)).getLast?≠some 120→
  (sg (Str.join z parts)).getLast?=(sg (Str.join y parts)).getLast?
 | [],_=>rfl
 | [_],_=>rfl
 |a::b::r,hl=>by
  rw[aN,hy] at hl
  rw[aN,aN,hy,hz]
  have hne:sg (Str.join y (b::r))≠[]:=by
   intro e;rw[e] at hl;simp at hl
  have hl':(sg (Str.join y (b::r))).getLast?≠some 120:=by
   intro e;apply hl
   rw[List.getLast?_append,List.getLast?_append,e];rfl
  have ih:=gS hy hz (b::r) hl'
  have hs:(sg (Str.join y (b::r))).getLast?.isSome=true:=by
   rw[Option.isSome_iff_ne_none];intro e;exact hne (List.getLast?_eq_none_iff.mp e)
  rw[List.getLast?_append,List.getLast?_append,List.getLast?_append,List.getLast?_append,ih]
  obtain⟨v,hv⟩:=Option.isSome_iff_exists.mp hs
  rw[hv];rfl
theorem iN {y z:Str}(hy:(sg y).getLast?=some 120)(hz:(sg z).getLast?=some 120):∀(parts:List Str),(sg (Str.join z parts)).getLast?=(sg (Str.join y parts)).getLast?
 | []=>rfl
 | [_]=>rfl
 |a::b::r=>by
  rw[aN,aN]
  have ih:=iN hy hz (b::r)
  rw[List.getLast?_append,List.getLast?_append,List.getLast?_append,List.getLast?_append,ih,hy,hz]
theorem lE (y:Str):∀(parts:List Str) (c:Nat),c∈sg (Str.join y parts)→c∈sg y∨∃p∈parts,c∈sg p
 | [],c,h=>by simp[Str.join,Str.empty,sg] at h
 | [a],c,h=>.inr ⟨a,.head _,h⟩
 |a::b::r,c,h=>by
  rw[aN] at h
  simp only[List.mem_append] at h
  rcases h with h|h|h
  ·exact .inr ⟨a,.head _,h⟩
  ·exact .inl h
  ·rcases lE y (b::r) c h with h|⟨p,hp,h⟩
   ·exact .inl h
   ·exact .inr ⟨p,.tail _ hp,h⟩
theorem kM (y:Str):∀(parts:List Str) (p:Str),p∈parts→∀c∈sg p,c∈sg (Str.join y parts)
 | [a],p,hp,c,h=>by
  have:p=a:=by simpa using hp
  rw[←this];exact h
 |a::b::r,p,hp,c,h=>by
  rw[aN]
  simp only[List.mem_append]
  rcases List.mem_cons.mp hp with rfl|hp
  ·exact .inl h
  ·exact .inr (.inr (kM y (b::r) p hp c h))
theorem ce {x y z:Str}(hy:y.length≠0){c:Nat}(h:c∈sg (Txt.replace x y z)):c∈sg z∨c∈sg x:=by
 obtain⟨parts,e1,e2⟩:=bq x y z hy
 rw[e2] at h
 rcases lE z parts c h with h|⟨p,hp,h⟩
 ·exact .inl h
 ·rw[←e1];exact .inr (kM y parts p hp c h)
theorem kP {y z:Str}(h:(sg z).length≤(sg y).length):∀parts:List Str,(sg (Str.join z parts)).length≤(sg (Str.join y parts)).length
 | []=>Nat.le_refl _
 | [_]=>Nat.le_refl _
 |a::b::r=>by
  have ih:=kP h (b::r)
  rw[aN,aN]
  simp only[List.length_append]
  exact Om.o0 h ih
theorem bT {x y z:Str}(hy:y.length≠0)(h:(sg z).length≤(sg y).length):(sg (Txt.replace x y z)).length≤(sg x).length:=by
 obtain⟨parts,e1,e2⟩:=bq x y z hy
 rw[e2,←e1];exact kP h parts
noncomputable def X (n:Nat):Str:=⟨(List.replicate n 120).toArray⟩
noncomputable def cD (x:Str):Str:=
 Txt.replace (Txt.replace (Txt.replace (Txt.replace (Txt.replace x (X 8) (X 1)) (X 4) (X 1)) (X 2) (X 1)) (X 2) (X 1)) ⟨#[10,120]⟩ ⟨#[10]⟩
theorem eV (x:Str)(k:Nat)(s:St):scan s (sg (Txt.replace x (X (k+1)) (X 1)))=scan s (sg x):=
 jB (by simp[X,Str.length]) (fun s=>by
  show scan s (List.replicate (k+1) 120)=scan s (List.replicate (0+1) 120)
  rw[qB,qB]) s
theorem cg (x:Str)(k:Nat):(sg (Txt.replace x (X (k+1)) (X 1))).getLast?=(sg x).getLast?:=by
 obtain⟨parts,e1,e2⟩:=bq x (X (k+1)) (X 1) (by simp[X,Str.length])
 rw[e2]
 conv=>rhs;rw[←e1]
 exact iN (by show (List.replicate (k+1) 120).getLast?=_;simp[List.getLast?_replicate]) rfl parts
theorem ll (x:Str)(h:(sg x).getLast?≠some 120)(s:St):scan s (sg (cD x))=scan s (sg x):=by
 unfold cD
 have h4:(sg (Txt.replace (Txt.replace (Txt.replace (Txt.replace x (X 8) (X 1)) (X 4) (X 1)) (X 2) (X 1)) (X 2) (X 1))).getLast?=(sg x).getLast?:=by
  rw[cg _ 1,cg _ 1,cg _ 3,cg _ 7]
 obtain⟨parts,e1,e2⟩:=bq (Txt.replace (Txt.replace (Txt.replace (Txt.replace x (X 8) (X 1)) (X 4) (X 1)) (X 2) (X 1)) (X 2) (X 1)) ⟨#[10,120]⟩ ⟨#[10]⟩ (by decide)
 rw[e2,←f7 (y:=⟨#[10,120]⟩) (z:=⟨#[10]⟩) rfl rfl parts s (by rw[e1,h4];exact h),e1,eV _ 1,eV _ 1,eV _ 3,eV _ 7]
theorem kG (x:Str)(h:(sg x).getLast?≠some 120):(sg (cD x)).getLast?=(sg x).getLast?:=by
 unfold cD
 have h4:(sg (Txt.replace (Txt.replace (Txt.replace (Txt.replace x (X 8) (X 1)) (X 4) (X 1)) (X 2) (X 1)) (X 2) (X 1))).getLast?=(sg x).getLast?:=by
  rw[cg _ 1,cg _ 1,cg _ 3,cg _ 7]
 obtain⟨parts,e1,e2⟩:=bq (Txt.replace (Txt.replace (Txt.replace (Txt.replace x (X 8) (X 1)) (X 4) (X 1)) (X 2) (X 1)) (X 2) (X 1)) ⟨#[10,120]⟩ ⟨#[10]⟩ (by decide)
 rw[e2,gS (y:=⟨#[10,120]⟩) (z:=⟨#[10]⟩) rfl rfl parts (by rw[e1,h4];exact h),e1,h4]
theorem mM {x:Str}{c:Nat}(h:c∈sg (cD x)):c=120∨c=10∨c∈sg x:=by
 unfold cD at h
 rcases ce (by decide) h with h|h
 ·exact .inr (.inl (by simpa [sg] using h))
 rcases ce (by decide) h with h|h
 ·exact .inl (by simpa [sg,X] using h)
 rcases ce (by decide) h with h|h
 ·exact .inl (by simpa [sg,X] using h)
 rcases ce (by decide) h with h|h
 ·exact .inl (by simpa [sg,X] using h)
 rcases ce (by decide) h with h|h
 ·exact .inl (by simpa [sg,X] using h)
 ·exact .inr (.inr h)
end Mine
end
section
namespace Mine
open PySem PyProof.Rows
theorem ay {A:Prop}(h:∀G:Prop,(A→G)→G):A:=h A id
theorem nos {α:Type}{a:Option α}{x:α}(e:a=none)(g:a=some x):False:=by rw[e] at g;contradiction
theorem ls0 {α:Type}{P:List α→Prop}(h:P [])(l:List α)(e:l.length=0):P l:=List.eq_nil_of_length_eq_zero e▸h
theorem lsS {α:Type}{n:Nat}{P:List α→Prop}(h:∀a l,l.length=n→P (a::l))(l:List α):l.length=n+1→P l:=
 List.casesOn (motive:=fun l=>l.length=n+1→P l) l (fun e=>absurd e.symm (Nat.succ_ne_zero n)) fun a l e=>h a l (Nat.succ.inj e)
inductive D where
 |none
 |bool (b:Bool)
 |int (i:Int)
 |str (x:Str)
 |tup (xs:List D)
 |lst (xs:List D)
inductive Bi where
 |len|isinstance|max|min|list|tuple|range|bool|int
noncomputable def Bi.val:Bi→Value
 | .len=>.builtin "len"
 | .isinstance=>.builtin "isinstance"
 | .max=>.builtin "max"
 | .min=>.builtin "min"
 | .list=>.type "list"
 | .tuple=>.type "tuple"
 | .range=>.type "range"
 | .bool=>.type "bool"
 | .int=>.type "int"
inductive V where
 |d (x:D)
 |obj (k:Nat)
 |val (w:Value)
 |rng (a b:Int)
 |bi (b:Bi)
 |mt (e:Int)
inductive O where
 |list (xs:List D)
 |ns (fs:List (Str×V))
 |inst (C:Addr) (dk:Nat)
 |bound (id:String) (k:Nat)
noncomputable abbrev aa:=List (Nat×O)
noncomputable abbrev Loc:=List (Str×V)
noncomputable def look {β:Type}:List (Str×β)→Str→Option β
 | [],_=>none
 | (y,v)::r,x=>if y=x then some v else look r x
noncomputable def put {β:Type}:List (Str×β)→Str→β→List (Str×β)
 | [],x,v=>[(x,v)]
 | (y,u)::r,x,v=>if y=x then (y,v)::r else (y,u)::put r x v
theorem ah {β:Type}(l:List (Str×β))(x y:Str)(v:β):look (put l x v) y=if y=x then some v else look l y:=by
 induction l with
 |nil=>
  dsimp only[put,look]
  by_cases h:x=y
  ·rw[if_pos h,if_pos h.symm]
  ·rw[if_neg h,if_neg (fun e=>h e.symm)]
 |cons p r ih=>
  obtain⟨z,u⟩:=p
  dsimp only[put]
  by_cases hz:z=x
  ·rw[if_pos hz]
   dsimp only[look]
   subst hz
   by_cases h:z=y
   ·rw[if_pos h,if_pos h.symm]
   ·rw[if_neg h,if_neg (fun e=>h e.symm),if_neg h]
  ·rw[if_neg hz]
   dsimp only[look]
   by_cases h:z=y
   ·rw[if_pos h,if_pos h]
    rw[if_neg (fun e=>hz (h.trans e))]
   ·rw[if_neg h,if_neg h];exact ih
noncomputable def ae:aa→Nat→Option O
 | [],_=>none
 | (j,o)::r,k=>if j=k then some o else ae r k
noncomputable def cset:aa→Nat→O→aa
 | [],_,_=>[]
 | (j,u)::r,k,o=>if j=k then (j,o)::r else (j,u)::cset r k o
noncomputable def dom (c:aa):List Nat:=c.map (·.1)
theorem al {c:aa}{k:Nat}{o:O}(h:ae c k=some o):k∈dom c:=by
 induction c with
 |nil=>cases h
 |cons p r ih=>
  obtain⟨j,u⟩:=p
  dsimp only[ae] at h
  by_cases e:j=k
  ·subst e;exact .head _
  ·rw[if_neg e] at h;exact .tail _ (ih h)
theorem qF {c:aa}{k:Nat}(h:k∈dom c):∃o,ae c k=some o:=by
 induction c with
 |nil=>cases h
 |cons p r ih=>
  obtain⟨j,u⟩:=p
  dsimp only[ae]
  by_cases e:j=k
  ·exact⟨u,if_pos e⟩
  ·rw[if_neg e]
   rcases List.mem_cons.mp h with h|h
   ·exact absurd h.symm e
   ·exact ih h
theorem ai (c:aa)(k:Nat)(o:O):dom (cset c k o)=dom c:=by
 induction c with
 |nil=>rfl
 |cons p r ih=>
  obtain⟨j,u⟩:=p
  dsimp only[cset]
  by_cases e:j=k
  ·rw[if_pos e];rfl
  ·rw[if_neg e];show j::dom (cset r k o)=_;rw[ih];rfl
theorem ar {c:aa}{k:Nat}(h:k∈dom c)(o:O)(j:Nat):ae (cset c k o) j=if j=k then some o else ae c j:=by
 induction c with
 |nil=>cases h
 |cons p r ih=>
  obtain⟨i,u⟩:=p
  show ae (if i=k then _ else _) j=if j=k then _ else if i=j then _ else _
  by_cases e:i=k
  ·subst e
   rw[if_pos rfl]
   by_cases h':i=j
   ·subst h';rw[if_pos rfl];exact if_pos rfl
   ·rw[if_neg (fun e=>h' e.symm),if_neg h'];exact if_neg h'
  ·have hk:k∈dom r:=(List.mem_cons.mp h).resolve_left fun h=>e h.symm
   rw[if_neg e]
   show (if i=j then _ else ae (cset r k o) j)=_
   rw[ih hk]
   by_cases h':i=j
   ·subst h';rw[if_pos rfl,if_neg e,if_pos rfl]
   ·rw[if_neg h',if_neg h']
noncomputable abbrev bc (T:String) (ws:List Value) (ep:Nat):Obj:={cls:=.type T,data:=.seq ws.toArray ep}
noncomputable abbrev j7 (id:String) (a:Addr):Obj:={cls:=.type "builtin_function_or_method",data:=.fields #[.builtin id,.ref a]}
noncomputable abbrev xt (a b:Int) (t u v:Tok):Obj:={cls:=.type "range",data:=.fields #[.int a t,.int b u,.int 1 v]}
noncomputable def dw (o:Obj):Bool:=match o.data with
 | .seq ..=>true
 | .fields _=>o.cls==.type "range" || o.cls==.type "re.Match"
 |_=>false
theorem ifO {α:Type}{p:Prop} [Decidable p] {a:Option α}{r:α}(h:(if p then a else none)=some r):p∧a=some r:=by
 by_cases q:p
 ·rw[if_pos q] at h;exact⟨q,h⟩
 ·rw[if_neg q] at h;contradiction
noncomputable def gv:V→Option Str
 | .d x=>(match x with
  | .str u=>some u
  |_=>none)
 |_=>none
theorem gW {v:V}{x:Str}(h:gv v=some x):v=.d (.str x):=by
 cases v with
 |d y=>cases y with
  |str u=>exact Option.some.inj h▸rfl
  |_=>contradiction
 |_=>contradiction
def aw {β:Type}(o:Option β)(f:β→Prop):Prop:=match o with
 |some x=>f x
 |none=>False
def onD (u:V)(f:D→Prop):Prop:=match u with
 | .d x=>f x
 |_=>False
def gF (u:V)(f:Nat→Prop):Prop:=match u with
 | .obj k=>f k
 |_=>False
def sD (x:D)(f:Str→Prop):Prop:=match x with
 | .str x=>f x
 |_=>False
def iD (x:D)(f:Int→Prop):Prop:=match x with
 | .int x=>f x
 |_=>False
def fw (u:V)(f:Str→Prop):Prop:=onD u fun x=>sD x f
def fN (u:V)(f:Int→Prop):Prop:=onD u fun x=>iD x f
def lO (x:O)(f:List D→Prop):Prop:=match x with
 | .list xs=>f xs
 |_=>False
def nO (x:O)(f:List (Str×V)→Prop):Prop:=match x with
 | .ns xs=>f xs
 |_=>False
def jO (x:O)(f:Addr→Nat→Prop):Prop:=match x with
 | .inst C k=>f C k
 |_=>False
def bO (x:O)(f:String→Nat→Prop):Prop:=match x with
 | .bound C k=>f C k
 |_=>False
def cz (o:Option O)(f:List D→Prop):Prop:=aw o fun x=>lO x f
def xf (o:Option O)(f:List (Str×V)→Prop):Prop:=aw o fun x=>nO x f
def er (o:Option O)(f:Addr→Nat→Prop):Prop:=aw o fun x=>jO x f
def eP (o:Option O)(f:String→Nat→Prop):Prop:=aw o fun x=>bO x f
theorem ax {β:Type}{o:Option β}{f:β→Prop}(h:aw o f):∃x,o=some x∧f x:=by
 cases o with
 |some x=>exact⟨x,rfl,h⟩
 |none=>exact h.elim
theorem cL {u:V}{f:D→Prop}(h:onD u f):∃x,u=.d x∧f x:=by
 cases u with
 |d x=>exact⟨x,rfl,h⟩
 |_=>exact h.elim
theorem d0 {u:V}{f:Nat→Prop}(h:gF u f):∃x,u=.obj x∧f x:=by
 cases u with
 |obj x=>exact⟨x,rfl,h⟩
 |_=>exact h.elim
theorem cy {u:V}{f:Str→Prop}(h:fw u f):∃x,u=.d (.str x)∧f x:=by
 obtain⟨x,rfl,h⟩:=cL h
 cases x with
 |str x=>exact⟨x,rfl,h⟩
 |_=>exact h.elim
theorem b9 {u:V}{f:Int→Prop}(h:fN u f):∃x,u=.d (.int x)∧f x:=by
 obtain⟨x,rfl,h⟩:=cL h
 cases x with
 |int x=>exact⟨x,rfl,h⟩
 |_=>exact h.elim
theorem cH {o:Option O}{f:List D→Prop}(h:cz o f):∃xs,o=some (.list xs)∧f xs:=by
 obtain⟨x,rfl,h⟩:=ax h
 cases x with
 |list xs=>exact⟨xs,rfl,h⟩
 |_=>exact h.elim
theorem kt {o:Option O}{f:List (Str×V)→Prop}(h:xf o f):∃xs,o=some (.ns xs)∧f xs:=by
 obtain⟨x,rfl,h⟩:=ax h
 cases x with
 |ns xs=>exact⟨xs,rfl,h⟩
 |_=>exact h.elim
theorem f0 {o:Option O}{f:Addr→Nat→Prop}(h:er o f):∃C k,o=some (.inst C k)∧f C k:=by
 obtain⟨x,rfl,h⟩:=ax h
 cases x with
 |inst C k=>exact⟨C,k,rfl,h⟩
 |_=>exact h.elim
theorem fK {o:Option O}{f:String→Nat→Prop}(h:eP o f):∃C k,o=some (.bound C k)∧f C k:=by
 obtain⟨x,rfl,h⟩:=ax h
 cases x with
 |bound C k=>exact⟨C,k,rfl,h⟩
 |_=>exact h.elim
noncomputable abbrev Al:=Nat→Addr
def aE (c:aa)(α:Al)(b:Addr):Prop:=∃k∈dom c,α k=b
mutual
inductive IsD (h:Heap)(own:Addr→Prop):D→Value→Prop
 |none:IsD h own .none .none
 |bool (b:Bool):IsD h own (.bool b) (.bool b)
 |int (i:Int) (t:Tok):IsD h own (.int i) (.int i t)
 |str (x:Str) (t:Tok):IsD h own (.str x) (.str x t)
 |tup {xs:List D} {ws:List Value} {a:Addr} {ep:Nat}:h.get? a=some (bc "tuple" ws ep)→¬own a→IsDs h own xs ws→IsD h own (.tup xs) (.ref a)
 |lst {xs:List D} {ws:List Value} {a:Addr} {ep:Nat}:h.get? a=some (bc "list" ws ep)→¬own a→IsDs h own xs ws→IsD h own (.lst xs) (.ref a)
inductive IsDs (h:Heap)(own:Addr→Prop):List D→List Value→Prop
 |nil:IsDs h own [] []
 |cons {x:D} {w:Value} {xs:List D} {ws:List Value}:IsD h own x w→IsDs h own xs ws→IsDs h own (x::xs) (w::ws)
end
def Inv (h:Heap)(own:Addr→Prop)(x:D)(w:Value):Prop:=match x with
 | .none=>w=.none
 | .bool b=>w=.bool b
 | .int i=>∃t,w=.int i t
 | .str x=>∃t,w=.str x t
 | .tup xs=>∃ws a ep,w=.ref a∧h.get? a=some (bc "tuple" ws ep)∧¬own a∧IsDs h own xs ws
 | .lst xs=>∃ws a ep,w=.ref a∧h.get? a=some (bc "list" ws ep)∧¬own a∧IsDs h own xs ws
theorem IsD.inv {h:Heap}{own:Addr→Prop}{x:D}{w:Value}(i:IsD h own x w):Inv h own x w:=
 IsD.casesOn (motive_1:=fun x w _=>Inv h own x w) i rfl (fun _=>rfl) (fun _ t=>⟨t,rfl⟩) (fun _ t=>⟨t,rfl⟩) (fun g n r=>⟨_,_,_,rfl,g,n,r⟩) (fun g n r=>⟨_,_,_,rfl,g,n,r⟩)
theorem IsDs.ind {h:Heap}{own:Addr→Prop}{M:List D→List Value→Prop}(nil:M [] [])(cons:∀{x w xs ws},IsD h own x w→IsDs h own xs ws→M xs ws→M (x::xs) (w::ws)){xs:List D}{ws:List Value}(i:IsDs h own xs ws):M xs ws:=
 IsDs.rec (motive_1:=fun _ _ _=>True) (motive_2:=fun xs ws _=>M xs ws) trivial (fun _=>trivial) (fun _ _=>trivial) (fun _ _=>trivial) (fun _ _ _ _=>trivial) (fun _ _ _ _=>trivial) nil (fun a r _ m=>cons a r m) i
def x3 (h:Heap)(own:Addr→Prop)(xs:List D)(ws:List Value):Prop:=match xs with
 | []=>ws=[]
 |x::r=>∃w ws',ws=w::ws'∧IsD h own x w∧IsDs h own r ws'
theorem IsDs.inv {h:Heap}{own:Addr→Prop}{xs:List D}{ws:List Value}(i:IsDs h own xs ws):x3 h own xs ws:=
 i.ind (M:=x3 h own) rfl fun a r _=>⟨_,_,rfl,a,r⟩
theorem IsD.two {h:Heap}{own:Addr→Prop}{x y:D}{w:Value}(i:IsD h own (.tup [x,y]) w):∃wx wy a ep,w=.ref a∧h.get? a=some (bc "tuple" [wx,wy] ep)∧IsD h own x wx∧IsD h own y wy:=by
 obtain⟨ws,a,ep,e,g,_,r⟩:=i.inv
 obtain⟨wx,r1,rfl,ix,r⟩:=r.inv
 obtain⟨wy,r2,rfl,iy,r⟩:=r.inv
 obtain rfl:r2=[]:=r.inv
 exact⟨wx,wy,a,ep,e,g,ix,iy⟩
theorem IsDs.length {h:Heap}{own:Addr→Prop}{xs:List D}{ws:List Value}(i:IsDs h own xs ws):xs.length=ws.length:=
 i.ind (M:=fun xs ws=>xs.length=ws.length) rfl fun _ _ m=>congrArg Nat.succ m
theorem IsDs.append {h:Heap}{own:Addr→Prop}{ys:List D}{vs:List Value}(y:IsDs h own ys vs){xs:List D}{ws:List Value}(i:IsDs h own xs ws):IsDs h own (xs++ys) (ws++vs):=
 i.ind (M:=fun xs ws=>IsDs h own (xs++ys) (ws++vs)) y fun a _ m=>.cons a m
theorem IsDs.get {h:Heap}{own:Addr→Prop}{xs:List D}{ws:List Value}(i:IsDs h own xs ws):∀(i:Nat) (x:D),xs[i]?=some x→∃w,ws[i]?=some w∧IsD h own x w:=
 i.ind (M:=fun xs ws=>∀(i:Nat) (x:D),xs[i]?=some x→∃w,ws[i]?=some w∧IsD h own x w) (fun _ _=>nofun) fun a _ m k=>Nat.casesOn k (fun _ e=>Option.some.inj e▸⟨_,rfl,a⟩) m
theorem IsDs.drop {h:Heap}{own:Addr→Prop}{xs:List D}{ws:List Value}(i:IsDs h own xs ws):∀n,IsDs h own (xs.drop n) (ws.drop n):=
 i.ind (M:=fun xs ws=>∀n,IsDs h own (xs.drop n) (ws.drop n)) (fun n=>Nat.casesOn n .nil fun _=>.nil) fun a r m n=>Nat.casesOn n (.cons a r) m
theorem IsDs.take {h:Heap}{own:Addr→Prop}{xs:List D}{ws:List Value}(i:IsDs h own xs ws):∀n,IsDs h own (xs.take n) (ws.take n):=
 i.ind (M:=fun xs ws=>∀n,IsDs h own (xs.take n) (ws.take n)) (fun n=>Nat.casesOn n .nil fun _=>.nil) fun a _ m n=>Nat.casesOn n .nil fun n=>.cons a (m n)
theorem IsD.step {own own':Addr→Prop}{h h':Heap}(kept:∀b o,dw o=true→h.get? b=some o→¬own b→h'.get? b=some o)
  (grow:∀b,own' b→own b∨h.get? b=Option.none) {x:D} {w:Value} (i:IsD h own x w):IsD h' own' x w:=
 have nn:∀{b o},h.get? b=some o→¬own b→¬own' b:=fun g n e=>(grow _ e).elim n fun e=>nos e g
 IsD.rec (motive_1:=fun x w _=>IsD h' own' x w) (motive_2:=fun xs ws _=>IsDs h' own' xs ws) .none .bool .int .str (fun g n _ r=>.tup (kept _ _ rfl g n) (nn g n) r) (fun g n _ r=>.lst (kept _ _ rfl g n) (nn g n) r) .nil (fun _ _ a r=>.cons a r) i
theorem IsDs.step {own own':Addr→Prop}{h h':Heap}(kept:∀b o,dw o=true→h.get? b=some o→¬own b→h'.get? b=some o)
  (grow:∀b,own' b→own b∨h.get? b=none) {xs:List D} {ws:List Value} (i:IsDs h own xs ws):IsDs h' own' xs ws:=
 i.ind (M:=fun xs ws=>IsDs h' own' xs ws) .nil fun a _ m=>.cons (a.step kept grow) m
structure IsM (h:Heap)(own:Addr→Prop)(r:Addr)(e:Int):Prop where
 ob:∃fs tup i ep,h.get? r=some {cls:=.type "re.Match",data:=.fields fs}∧fs.getD 5 .none=.ref tup∧h.get? tup=some (bc "tuple" [.int i 0,.int e 0] ep)∧¬own tup
 no:¬own r
theorem IsM.step {own own':Addr→Prop}{h h':Heap}(kept:∀b o,dw o=true→h.get? b=some o→¬own b→h'.get? b=some o)(grow:∀b,own' b→own b∨h.get? b=none){r:Addr}{e:Int}(i:IsM h own r e):IsM h' own' r e:=by
 obtain⟨fs,tup,j,ep,g1,g2,g3,n⟩:=i.ob
 have nn:∀{b o},h.get? b=some o→¬own b→¬own' b:=fun g n e=>(grow _ e).elim n (fun e=>by rw[e] at g;cases g)
 exact⟨⟨fs,tup,j,ep,kept _ _ rfl g1 i.no,g2,kept _ _ rfl g3 n,nn g3 n⟩,nn g1 i.no⟩
def IsV (c:aa)(α:Al)(h:Heap):V→Value→Prop
 | .d x,w=>IsD h (aE c α) x w
 | .obj k,w=>w=.ref (α k)∧k∈dom c
 | .val v,w=>w=v
 | .bi b,w=>w=b.val
 | .mt e,w=>∃r,w=.ref r∧IsM h (aE c α) r e
 | .rng a b,w=>∃r t u v,w=.ref r∧h.get? r=some (xt a b t u v)∧¬aE c α r
def IsO (c:aa)(α:Al)(h:Heap)(a:Addr):O→Prop
 | .list xs=>∃ws ep,h.get? a=some (bc "list" ws ep)∧IsDs h (aE c α) xs ws
 | .ns fs=>∃o es ep,h.get? a=some o∧o.data=.dict es ep∧StrKeys es∧es.size=fs.length∧
   ∀x,match look fs x with
    |some v=>∃w,nsFind es x=some w∧IsV c α h v w
    |none=>nsFind es x=none
 | .inst C dk=>h.get? a=some {cls:=.ref C,dict:=some (α dk)}∧dk∈dom c
 | .bound id k=>h.get? a=some (j7 id (α k))∧k∈dom c
structure Le (c:aa)(α:Al)(h:Heap)(c':aa)(α':Al)(h':Heap):Prop where
 dom:∀k∈dom c,k∈Mine.dom c'
 agree:∀k∈Mine.dom c,α' k=α k
 kept:∀b o,h.get? b=some o→¬aE c α b→h'.get? b=some o
 grow:∀k∈Mine.dom c',aE c α (α' k)∨h.get? (α' k)=none
theorem Le.refl (c:aa)(α:Al)(h:Heap):Le c α h c α h:=
 ⟨fun _ x=>x,fun _ _=>rfl,fun _ _ e _=>e,fun k hk=>.inl ⟨k,hk,rfl⟩⟩
theorem Le.not_own {c c':aa}{α α':Al}{h h':Heap}(x:Le c α h c' α' h'){b:Addr}{o:Obj}(e:h.get? b=some o)(n:¬aE c α b):¬aE c' α' b:=by
 rintro⟨k,hk,rfl⟩
 rcases x.grow k hk with q|q
 ·exact n q
 ·rw[q] at e;contradiction
theorem Le.trans {c₁ c₂ c₃:aa}{α₁ α₂ α₃:Al}{h₁ h₂ h₃:Heap}(x:Le c₁ α₁ h₁ c₂ α₂ h₂)(y:Le c₂ α₂ h₂ c₃ α₃ h₃):Le c₁ α₁ h₁ c₃ α₃ h₃:=by
 refine⟨fun k hk=>y.dom k (x.dom k hk),fun k hk=>(y.agree k (x.dom k hk)).trans (x.agree k hk),fun b o e n=>y.kept b o (x.kept b o e n) (x.not_own e n),fun k hk=>?_⟩
 rcases y.grow k hk with ⟨j,hj,e⟩|q
 ·rw[←e];exact x.grow j hj
 ·by_cases n:aE c₁ α₁ (α₃ k)
  ·exact .inl n
  ·refine .inr ?_
   cases e:h₁.get? (α₃ k) with
   |none=>rfl
   |some o=>rw[x.kept _ _ e n] at q;contradiction
theorem Le.isD {c c':aa}{α α':Al}{h h':Heap}(x:Le c α h c' α' h'){d:D}{w:Value}(i:IsD h (aE c α) d w):IsD h' (aE c' α') d w:=
 i.step (fun b _ _ e n=>x.kept b _ e n) (fun b ⟨k,hk,e⟩=>e▸x.grow k hk)
theorem Le.isDs {c c':aa}{α α':Al}{h h':Heap}(x:Le c α h c' α' h'){ds:List D}{ws:List Value}(i:IsDs h (aE c α) ds ws):IsDs h' (aE c' α') ds ws:=
 i.step (fun b _ _ e n=>x.kept b _ e n) (fun b ⟨k,hk,e⟩=>e▸x.grow k hk)
theorem Le.isV {c c':aa}{α α':Al}{h h':Heap}(x:Le c α h c' α' h'){v:V}{w:Value}(i:IsV c α h v w):IsV c' α' h' v w:=by
 cases v with
 |d y=>exact x.isD i
 |obj k=>exact⟨by rw[x.agree k i.2];exact i.1,x.dom k i.2⟩
 |val u=>exact i
 |rng p q=>obtain⟨r,t,u,v,e,g,n⟩:=i;exact⟨r,t,u,v,e,x.kept _ _ g n,x.not_own g n⟩
 |bi b=>exact i
 |mt e=>obtain⟨r,e,m⟩:=i;exact⟨r,e,m.step (fun b _ _ e n=>x.kept b _ e n) (fun b ⟨k,hk,e⟩=>e▸x.grow k hk)⟩
inductive IsVs (c:aa)(α:Al)(h:Heap):List V→List Value→Prop
 |nil:IsVs c α h [] []
 |cons {v:V} {w:Value} {vs:List V} {ws:List Value}:IsV c α h v w→IsVs c α h vs ws→IsVs c α h (v::vs) (w::ws)
def yA (c:aa)(α:Al)(h:Heap)(vs:List V)(ws:List Value):Prop:=match vs with
 | []=>ws=[]
 |v::r=>∃w ws',ws=w::ws'∧IsV c α h v w∧IsVs c α h r ws'
theorem IsVs.inv {c:aa}{α:Al}{h:Heap}{vs:List V}{ws:List Value}(i:IsVs c α h vs ws):yA c α h vs ws:=
 IsVs.casesOn (motive:=fun vs ws _=>yA c α h vs ws) i rfl fun a r=>⟨_,_,rfl,a,r⟩
theorem IsVs.one {c:aa}{α:Al}{h:Heap}{v:V}{ws:List Value}(i:IsVs c α h [v] ws):∃w,ws=[w]∧IsV c α h v w:=by
 obtain⟨w,ws',rfl,i1,r⟩:=i.inv
 exact⟨w,congrArg (w::·) r.inv,i1⟩
theorem IsVs.two {c:aa}{α:Al}{h:Heap}{v v':V}{ws:List Value}(i:IsVs c α h [v,v'] ws):∃w w',ws=[w,w']∧IsV c α h v w∧IsV c α h v' w':=by
 obtain⟨w,ws',rfl,i1,r⟩:=i.inv
 obtain⟨w',rfl,i2⟩:=r.one
 exact⟨w,w',rfl,i1,i2⟩
theorem Le.isVs {c c':aa}{α α':Al}{h h':Heap}(x:Le c α h c' α' h'){vs:List V}{ws:List Value}(i:IsVs c α h vs ws):IsVs c' α' h' vs ws:=
 IsVs.rec (motive:=fun vs ws _=>IsVs c' α' h' vs ws) .nil (fun a _ m=>.cons (x.isV a) m) i
theorem Le.isO {c c':aa}{α α':Al}{h h':Heap}(x:Le c α h c' α' h'){a:Addr}{o:O}(e:∀q,h.get? a=some q→h'.get? a=some q)(i:IsO c α h a o):IsO c' α' h' a o:=by
 cases o with
 |list xs=>obtain⟨ws,ep,g,d⟩:=i;exact⟨ws,ep,e _ g,x.isDs d⟩
 |ns fs=>
  obtain⟨q,es,ep,g,hd,sk,sz,f⟩:=i
  refine⟨q,es,ep,e _ g,hd,sk,sz,fun y=>?_⟩
  have:=f y
  cases hl:look fs y with
  |none=>rw[hl] at this;exact this
  |some v=>rw[hl] at this;obtain⟨w,h1,h2⟩:=this;exact⟨w,h1,x.isV h2⟩
 |inst C dk=>refine⟨?_,x.dom _ i.2⟩;rw[x.agree dk i.2];exact e _ i.1
 |bound id k=>refine⟨?_,x.dom _ i.2⟩;rw[x.agree k i.2];exact e _ i.1
structure Cst (hb:Heap)(pr:List Nat)(c:aa)(α:Al)(h:Heap):Prop where
 base:∀b o,hb.get? b=some o→h.get? b=some o
 cell:∀k o,ae c k=some o→IsO c α h (α k) o
 fresh:∀k∈dom c,hb.get? (α k)=none
 inj:∀k∈dom c,∀j∈dom c,α k=α j→k=j
 prs:∀k∈pr,k∈dom c
theorem IsO.ex {c:aa}{α:Al}{h:Heap}{a:Addr}{o:O}(i:IsO c α h a o):∃q,h.get? a=some q:=by
 cases o with
 |list xs=>obtain⟨ws,ep,g,d⟩:=i;exact⟨_,g⟩
 |ns fs=>obtain⟨q,es,ep,g,r⟩:=i;exact⟨_,g⟩
 |inst C dk=>exact⟨_,i.1⟩
 |bound id k=>exact⟨_,i.1⟩
theorem Cst.ex {hb h:Heap}{pr:List Nat}{c:aa}{α:Al}(C:Cst hb pr c α h){k:Nat}(hk:k∈dom c):∃q,h.get? (α k)=some q:=by
 obtain⟨o,ho⟩:=qF hk
 exact (C.cell k o ho).ex
theorem Cst.base_not_own {hb h:Heap}{pr:List Nat}{c:aa}{α:Al}(C:Cst hb pr c α h){b:Addr}{o:Obj}(e:hb.get? b=some o):¬aE c α b:=by
 rintro⟨k,hk,rfl⟩
 rw[C.fresh k hk] at e;contradiction
theorem Cst.keeps {hb h h':Heap}{pr:List Nat}{c:aa}{α:Al}(C:Cst hb pr c α h)(k:∀b o,h.get? b=some o→h'.get? b=some o):Cst hb pr c α h'∧Le c α h c α h':=by
 have L:Le c α h c α h':=⟨fun _ x=>x,fun _ _=>rfl,fun b o e _=>k b o e,fun j hj=>.inl ⟨j,hj,rfl⟩⟩
 exact⟨⟨fun b o e=>k _ _ (C.base b o e),fun j o e=>L.isO (fun q=>k _ q) (C.cell j o e),C.fresh,C.inj,C.prs⟩,L⟩
noncomputable def upd (α:Al)(k:Nat)(a:Addr):Al:=fun j=>if j=k then a else α j
theorem aH {c:aa}{k:Nat}{o:O}(hk:k∉dom c)(j:Nat):ae (c++[(k,o)]) j=if j=k then some o else ae c j:=by
 induction c with
 |nil=>
  show (if k=j then some o else none)=_
  by_cases e:k=j
  ·rw[if_pos e,if_pos e.symm]
  ·rw[if_neg e,if_neg (fun q=>e q.symm)];rfl
 |cons p r ih=>
  obtain⟨i,u⟩:=p
  have h1:k≠i:=fun e=>hk (e▸.head _)
  have h2:k∉dom r:=fun e=>hk (.tail _ e)
  show (if i=j then some u else ae (r++[(k,o)]) j)=if j=k then some o else if i=j then some u else ae r j
  rw[ih h2]
  by_cases e:i=j
  ·rw[if_pos e,if_pos e,if_neg (fun q=>h1 (q.symm.trans e.symm))]
  ·rw[if_neg e,if_neg e]
theorem af (c:aa)(k:Nat)(o:O):dom (c++[(k,o)])=dom c++[k]:=by simp[dom]
theorem Cst.new {hb h:Heap}{pr:List Nat}{c:aa}{α:Al}(C:Cst hb pr c α h){k:Nat}(hk:k∉dom c)(q:Obj){o:O}
  (hq:Le c α h (c++[(k,o)]) (upd α k h.objs.size) (h.push q)→IsO (c++[(k,o)]) (upd α k h.objs.size) (h.push q) h.objs.size o) :
  Cst hb pr (c++[(k,o)]) (upd α k h.objs.size) (h.push q)∧Le c α h (c++[(k,o)]) (upd α k h.objs.size) (h.push q):=by
 have hn:h.get? h.objs.size=none:=by
  cases e:h.get? h.objs.size with
  |none=>rfl
  |some o'=>exact absurd (Heap.lt_size e) (Nat.lt_irrefl _)
 have ag:∀j∈dom c,upd α k h.objs.size j=α j:=fun j hj=>by
  show (if j=k then _ else _)=_
  rw[if_neg (fun (e:j=k)=>hk (e▸hj))]
 have ak:upd α k h.objs.size k=h.objs.size:=if_pos rfl
 have L:Le c α h (c++[(k,o)]) (upd α k h.objs.size) (h.push q):=by
  refine⟨fun j hj=>by rw[af];exact List.mem_append_left _ hj,ag,fun b o e _=>Heap.get?_push_of_some _ e,fun j hj=>?_⟩
  rw[af] at hj
  rcases List.mem_append.mp hj with hj|hj
  ·rw[ag j hj];exact .inl ⟨j,hj,rfl⟩
  ·have:j=k:=by simpa using hj
   rw[this,ak];exact .inr hn
 refine⟨⟨fun b o e=>Heap.get?_push_of_some _ (C.base b o e),fun j u e=>?_,fun j hj=>?_,fun i hi j hj e=>?_,fun j hj=>L.dom j (C.prs j hj)⟩,L⟩
 ·rw[aH hk] at e
  by_cases hj:j=k
  ·rw[if_pos hj] at e;(injection e with e;subst e);rw[hj,ak];exact hq L
  ·rw[if_neg hj] at e
   rw[ag j (al e)]
   exact L.isO (fun q e=>Heap.get?_push_of_some _ e) (C.cell j u e)
 ·rw[af] at hj
  rcases List.mem_append.mp hj with hj|hj
  ·rw[ag j hj];exact C.fresh j hj
  ·have:j=k:=by simpa using hj
   rw[this,ak]
   cases e:hb.get? h.objs.size with
   |none=>rfl
   |some o'=>rw[C.base _ _ e] at hn;contradiction
 ·rw[af] at hi hj
  have lt:∀j∈dom c,α j<h.objs.size:=fun j hj=>by obtain⟨q,e⟩:=C.ex hj;exact Heap.lt_size e
  rcases List.mem_append.mp hi with hi|hi<;>rcases List.mem_append.mp hj with hj|hj
  ·rw[ag i hi,ag j hj] at e;exact C.inj i hi j hj e
  ·have:j=k:=by simpa using hj
   rw[this,ak,ag i hi] at e
   exact absurd (lt i hi) (by rw[e];exact Nat.lt_irrefl _)
  ·have:i=k:=by simpa using hi
   rw[this,ak,ag j hj] at e
   exact absurd (lt j hj) (by rw[←e];exact Nat.lt_irrefl _)
  ·have h1:i=k:=by simpa using hi
   have h2:j=k:=by simpa using hj
   rw[h1,h2]
theorem Cst.set {hb h h':Heap}{pr:List Nat}{c:aa}{α:Al}(C:Cst hb pr c α h){k:Nat}(hk:k∈dom c){o:O}(hs:Heap.SameBut (α k) h h')
  (hq:Le c α h (cset c k o) α h'→IsO (cset c k o) α h' (α k) o):Cst hb pr (cset c k o) α h'∧Le c α h (cset c k o) α h':=by
 have L:Le c α h (cset c k o) α h':=by
  refine⟨fun j hj=>by rw[ai];exact hj,fun _ _=>rfl,fun b q e n=>?_,fun j hj=>.inl ⟨j,by rw[ai] at hj;exact hj,rfl⟩⟩
  rw[hs.2 b (fun e=>n ⟨k,hk,e.symm⟩)];exact e
 refine⟨⟨fun b q e=>L.kept _ _ (C.base b q e) (C.base_not_own e),fun j u e=>?_,fun j hj=>C.fresh j (by rw[ai] at hj;exact hj),
  fun i hi j hj=>C.inj i (by rw[ai] at hi;exact hi) j (by rw[ai] at hj;exact hj),fun j hj=>by rw[ai];exact C.prs j hj⟩,L⟩
 rw[ar hk] at e
 by_cases hj:j=k
 ·rw[if_pos hj] at e;(injection e with e;subst e);rw[hj];exact hq L
 ·rw[if_neg hj] at e
  refine L.isO (fun q g=>?_) (C.cell j u e)
  rw[hs.2 _ (fun e'=>hj (C.inj j (al e) k hk e'))];exact g
inductive Held (h:Heap)(env:Env)(x:Str)(w:Value):Prop
 |loc (m:Str→Option Value):env.kindOf x=some .local→h.Ns env.locals m→m x=some w→Held h env x w
 |cel (b:Addr) (o:Obj):env.kindOf x=some .cell→env.cells.lookup x=some b→h.get? b=some o→o.data=.cell (some w)→Held h env x w
 |free (b:Addr) (o:Obj):env.kindOf x=some .free→env.cells.lookup x=some b→h.get? b=some o→o.data=.cell (some w)→Held h env x w
def FrA (env:Env)(b:Addr):Prop:=b=env.locals∨∃x,env.cells.lookup x=some b
structure EnvOk (env:Env):Prop where
 kind:env.scope.kind=.function
 apart:∀x b,env.cells.lookup x=some b→b≠env.locals
 one:∀x y b,env.cells.lookup x=some b→env.cells.lookup y=some b→x=y
 inter:interactive env=false
structure Fst (hb:Heap)(pr:List Nat)(env:Env)(l:Loc)(c:aa)(α:Al)(h:Heap):Prop extends Cst hb pr c α h where
 ns:∃m,h.Ns env.locals m
 cel:∀x b,env.cells.lookup x=some b→∃o v,h.get? b=some o∧o.data=.cell v
 loc:∀x v,look l x=some v→∃w,Held h env x w∧IsV c α h v w
 fr:∀b,FrA env b→hb.get? b=none∧¬aE c α b
theorem Held.le {h h':Heap}{env:Env}{x:Str}{w:Value}(H:Held h env x w)(k:∀b o,FrA env b→h.get? b=some o→h'.get? b=some o):Held h' env x w:=by
 cases H with
 |loc m a b e=>exact .loc m a (let ⟨o,es,ep,ho,r⟩:=b;⟨o,es,ep,k _ _ (.inl rfl) ho,r⟩) e
 |cel b o a e g d=>exact .cel b o a e (k _ _ (.inr ⟨x,e⟩) g) d
 |free b o a e g d=>exact .free b o a e (k _ _ (.inr ⟨x,e⟩) g) d
theorem Fst.le {hb h h':Heap}{pr:List Nat}{env:Env}{l:Loc}{c c':aa}{α α':Al}(F:Fst hb pr env l c α h)(L:Le c α h c' α' h')(C:Cst hb pr c' α' h'):Fst hb pr env l c' α' h':=by
 have k:∀b o,FrA env b→h.get? b=some o→h'.get? b=some o:=fun b o f e=>L.kept b o e (F.fr b f).2
 have ex:∀b,FrA env b→∃o,h.get? b=some o:=by
  rintro b (rfl|⟨x,e⟩)
  ·obtain⟨m,o,es,ep,ho,r⟩:=F.ns;exact⟨o,ho⟩
  ·obtain⟨o,v,g,d⟩:=F.cel x b e;exact⟨o,g⟩
 refine⟨C,?_,fun x b e=>?_,fun x v e=>?_,fun b f=>?_⟩
 ·obtain⟨m,o,es,ep,ho,r⟩:=F.ns;exact⟨m,o,es,ep,k _ _ (.inl rfl) ho,r⟩
 ·obtain⟨o,v,g,d⟩:=F.cel x b e;exact⟨o,v,k _ _ (.inr ⟨x,e⟩) g,d⟩
 ·obtain⟨w,H,i⟩:=F.loc x v e;exact⟨w,H.le k,L.isV i⟩
 ·obtain⟨o,e⟩:=ex b f
  exact⟨(F.fr b f).1,L.not_own e (F.fr b f).2⟩
theorem Fst.keeps {hb h h':Heap}{pr:List Nat}{env:Env}{l:Loc}{c:aa}{α:Al}(F:Fst hb pr env l c α h)(k:∀b o,h.get? b=some o→h'.get? b=some o) :
  Fst hb pr env l c α h'∧Le c α h c α h':=by
 obtain⟨C,L⟩:=F.toCst.keeps k
 exact⟨F.le L C,L⟩
theorem Fst.push {hb h:Heap}{pr:List Nat}{env:Env}{l:Loc}{c:aa}{α:Al}(F:Fst hb pr env l c α h)(q:Obj) :
  Fst hb pr env l c α (h.push q)∧Le c α h c α (h.push q):=F.keeps fun _ _ e=>Heap.get?_push_of_some _ e
theorem Fst.new {hb h:Heap}{pr:List Nat}{env:Env}{l:Loc}{c:aa}{α:Al}(F:Fst hb pr env l c α h){k:Nat}(hk:k∉dom c)(q:Obj){o:O}
  (hq:Le c α h (c++[(k,o)]) (upd α k h.objs.size) (h.push q)→IsO (c++[(k,o)]) (upd α k h.objs.size) (h.push q) h.objs.size o) :
  Fst hb pr env l (c++[(k,o)]) (upd α k h.objs.size) (h.push q)∧Le c α h (c++[(k,o)]) (upd α k h.objs.size) (h.push q):=by
 obtain⟨C,L⟩:=F.toCst.new hk q hq
 exact⟨F.le L C,L⟩
theorem Fst.set {hb h h':Heap}{pr:List Nat}{env:Env}{l:Loc}{c:aa}{α:Al}(F:Fst hb pr env l c α h){k:Nat}(hk:k∈dom c){o:O}(hs:Heap.SameBut (α k) h h')
  (hq:Le c α h (cset c k o) α h'→IsO (cset c k o) α h' (α k) o):Fst hb pr env l (cset c k o) α h'∧Le c α h (cset c k o) α h':=by
 obtain⟨C,L⟩:=F.toCst.set hk hs hq
 exact⟨F.le L C,L⟩
theorem a9 {hb h:Heap}{pr:List Nat}{c:aa}{α:Al}(C:Cst hb pr c α h):¬aE c α h.objs.size:=by
 rintro⟨k,hk,e⟩
 obtain⟨q,g⟩:=C.ex hk
 rw[e] at g
 exact absurd (Heap.lt_size g) (Nat.lt_irrefl _)
abbrev no:Value→Shared→Prop:=fun _ _=>False
section
variable (M:Model)(A:Around)(hb:Heap)(pr:List Nat)(env:Env)
def OkE {β γ:Type}(I:aa→Al→Heap→β→γ→Prop)(l:Loc)(c:aa)(t:Sem γ)(K:β→aa→Prop):Prop:=
 ∀(α:Al) (s:Shared) (Q:γ→Shared→Prop),1≤s.toks→Fst hb pr env l c α s.heap→
  (∀b c' α' g h' tk,1≤tk→K b c'→Fst hb pr env l c' α' h'→Le c α s.heap c' α' h'→I c' α' h' b g→Q g {s with heap:=h',toks:=tk})→wpAny M A t Q no s
inductive F where
 |next|brk|cont
 |ret (v:V)
def IsF (c:aa)(α:Al)(h:Heap):F→Flow→Prop
 | .next,g=>g=.next
 | .brk,g=>g=.brk
 | .cont,g=>g=.cont
 | .ret v,g=>∃w,g=.ret w∧IsV c α h v w
structure LeS (c:aa)(α:Al)(h:Heap)(c':aa)(α':Al)(h':Heap):Prop where
 agree:∀k∈pr,α' k=α k
 kept:∀b o,h.get? b=some o→¬FrA env b→¬aE c α b→h'.get? b=some o
 grow:∀k∈dom c',aE c α (α' k)∨h.get? (α' k)=none
structure Sg where
 l:Loc
 c:aa
def OkS (σ:Sg)(t:Sem Flow)(K:F→Sg→Prop):Prop:=
 ∀(α:Al) (s:Shared) (Q:Flow→Shared→Prop),1≤s.toks→Fst hb pr env σ.l σ.c α s.heap→
  (∀f τ α' g h' tk,1≤tk→K f τ→Fst hb pr env τ.l τ.c α' h'→LeS pr env σ.c α s.heap τ.c α' h'→IsF τ.c α' h' f g→Q g {s with heap:=h',toks:=tk})→wpAny M A t Q no s
end
section
variable {M:Model}{A:Around}{hb:Heap}{pr:List Nat}{env:Env}
theorem au {γ:Type}{t:Sem γ}{Q:γ→Shared→Prop}{s:Shared}{E:Value→Shared→Prop}(hs:1≤s.toks)(h:wpAny M A t (fun g s'=>1≤s'.toks→Q g s') E s):wpAny M A t Q E s:=
 wpAny_with_toks hs (wpAny_mono h (fun _ _ x=>x) (fun _ _ x _=>x))
theorem OkE.mk {β γ:Type}{I:aa→Al→Heap→β→γ→Prop}{l:Loc}{c:aa}{t:Sem γ}{K:β→aa→Prop}
  (h:∀(α:Al) (s:Shared) (Q:γ→Shared→Prop),1≤s.toks→Fst hb pr env l c α s.heap→
   (∀b c' α' g h' tk,K b c'→Fst hb pr env l c' α' h'→Le c α s.heap c' α' h'→I c' α' h' b g→Q g {s with heap:=h',toks:=tk})→wpAny M A t Q no s):OkE M A hb pr env I l c t K:=
 fun α s Q hs F hq=>au hs (h α s _ hs F fun b c' α' g h' tk k f le i ht=>hq b c' α' g h' tk ht k f le i)
theorem OkS.mk {σ:Sg}{t:Sem Flow}{K:F→Sg→Prop}
  (h:∀(α:Al) (s:Shared) (Q:Flow→Shared→Prop),1≤s.toks→Fst hb pr env σ.l σ.c α s.heap→
   (∀f τ α' g h' tk,K f τ→Fst hb pr env τ.l τ.c α' h'→LeS pr env σ.c α s.heap τ.c α' h'→IsF τ.c α' h' f g→Q g {s with heap:=h',toks:=tk})→wpAny M A t Q no s):OkS M A hb pr env σ t K:=
 fun α s Q hs F hq=>au hs (h α s _ hs F fun b c' α' g h' tk k f le i ht=>hq b c' α' g h' tk ht k f le i)
end
theorem Le.leS {hb h h':Heap}{pr:List Nat}{env:Env}{c c':aa}{α α':Al}(L:Le c α h c' α' h')(C:Cst hb pr c α h):LeS pr env c α h c' α' h':=
 ⟨fun k hk=>L.agree k (C.prs k hk),fun b o e _ n=>L.kept b o e n,L.grow⟩
theorem LeS.refl (pr:List Nat)(env:Env)(c:aa)(α:Al)(h:Heap):LeS pr env c α h c α h:=⟨fun _ _=>rfl,fun _ _ e _ _=>e,fun k hk=>.inl ⟨k,hk,rfl⟩⟩
theorem LeS.trans {pr:List Nat}{env:Env}{c₁ c₂ c₃:aa}{α₁ α₂ α₃:Al}{h₁ h₂ h₃:Heap}(x:LeS pr env c₁ α₁ h₁ c₂ α₂ h₂)(y:LeS pr env c₂ α₂ h₂ c₃ α₃ h₃)
  (fr:∀b,FrA env b→¬aE c₃ α₃ b):LeS pr env c₁ α₁ h₁ c₃ α₃ h₃:=by
 have no:∀b o,h₁.get? b=some o→¬aE c₁ α₁ b→¬aE c₂ α₂ b:=by
  rintro b o e n ⟨k,hk,rfl⟩
  rcases x.grow k hk with q|q
  ·exact n q
  ·rw[q] at e;contradiction
 refine⟨fun k hk=>(y.agree k hk).trans (x.agree k hk),fun b o e f n=>y.kept b o (x.kept b o e f n) f (no b o e n),fun k hk=>?_⟩
 rcases y.grow k hk with ⟨j,hj,e⟩|q
 ·rw[←e];exact x.grow j hj
 ·by_cases n:aE c₁ α₁ (α₃ k)
  ·exact .inl n
  ·refine .inr ?_
   cases e:h₁.get? (α₃ k) with
   |none=>rfl
   |some o=>
    by_cases f:FrA env (α₃ k)
    ·exact absurd ⟨k,hk,rfl⟩ (fr _ f)
    ·rw[x.kept _ _ e f n] at q;contradiction
section
variable {prog:Program}{w:World}{A:Around}{hb:Heap}{pr:List Nat}{env:Env}{l:Loc}{c:aa}
theorem uA (EO:EnvOk env){α:Al}{s:Shared}{x:Str}{v:V}(F:Fst hb pr env l c α s.heap)(hx:look l x=some v)(hn:(x==("__classdict__":Str))=false)
  {Q:Value→Shared→Prop} (hq:∀g,IsV c α s.heap v g→Q g s):wpAny (model prog w) A (loadName env x) Q no s:=by
 obtain⟨g,H,i⟩:=F.loc x v hx
 cases H with
 |loc m a b e=>exact wpAny_loadName_local EO.kind a b e (hq g i)
 |cel b o a e q d=>exact wpAny_loadName_cell EO.kind a e ⟨o,q,d⟩ (hq g i)
 |free b o a e q d=>exact wpAny_loadName_free EO.kind a e ⟨o,q,d⟩ (hq g i) hn
theorem aW {α:Al}{h:Heap}(F:Fst hb pr env l c α h){b:Addr}(hf:FrA env b):∀o,dw o=true→h.get? b≠some o:=by
 intro o hz e
 rcases hf with rfl|⟨x,q⟩
 ·obtain⟨m,o',es,ep',ho,hd,r⟩:=F.ns
  rw[ho] at e;cases e;unfold dw at hz;rw[hd] at hz;cases hz
 ·obtain⟨o',v,ho,hd⟩:=F.cel x b q
  rw[ho] at e;cases e;unfold dw at hz;rw[hd] at hz;cases hz
section
variable {α:Al}{h h':Heap}{b:Addr}(ns:∀o,dw o=true→h.get? b≠some o)(ks:∀a o,a≠b→h.get? a=some o→h'.get? a=some o)
include ns ks
theorem tY {d:D}{g:Value}(i:IsD h (aE c α) d g):IsD h' (aE c α) d g:=
 i.step (fun a o hz e n=>ks a o (fun q=>ns o hz (q▸e)) e) (fun _ e=>.inl e)
theorem qk {d:List D}{g:List Value}(i:IsDs h (aE c α) d g):IsDs h' (aE c α) d g:=
 i.step (fun a o hz e n=>ks a o (fun q=>ns o hz (q▸e)) e) (fun _ e=>.inl e)
theorem fR {v:V}{g:Value}(i:IsV c α h v g):IsV c α h' v g:=by
 cases v with
 |d x=>exact tY ns ks i
 |obj k=>exact i
 |val u=>exact i
 |rng p q=>obtain⟨r,t,u,v,e,g,n⟩:=i;exact⟨r,t,u,v,e,ks r _ (fun q=>ns _ rfl (q▸g)) g,n⟩
 |bi b=>exact i
 |mt e=>obtain⟨r,e,m⟩:=i;exact⟨r,e,m.step (fun a o hz e n=>ks a o (fun q=>ns o hz (q▸e)) e) (fun _ e=>.inl e)⟩
theorem nR (C:Cst hb pr c α h)(no:¬aE c α b)(nb:hb.get? b=none):Cst hb pr c α h':=by
 have hne:∀k∈dom c,α k≠b:=fun k hk e=>no ⟨k,hk,e⟩
 refine⟨fun a o e=>ks a o (fun q=>by rw[q,nb] at e;contradiction) (C.base a o e),fun k o e=>?_,C.fresh,C.inj,C.prs⟩
 have i:=C.cell k o e
 have g:∀q,h.get? (α k)=some q→h'.get? (α k)=some q:=fun q e'=>ks _ _ (hne k (al e)) e'
 cases o with
 |list xs=>obtain⟨ws,ep,g',d⟩:=i;exact⟨ws,ep,g _ g',qk ns ks d⟩
 |ns fs=>
  obtain⟨q,es,ep,g',hd,sk,sz,f⟩:=i
  refine⟨q,es,ep,g _ g',hd,sk,sz,fun y=>?_⟩
  have:=f y
  cases hl:look fs y with
  |none=>rw[hl] at this;exact this
  |some v=>rw[hl] at this;obtain⟨w,h1,h2⟩:=this;exact⟨w,h1,fR ns ks h2⟩
 |inst C dk=>exact⟨g _ i.1,i.2⟩
 |bound id k=>exact⟨g _ i.1,i.2⟩
theorem Fst.but (F:Fst hb pr env l c α h)(no:¬aE c α b)(nf:¬FrA env b)(nb:hb.get? b=none):Fst hb pr env l c α h':=by
 have k:∀a o,FrA env a→h.get? a=some o→h'.get? a=some o:=fun a o f e=>ks a o (fun q=>nf (q▸f)) e
 refine⟨nR ns ks F.toCst no nb,?_,fun x b e=>?_,fun x v e=>?_,F.fr⟩
 ·obtain⟨m,o,es,ep,ho,r⟩:=F.ns;exact⟨m,o,es,ep,k _ _ (.inl rfl) ho,r⟩
 ·obtain⟨o,v,g,d⟩:=F.cel x b e;exact⟨o,v,k _ _ (.inr ⟨x,e⟩) g,d⟩
 ·obtain⟨w,H,i⟩:=F.loc x v e;exact⟨w,H.le k,fR ns ks i⟩
end
theorem bB {h h':Heap}{b:Addr}(hs:Heap.SameBut b h h'):∀a o,a≠b→h.get? a=some o→h'.get? a=some o:=fun a o n e=>by rw[hs.2 a n];exact e
theorem dT {α:Al}{h h':Heap}(F:Fst hb pr env l c α h){b:Addr}(hf:FrA env b)(hs:Heap.SameBut b h h'){v:V}{g:Value}(i:IsV c α h v g):IsV c α h' v g:=
 fR (aW F hf) (bB hs) i
theorem iV {α:Al}{h h':Heap}(F:Fst hb pr env l c α h){b:Addr}(hf:FrA env b)(hs:Heap.SameBut b h h'):Cst hb pr c α h':=
 nR (aW F hf) (bB hs) F.toCst (F.fr b hf).2 (F.fr b hf).1
theorem iQ {α:Al}{h h':Heap}{b:Addr}(hf:FrA env b)(hs:Heap.SameBut b h h'):LeS pr env c α h c α h':=
 ⟨fun _ _=>rfl,fun a o e nf _=>by rw[hs.2 a (fun q=>nf (q▸hf))];exact e,fun k hk=>.inl ⟨k,hk,rfl⟩⟩
theorem dj (EO:EnvOk env){α:Al}{s:Shared}{x:Str}{v:V}{g:Value}(F:Fst hb pr env l c α s.heap)(hx:env.kindOf x=some .local)(i:IsV c α s.heap v g)
  {Q:Unit→Shared→Prop} (hq:∀h' tk,Fst hb pr env (put l x v) c α h'→Heap.SameBut env.locals s.heap h'→Q () {s with heap:=h',toks:=tk}):wpAny (model prog w) A (storeName env x g) Q no s:=by
 obtain⟨m,hm⟩:=F.ns
 have hf:FrA env env.locals:=.inl rfl
 refine wpAny_storeName_local hx hm (fun h' hn hs=>hq h' _ ?_ hs) (by rw[EO.kind];rfl)
 refine⟨iV F hf hs,⟨_,hn⟩,fun y b e=>?_,fun y u e=>?_,F.fr⟩
 ·obtain⟨o,v,ho,hd⟩:=F.cel y b e
  exact⟨o,v,by rw[hs.2 b (EO.apart y b e)];exact ho,hd⟩
 ·rw[ah] at e
  by_cases hy:y=x
  ·rw[if_pos hy] at e;(injection e with e;subst e)
   exact⟨g,.loc _ (hy▸hx) hn (by simp only[if_pos hy]),dT F hf hs i⟩
  ·rw[if_neg hy] at e
   obtain⟨g',H,i'⟩:=F.loc y u e
   refine⟨g',?_,dT F hf hs i'⟩
   cases H with
   |loc m' a b' e'=>
    refine .loc _ a hn ?_
    have:m' y=m y:=by
     obtain⟨o,es,ep,ho,hd,hk,hm1⟩:=b'
     obtain⟨o2,es2,ep2,ho2,hd2,hk2,hm2⟩:=hm
     rw[ho] at ho2;(injection ho2 with ho2;subst ho2);rw[hd] at hd2;(injection hd2 with hd2;subst hd2)
     rw[←hm1,←hm2]
    simp only[if_neg hy];rw[←this];exact e'
   |cel b o a e' q d=>exact .cel b o a e' (by rw[hs.2 b (EO.apart y b e')];exact q) d
   |free b o a e' q d=>exact .free b o a e' (by rw[hs.2 b (EO.apart y b e')];exact q) d
theorem kF (EO:EnvOk env){α:Al}{s:Shared}{x:Str}{v:V}{g:Value}(F:Fst hb pr env l c α s.heap)
  (hx:env.kindOf x=some .local∨(env.kindOf x=some .cell∧∃b,env.cells.lookup x=some b)) (i:IsV c α s.heap v g)
  {Q:Unit→Shared→Prop} (hq:∀h' tk,Fst hb pr env (put l x v) c α h'→LeS pr env c α s.heap c α h'→Q () {s with heap:=h',toks:=tk}):wpAny (model prog w) A (storeName env x g) Q no s:=by
 rcases hx with hx|⟨hx,b,hb'⟩
 ·exact dj EO F hx i fun h' tk F' hs=>hq h' tk F' (iQ (.inl rfl) hs)
 ·obtain⟨o,v0,ho,hd⟩:=F.cel x b hb'
  have hf:FrA env b:=.inr ⟨x,hb'⟩
  refine wpAny_storeName_cell EO.kind hx hb' ⟨o,ho,hd⟩ (fun h' hc hs=>hq h' s.toks ?_ (iQ hf hs))
  obtain⟨o',ho',hd'⟩:=hc
  have hbl:env.locals≠b:=fun e=>EO.apart x b hb' e.symm
  refine⟨iV F hf hs,?_,fun y b' e=>?_,fun y u e=>?_,F.fr⟩
  ·obtain⟨m,o,es,ep,ho,r⟩:=F.ns;exact⟨m,o,es,ep,by rw[hs.2 _ hbl];exact ho,r⟩
  ·by_cases hbb:b'=b
   ·subst hbb;exact⟨o',_,ho',hd'⟩
   ·obtain⟨o,v,ho,hd⟩:=F.cel y b' e
    exact⟨o,v,by rw[hs.2 b' hbb];exact ho,hd⟩
  ·rw[ah] at e
   by_cases hy:y=x
   ·rw[if_pos hy] at e;(injection e with e;subst e)
    subst hy
    exact⟨g,.cel b o' hx hb' ho' hd',dT F hf hs i⟩
   ·rw[if_neg hy] at e
    obtain⟨g',H,i'⟩:=F.loc y u e
    refine⟨g',?_,dT F hf hs i'⟩
    cases H with
    |loc m' a b' e'=>exact .loc m' a (b'.sameBut hs hbl) e'
    |cel b' o a e' q d=>exact .cel b' o a e' (by rw[hs.2 b' (fun (e:b'=b)=>hy (EO.one y x b (e▸e') hb'))];exact q) d
    |free b' o a e' q d=>exact .free b' o a e' (by rw[hs.2 b' (fun (e:b'=b)=>hy (EO.one y x b (e▸e') hb'))];exact q) d
end
mutual
noncomputable def D.py:D→PyData
 | .none=>.none
 | .bool b=>.bool b
 | .int i=>.int i
 | .str x=>.str x
 | .tup xs=>.tuple (pys xs)
 | .lst xs=>.list (pys xs)
noncomputable def pys:List D→List PyData
 | []=>[]
 |x::xs=>x.py::pys xs
end
theorem ng {h:Heap}:∃as,ReadsAll h [] (pys []) as:=⟨_,.nil⟩
theorem lh {h:Heap}{x:D}{w:Value}{xs:List D}{ws:List Value}:(∃as,Reads h w x.py as)→(∃as,ReadsAll h ws (pys xs) as)→∃as,ReadsAll h (w::ws) (pys (x::xs)) as
 |⟨_,p⟩,⟨_,q⟩=>⟨_,.cons p q⟩
theorem me {h:Heap}{T:String}{a:Addr}{ep:Nat}{xs:List D}{ws:List Value}(b:Bool)(hT:T=if b then "tuple" else "list") (g:h.get? a=some (bc T ws ep)):(∃as,ReadsAll h ws (pys xs) as)→∃as,Reads h (.ref a) (if b then D.tup xs else .lst xs).py as
 |⟨_,q⟩=>by
  have q:ReadsAll h ws.toArray.toList (pys xs) _:=q
  subst hT
  cases b
  ·exact⟨_,.list g rfl rfl q⟩
  ·exact⟨_,.tuple g rfl rfl q⟩
theorem IsD.reads {h:Heap}{own:Addr→Prop}{x:D}{w:Value}(i:IsD h own x w):∃as,Reads h w x.py as:=
 IsD.rec (motive_1:=fun x w _=>∃as,Reads h w x.py as) (motive_2:=fun xs ws _=>∃as,ReadsAll h ws (pys xs) as) ⟨_,.none⟩ (fun b=>⟨_,.bool b⟩) (fun i t=>⟨_,.int i t⟩) (fun x t=>⟨_,.str x t⟩)
  (fun g _ _ r=>me true rfl g r) (fun g _ _ r=>me false rfl g r) ng (fun _ _=>lh) i
theorem IsDs.reads {h:Heap}{own:Addr→Prop}{xs:List D}{ws:List Value}(i:IsDs h own xs ws):∃as,ReadsAll h ws (pys xs) as:=
 i.ind (M:=fun xs ws=>∃as,ReadsAll h ws (pys xs) as) ng fun a _=>lh a.reads
theorem yx {o:Option O}{d:D}:(match o with|some (.list xs)=>some (.lst xs)|_=>none)=some d→∃xs,o=some (.list xs)∧D.lst xs=d:=by
 cases o with
 |none=>nofun
 |some o=>cases o with
  |list xs=>exact fun e=>⟨xs,rfl,Option.some.inj e⟩
  |_=>nofun
noncomputable def rd (c:aa):V→Option D
 | .d x=>some x
 | .obj k=>match ae c k with|some (.list xs)=>some (.lst xs)|_=>none
 |_=>none
theorem u9 {hb h:Heap}{pr:List Nat}{c:aa}{α:Al}(C:Cst hb pr c α h){v:V}{d:D}{g:Value}(e:rd c v=some d)(i:IsV c α h v g):∃as,Reads h g d.py as:=by
 cases v with
 |d x=>exact Option.some.inj e▸IsD.reads i
 |obj k=>
  obtain⟨xs,hk,rfl⟩:=yx e
  obtain⟨ws,ep,g',r⟩:=C.cell k _ hk
  rw[i.1]
  exact me false rfl g' r.reads
 |_=>contradiction
theorem yD {o:Option O}{d:Bool×List D}:(match o with|some (.list xs)=>some (false,xs)|_=>none)=some d→∃xs,o=some (.list xs)∧(false,xs)=d:=by
 cases o with
 |none=>nofun
 |some o=>cases o with
  |list xs=>exact fun e=>⟨xs,rfl,Option.some.inj e⟩
  |_=>nofun
noncomputable def bW (c:aa):V→Option (Bool×List D)
 | .d (.lst xs)=>some (false,xs)
 | .d (.tup xs)=>some (true,xs)
 | .obj k=>match ae c k with|some (.list xs)=>some (false,xs)|_=>none
 |_=>none
theorem cW {hb h:Heap}{pr:List Nat}{c:aa}{α:Al}(C:Cst hb pr c α h){v:V}{b:Bool}{xs:List D}{g:Value}(e:bW c v=some (b,xs))(i:IsV c α h v g) :
  ∃a ws ep,g=.ref a∧h.get? a=some (bc (if b then "tuple" else "list") ws ep)∧IsDs h (aE c α) xs ws:=by
 cases v with
 |d x=>
  cases x with
  |lst ys=>injection e with e;injection e with e1 e2;subst e1 e2;obtain⟨ws,a,ep,e,g,_,r⟩:=IsD.inv i;exact⟨a,ws,ep,e,g,r⟩
  |tup ys=>injection e with e;injection e with e1 e2;subst e1 e2;obtain⟨ws,a,ep,e,g,_,r⟩:=IsD.inv i;exact⟨a,ws,ep,e,g,r⟩
  |_=>contradiction
 |obj k=>
  obtain⟨ys,hk,e⟩:=yD e
  injection e with e1 e2;subst e1 e2
  obtain⟨ws,ep,g',r⟩:=C.cell k _ hk
  exact⟨_,ws,ep,i.1,g',r⟩
 |_=>contradiction
noncomputable def big:Nat:=1048576
def oR (c:aa)(v:V)(K:Bool→Prop):Prop:=aw (bW c v) fun p=>p.2.length≤big∧K (!p.2.isEmpty)
def bJ (c:aa)(v:V)(K:Bool→Prop):Prop:=
 match v with
 | .d x=>(match x with
  | .none=>K false
  | .bool b=>K b
  | .int i=>K (i != 0)
  | .str x=>x.length≤big∧K (x.length != 0)
  |x=>oR c (.d x) K)
 | .mt _=>K true
 |v=>oR c v K
theorem ut {n:Nat}(h:n≤big):(n:Int)<2 ^ 63:=by unfold big at h;omega
theorem aJ {n:Nat}(h:n≤big):n≤sizeLine:=by
 rw[sizeLine_eq];unfold big at h;exact Om.o1 h
section
variable {prog:Program}{w:World}{A:Around}{hb:Heap}{pr:List Nat}{env:Env}{l:Loc}{c:aa}{α:Al}{s:Shared}
theorem l5:typeLookup (.type "re.Match") "__bool__"=pure none:=by rw[typeLookup_type,builtinLookup_eq_fast];kernel_rfl
theorem oU:typeLookup (.type "re.Match") "__len__"=pure none:=by rw[typeLookup_type,builtinLookup_eq_fast];kernel_rfl
theorem i8 {M:Model}{r:Addr}(hT:s.TypeIs (.ref r) "re.Match") {Q:Bool→Shared→Prop} {E:Value→Shared→Prop} (h:Q true s):wpAny M A (truthy (.ref r)) Q E s:=by
 unfold truthy callSpecial?
 refine wpAny_bind (wpAny_bind (wpAny_specialOf hT l5 (wpAny_pure ?_)))
 exact wpAny_bind (wpAny_specialOf hT oU (wpAny_pure h))
theorem fb (C:Cst hb pr c α s.heap){v:V}{g:Value}{K:Bool→Prop}(h:oR c v K)(i:IsV c α s.heap v g){Q:Bool→Shared→Prop}(hq:∀b tk,K b→Q b {s with toks:=tk}) :
  wpAny (model prog w) A (truthy g) Q no s:=by
 obtain⟨⟨b,xs⟩,e,h⟩:=ax h
 obtain⟨a,ws,ep,rfl,g',r⟩:=cW C e i
 have hl:ws.length=xs.length:=r.length.symm
 have hem:(!ws.toArray.isEmpty)=!xs.isEmpty:=r.ind (M:=fun xs ws=>(!ws.toArray.isEmpty)=!xs.isEmpty) rfl fun _ _ _=>rfl
 have hs:(ws.toArray.size:Int)<2 ^ 63:=ut (Nat.le_trans (Nat.le_of_eq hl) h.1)
 cases b with
 |true=>exact truthy_tuple ⟨_,g',rfl,_,rfl⟩ hs (hem▸hq _ _ h.2)
 |false=>exact wpAny_truthy_list ⟨_,g',rfl,_,rfl⟩ hs (hem▸hq _ _ h.2)
theorem ne0 (n:Nat):((n:Int) != 0)=(n != 0):=by cases n<;>rfl
theorem eO (C:Cst hb pr c α s.heap){v:V}{g:Value}{K:Bool→Prop}(h:bJ c v K)(i:IsV c α s.heap v g){Q:Bool→Shared→Prop}(hq:∀b tk,K b→Q b {s with toks:=tk}) :
  wpAny (model prog w) A (truthy g) Q no s:=by
 cases v with
 |d x=>
  have i':=IsD.inv i
  cases x with
  |none=>obtain rfl:g=_:=i';exact truthy_none (hq _ s.toks h)
  |bool b=>obtain rfl:g=_:=i';exact wpAny_truthy_bool (hq _ s.toks h)
  |int n=>obtain⟨t,rfl⟩:=i';exact PySem.P.truthy_int (hq _ s.toks h)
  |str x=>obtain⟨t,rfl⟩:=i';exact PySem.P.truthy_str (Int.not_le.mpr (ut h.1)) (hq _ _ (ne0 _▸h.2))
  |tup xs=>exact fb (v:=.d (.tup xs)) (K:=K) C h i hq
  |lst xs=>exact fb (v:=.d (.lst xs)) (K:=K) C h i hq
 |mt e=>
  obtain⟨r,rfl,m⟩:=i
  obtain⟨fs,tup,j,ep,g1,_⟩:=m.ob
  exact i8 ⟨_,g1,rfl⟩ (hq _ s.toks h)
 |obj k=>exact fb (v:=.obj k) (K:=K) C h i hq
 |_=>exact h.elim
noncomputable def mX (x:Str)(n:Nat):Str:=⟨(List.replicate n x.cps).foldl (·++·) #[]⟩
def ec (a b:V)(f:Int→Int→Prop):Prop:=fN a fun i=>fN b fun j=>f i j
theorem nW {a b:V}{f:Int→Int→Prop}(h:ec a b f):∃i j,a=.d (.int i)∧b=.d (.int j)∧f i j:=by
 obtain⟨i,e,h⟩:=b9 h
 obtain⟨j,e',h⟩:=b9 h
 exact⟨i,j,e,e',h⟩
theorem cT {c:aa}{α:Al}{hp:Heap}{a b:V}{f:Int→Int→Prop}(h:ec a b f){x y:Value}(hx:IsV c α hp a x)(hy:IsV c α hp b y):∃i t j u,x=.int i t∧y=.int j u∧f i j:=by
 obtain⟨i,j,rfl,rfl,h⟩:=nW h
 obtain⟨t,rfl⟩:=IsD.inv hx
 obtain⟨u,rfl⟩:=IsD.inv hy
 exact⟨i,t,j,u,rfl,rfl,h⟩
def yO (x y:D)(K:D→Prop):Prop:=match x with
 | .int i=>(match y with
  | .int j=>K (.int (i+j))
  |_=>False)
 | .str u=>(match y with
  | .str v=>u.length+v.length≤big∧K (.str (u++v))
  |_=>False)
 | .lst xs=>(match y with
  | .lst ys=>xs.length+ys.length≤big∧K (.lst (xs++ys))
  |_=>False)
 |_=>False
def dd (a b:V)(f:D→D→Prop):Prop:=onD a fun x=>onD b fun y=>f x y
theorem m7 {a b:V}{f:D→D→Prop}(h:dd a b f):∃x y,a=.d x∧b=.d y∧f x y:=by
 obtain⟨x,e,h⟩:=cL h
 obtain⟨y,e',h⟩:=cL h
 exact⟨x,y,e,e',h⟩
def u7 (x y:D)(K:D→Prop):Prop:=match x with
 | .str u=>(match y with
  | .int n=>n=3∧u.length=1∧K (.str (mX u 3))
  |_=>False)
 |_=>False
def hF (c:aa)(op:Operator)(a b:V)(K:D→Prop):Prop:=
 match op with
 | .Add=>dd a b fun x y=>yO x y K
 | .Sub=>ec a b fun i j=>K (.int (i-j))
 | .Mod=>ec a b fun i j=>j≠0∧K (.int (i.fmod j))
 | .FloorDiv=>ec a b fun i j=>(0≤i∧i≤1048576∧0<j∧j≤1000)∧K (.int (i.fdiv j))
 | .Mult=>dd a b fun x y=>u7 x y K
 |_=>False
section
variable {x y:Value}{K:D→Prop}{Q:Value→Shared→Prop}(hq:∀d g h' tk,K d→Fst hb pr env l c α h'→Le c α s.heap c α h'→IsD h' (aE c α) d g→Q g {s with heap:=h',toks:=tk})
include hq
theorem wv (F:Fst hb pr env l c α s.heap){a b:D}(h:yO a b K)(hx:IsD s.heap (aE c α) a x)(hy:IsD s.heap (aE c α) b y):wpAny (model prog w) A (binaryOp .Add x y) Q no s:=by
 cases a with
 |int i=>
  cases b with
  |int j=>obtain⟨_,rfl⟩:=hx.inv;obtain⟨_,rfl⟩:=hy.inv;exact PyProof.Rows.add_int (hq _ _ s.heap _ h F (Le.refl ..) (.int _ _))
  |_=>exact h.elim
 |str u=>
  cases b with
  |str v=>obtain⟨_,rfl⟩:=hx.inv;obtain⟨_,rfl⟩:=hy.inv;exact add_str (fun t' tk=>hq _ _ s.heap tk h.2 F (Le.refl ..) (.str _ _)) (aJ h.1)
  |_=>exact h.elim
 |lst xs=>
  cases b with
  |lst ys=>
   obtain⟨vs,a1,e1,rfl,g1,n1,r1⟩:=hx.inv
   obtain⟨ws,a2,e2,rfl,g2,n2,r2⟩:=hy.inv
   have e:vs.toArray++ws.toArray=(vs++ws).toArray:=by simp
   refine concat_meets ⟨_,g1,rfl⟩ ⟨_,g2,rfl⟩ noFill_list_add seq_list_add PySem.F.slot_list_add PySem.F.entry_list_add (PySem.F.args_list_add_2 _ _) (list_addW a1 a2 vs.toArray ws.toArray e1 e2 none none #[] #[] ?_) ⟨g1,g2,?_⟩
   ·rw[List.size_toArray,List.size_toArray,←r1.length,←r2.length];exact aJ h.1
   ·rw[e]
    obtain⟨F',L'⟩:=F.push (bc "list" (vs++ws) 0)
    refine hq _ _ _ s.toks h.2 F' L' (.lst (Heap.get?_push_size _ rfl) (a9 F.toCst) ((L'.isDs r2).append (L'.isDs r1)))
  |_=>exact h.elim
 |_=>exact h.elim
theorem uK (F:Fst hb pr env l c α s.heap){a b:D}(h:u7 a b K)(hx:IsD s.heap (aE c α) a x)(hy:IsD s.heap (aE c α) b y):wpAny (model prog w) A (binaryOp .Mult x y) Q no s:=by
 cases a with
 |str x'=>
  cases b with
  |int n=>
   obtain⟨_,rfl⟩:=hx.inv
   obtain⟨_,rfl⟩:=hy.inv
   obtain⟨rfl,hx1,h⟩:=h
   refine PySem.P.mul_str (by decide) (fun _ _=>by rw[hx1];decide) (fun _ _=>by rw[hx1];decide) ?_
   rw[if_neg (by decide),if_neg (by rw[hx1];decide)]
   refine⟨?_,hq (.str (mX x' 3)) _ s.heap _ h F (Le.refl ..) (.str _ _)⟩
   have:(Str.mk ((List.replicate (3:Int).toNat x'.cps).foldl (·++·) #[])).length=3:=by
    show ((List.replicate 3 x'.cps).foldl (·++·) #[]).size=3
    have hs:x'.cps.size=1:=hx1
    simp[List.replicate,hs]
   rw[this];decide
  |_=>exact h.elim
 |_=>exact h.elim
theorem tZ (F:Fst hb pr env l c α s.heap){op:Operator}{a b:V}(h:hF c op a b K)(hx:IsV c α s.heap a x)(hy:IsV c α s.heap b y):wpAny (model prog w) A (binaryOp op x y) Q no s:=by
 cases op with
 |Add=>obtain⟨u,v,rfl,rfl,h⟩:=m7 h;exact wv hq F h hx hy
 |Mult=>obtain⟨u,v,rfl,rfl,h⟩:=m7 h;exact uK hq F h hx hy
 |Sub=>obtain⟨i,t,j,u,rfl,rfl,h⟩:=cT h hx hy;exact PyProof.Rows.sub_int (hq _ _ s.heap _ h F (Le.refl ..) (.int _ _))
 |Mod=>obtain⟨i,t,j,u,rfl,rfl,h⟩:=cT h hx hy;exact mod_int' h.1 (hq _ _ s.heap _ h.2 F (Le.refl ..) (.int _ _))
 |FloorDiv=>obtain⟨i,t,j,u,rfl,rfl,⟨h1,h2,h3,h4⟩,h⟩:=cT h hx hy;exact PyProof.Rows.floordiv_int (by omega) (hq _ _ s.heap _ h F (Le.refl ..) (.int _ _))
 |_=>exact h.elim
end
theorem xk (F:Fst hb pr env l c α s.heap){op:Operator}{a b:V}{K:D→Prop}(h:hF c op a b K){x y:Value}(hx:IsV c α s.heap a x)(hy:IsV c α s.heap b y)
  {Q:Value→Shared→Prop} (hq:∀d g h' tk,K d→Fst hb pr env l c α h'→Le c α s.heap c α h'→IsD h' (aE c α) d g→Q g {s with heap:=h',toks:=tk}):wpAny (model prog w) A (binaryOp op x y) Q no s:=tZ hq F h hx hy
def eqG (c:aa)(a b:V)(K:Bool→Prop):Prop:=aw (rd c a) fun x=>aw (rd c b) fun y=>PySem.SeqAt.shaped x.py=true∧PySem.SeqAt.shaped y.py=true∧PySem.SeqAt.noMix x.py y.py=true∧K (PySem.Spec.same x.py y.py)
def eqD (c:aa)(x y:D)(K:Bool→Prop):Prop:=match x with
 | .int i=>(match y with
  | .int j=>K (i==j)
  |y=>eqG c (.d (.int i)) (.d y) K)
 | .str u=>(match y with
  | .str v=>K (u==v)
  |y=>eqG c (.d (.str u)) (.d y) K)
 | .bool p=>(match y with
  | .bool q=>K (p==q)
  |y=>eqG c (.d (.bool p)) (.d y) K)
 |x=>eqG c (.d x) (.d y) K
def eqK (c:aa)(a b:V)(K:Bool→Prop):Prop:=match a with
 | .d x=>(match b with
  | .d y=>eqD c x y K
  |b=>eqG c (.d x) b K)
 |a=>eqG c a b K
theorem wX {c:aa}{a b:V}{K:Bool→Prop}(h:eqK c a b K):(∃i j,a=.d (.int i)∧b=.d (.int j)∧K (i==j))∨(∃u v,a=.d (.str u)∧b=.d (.str v)∧K (u==v))∨(∃p q,a=.d (.bool p)∧b=.d (.bool q)∧K (p==q))∨eqG c a b K:=by
 refine ay fun G back=>?_
 have g:=fun q=>back (.inr (.inr (.inr q)))
 cases a with
 |d x=>
  cases b with
  |d y=>
   cases x with
   |int i=>cases y with
    |int j=>exact back (.inl ⟨i,j,rfl,rfl,h⟩)
    |_=>exact g h
   |str u=>cases y with
    |str v=>exact back (.inr (.inl ⟨u,v,rfl,rfl,h⟩))
    |_=>exact g h
   |bool p=>cases y with
    |bool q=>exact back (.inr (.inr (.inl ⟨p,q,rfl,rfl,h⟩)))
    |_=>exact g h
   |_=>exact g h
  |_=>exact g h
 |_=>exact g h
def inK (a b:V)(K:Bool→Prop):Prop:=fw a fun u=>fw b fun v=>K (Txt.contains v u)
def m0:V→Prop
 | .d .none=>True
 |_=>False
def nk (a:V)(K:Bool→Prop):Prop:=match a with
 | .d .none=>K false
 | .mt _=>K true
 |_=>False
def e5 (c:aa)(op:CmpOp)(a b:V)(K:Bool→Prop):Prop:=
 match op with
 | .Lt=>ec a b fun i j=>K (decide (i<j))
 | .LtE=>ec a b fun i j=>K (decide (i≤j))
 | .Gt=>ec a b fun i j=>K (decide (j<i))
 | .GtE=>ec a b fun i j=>K (decide (j≤i))
 | .Eq=>eqK c a b K
 | .NotEq=>eqK c a b fun r=>K (!r)
 | .In=>inK a b K
 | .IsNot=>m0 b∧nk a K
 |_=>False
theorem u5 (C:Cst hb pr c α s.heap){a b:V}{K:Bool→Prop}(h:eqG c a b K){u v:Value}(hx:IsV c α s.heap a u)(hy:IsV c α s.heap b v) :
  ∃x y,(∃as,Reads s.heap u x as)∧(∃bs,Reads s.heap v y bs)∧PySem.SeqAt.shaped x=true∧PySem.SeqAt.shaped y=true∧PySem.SeqAt.noMix x y=true∧K (PySem.Spec.same x y):=by
 obtain⟨x,e1,h⟩:=ax h
 obtain⟨y,e2,h⟩:=ax h
 exact⟨_,_,u9 C e1 hx,u9 C e2 hy,h⟩
theorem vm (C:Cst hb pr c α s.heap){a b:V}{K:Bool→Prop}(h:eqK c a b K){x y:Value}(hx:IsV c α s.heap a x)(hy:IsV c α s.heap b y) :
  (∃i t j u,x=.int i t∧y=.int j u∧K (i==j))∨(∃i t j u,x=.str i t∧y=.str j u∧K (i==j))∨(∃p q,x=.bool p∧y=.bool q∧K (p==q))∨eqG c a b K:=by
 rcases wX h with ⟨i,j,rfl,rfl,h⟩|⟨i,j,rfl,rfl,h⟩|⟨i,j,rfl,rfl,h⟩|h
 ·obtain⟨t,e1⟩:=IsD.inv hx;obtain⟨u,e2⟩:=IsD.inv hy;exact .inl ⟨i,t,j,u,e1,e2,h⟩
 ·obtain⟨t,e1⟩:=IsD.inv hx;obtain⟨u,e2⟩:=IsD.inv hy;exact .inr (.inl ⟨i,t,j,u,e1,e2,h⟩)
 ·exact .inr (.inr (.inl ⟨i,j,IsD.inv hx,IsD.inv hy,h⟩))
 ·exact .inr (.inr (.inr h))
section
variable (C:Cst hb pr c α s.heap)(hu:A.units+64<cLine){a b:V}{K:Bool→Prop}{x y:Value}(hx:IsV c α s.heap a x)(hy:IsV c α s.heap b y){Q:Value→Shared→Prop}(hq:∀b,K b→Q (.bool b) s)
include C hu hx hy hq
theorem xK (h:eqK c a b K):wpAny (model prog w) A (compareOp .Eq x y) Q no s:=by
 rcases vm C h hx hy with ⟨i,t,j,u,rfl,rfl,h⟩|⟨i,t,j,u,rfl,rfl,h⟩|⟨i,j,rfl,rfl,h⟩|h
 ·exact PyProof.Rows.eq_int (hq _ h)
 ·exact PyProof.Rows.eq_str (hq _ h)
 ·exact PyProof.Rows.eq_bool (hq _ h)
 ·obtain⟨_,_,⟨as,r1⟩,⟨bs,r2⟩,h⟩:=u5 C h hx hy
  exact eq_dataH_same r1 r2 h.1 h.2.1 hu h.2.2.1 (hq _ h.2.2.2)
theorem x4 (h:eqK c a b fun r=>K (!r)):wpAny (model prog w) A (compareOp .NotEq x y) Q no s:=by
 rcases vm C h hx hy with ⟨i,t,j,u,rfl,rfl,h⟩|⟨i,t,j,u,rfl,rfl,h⟩|⟨i,j,rfl,rfl,h⟩|h
 ·exact PyProof.Rows.ne_int (hq _ h)
 ·exact PyProof.Rows.ne_str (hq _ h)
 ·exact PyProof.Rows.ne_bool (hq _ h)
 ·obtain⟨_,_,⟨as,r1⟩,⟨bs,r2⟩,h⟩:=u5 C h hx hy
  exact ne_dataH_same r1 r2 h.1 h.2.1 hu h.2.2.1 (hq _ h.2.2.2)
omit C hu
theorem rr (h:m0 b∧nk a K):wpAny (model prog w) A (compareOp .IsNot x y) Q no s:=by
 have e:y=.none:=by
  cases b with
  |d z=>cases z with
   |none=>exact IsD.inv hy
   |_=>exact h.1.elim
  |_=>exact h.1.elim
 subst e
 have h:=h.2
 cases a with
 |d z=>cases z with
  |none=>obtain rfl:x=_:=IsD.inv hx;exact isnot_none_gen (hq _ h)
  |_=>exact h.elim
 |mt _=>obtain⟨r,rfl,_⟩:=hx;exact isnot_ref_none (hq _ h)
 |_=>exact h.elim
theorem yt (h:inK a b K):wpAny (model prog w) A (compareOp .In x y) Q no s:=by
 obtain⟨u,rfl,h1⟩:=cy h
 obtain⟨v,rfl,h2⟩:=cy h1
 obtain⟨_,rfl⟩:=IsD.inv hx
 obtain⟨_,rfl⟩:=IsD.inv hy
 exact PySem.SB.contains (hq _ h2)
end
theorem qz (C:Cst hb pr c α s.heap)(hu:A.units+64<cLine){op:CmpOp}{a b:V}{K:Bool→Prop}(h:e5 c op a b K){x y:Value}(hx:IsV c α s.heap a x)(hy:IsV c α s.heap b y){Q:Value→Shared→Prop}
  (hq:∀b,K b→Q (.bool b) s):wpAny (model prog w) A (compareOp op x y) Q no s:=by
 cases op with
 |Lt=>obtain⟨i,t,j,u,rfl,rfl,h⟩:=cT h hx hy;exact PyProof.Rows.lt_int (hq _ h)
 |LtE=>obtain⟨i,t,j,u,rfl,rfl,h⟩:=cT h hx hy;exact PyProof.Rows.le_int (hq _ h)
 |Gt=>obtain⟨i,t,j,u,rfl,rfl,h⟩:=cT h hx hy;exact PyProof.Rows.gt_int (hq _ h)
 |GtE=>obtain⟨i,t,j,u,rfl,rfl,h⟩:=cT h hx hy;exact PyProof.Rows.ge_int (hq _ h)
 |Eq=>exact xK C hu hx hy hq h
 |NotEq=>exact x4 C hu hx hy hq h
 |In=>exact yt hx hy hq h
 |IsNot=>exact rr hx hy hq h
 |_=>exact h.elim
end
end Mine
end
section
namespace Mine
open PySem
noncomputable def cC (e:Expr):Bool:=e.ctorIdx==22
noncomputable def cX (e:Expr):Bool:=e.ctorIdx != 26
noncomputable def fk (e:Expr):Bool:=e.ctorIdx != 7
noncomputable def bt (e:Expr):Bool:=e.ctorIdx==8||e.ctorIdx==9||e.ctorIdx==10
noncomputable abbrev PO {α:Type} (P:α→Prop):=Option {k:α // P k}
noncomputable def jx {α:Type}{P:α→Prop}(o:PO P):Option α:=o.map (·.1)
theorem dN {α:Type}{P:α→Prop}{o:PO P}{k:α}(h:jx o=some k):P k:=by
 cases o with
 |none=>contradiction
 |some x=>exact Option.some.inj h▸x.2
noncomputable def rG (e:Expr):PO fun k=>∃n p,e=.Constant k n p:=
 if h:e.ctorIdx=19 then @Expr.Constant.elim (fun e=>PO fun k=>∃n p,e=.Constant k n p) e h (fun k n p=>some ⟨k,n,p,rfl⟩) else none
noncomputable def uY (e:Expr):PO fun k:Str×Pos=>e=.Name k.1 k.2:=
 if h:e.ctorIdx=23 then @Expr.Name.elim (fun e=>PO fun k:Str×Pos=>e=.Name k.1 k.2) e h (fun x p=>some ⟨(x,p),rfl⟩) else none
noncomputable def uW (e:Expr):PO fun k:Expr×Str×Pos=>e=.Attribute k.1 k.2.1 k.2.2:=
 if h:e.ctorIdx=20 then @Expr.Attribute.elim (fun e=>PO fun k:Expr×Str×Pos=>e=.Attribute k.1 k.2.1 k.2.2) e h (fun a x p=>some ⟨(a,x,p),rfl⟩) else none
noncomputable def q0 (e:Expr):PO fun k:Option Expr×Option Expr×Option Expr=>∃p,e=.Slice k.1 k.2.1 k.2.2 p:=
 if h:e.ctorIdx=26 then @Expr.Slice.elim (fun e=>PO fun k:Option Expr×Option Expr×Option Expr=>∃p,e=.Slice k.1 k.2.1 k.2.2 p) e h (fun a b d p=>some ⟨(a,b,d),p,rfl⟩) else none
noncomputable def yi (e:Expr):PO fun es=>∃k p,e=.Tuple es k p:=
 if h:e.ctorIdx=25 then @Expr.Tuple.elim (fun e=>PO fun es=>∃k p,e=.Tuple es k p) e h (fun es k p=>some ⟨es,k,p,rfl⟩) else none
noncomputable def yV (e:Expr):PO fun k:Expr×Expr=>∃p,e=.Subscript k.1 k.2 p:=
 if h:e.ctorIdx=21 then @Expr.Subscript.elim (fun e=>PO fun k:Expr×Expr=>∃p,e=.Subscript k.1 k.2 p) e h (fun a i p=>some ⟨(a,i),p,rfl⟩) else none
noncomputable def lcV (e:Expr):PO fun k:Scope×Pos=>∃elt gs,e=.ListComp elt gs k.1 k.2:=
 if h:e.ctorIdx=8 then @Expr.ListComp.elim (fun e=>PO fun k:Scope×Pos=>∃elt gs,e=.ListComp elt gs k.1 k.2) e h (fun elt gs s p=>some ⟨(s,p),elt,gs,rfl⟩) else none
noncomputable def fX (e:Expr):Option Const:=jx (rG e)
noncomputable def bZ (e:Expr):Option (Str×Pos):=jx (uY e)
noncomputable def ed (e:Expr):Option (Expr×Str×Pos):=jx (uW e)
noncomputable def ml (e:Expr):Option (Option Expr×Option Expr×Option Expr):=jx (q0 e)
noncomputable def pB (e:Expr):Option (List Expr):=jx (yi e)
noncomputable def yp (e:Expr):Option (Expr×Expr):=jx (yV e)
noncomputable def lcP (e:Expr):Option (Scope×Pos):=jx (lcV e)
theorem hM {e:Expr}{k:Const}(h:fX e=some k):∃n p,e=.Constant k n p:=dN (o:=rG e) h
theorem bv {e:Expr}{k:Str×Pos}(h:bZ e=some k):e=.Name k.1 k.2:=dN (o:=uY e) h
theorem dB {e:Expr}{k:Expr×Str×Pos}(h:ed e=some k):e=.Attribute k.1 k.2.1 k.2.2:=dN (o:=uW e) h
theorem ol {e:Expr}{k:Option Expr×Option Expr×Option Expr}(h:ml e=some k):∃p,e=.Slice k.1 k.2.1 k.2.2 p:=dN (o:=q0 e) h
theorem jR {e:Expr}{es:List Expr}(h:pB e=some es):∃k p,e=.Tuple es k p:=dN (o:=yi e) h
theorem sx {e:Expr}{k:Expr×Expr}(h:yp e=some k):∃p,e=.Subscript k.1 k.2 p:=dN (o:=yV e) h
theorem wQ {e:Expr}{k:Scope×Pos}(h:lcP e=some k):∃elt gs,e=.ListComp elt gs k.1 k.2:=dN (o:=lcV e) h
theorem kC {f:Expr}(h:f.ctorIdx=23):∃x p,f=.Name x p:=@Expr.Name.elim (fun e=>∃x p,e=.Name x p) f h fun x p=>⟨x,p,rfl⟩
noncomputable def yQ (w:Value):PO fun a=>w=.ref a:=if h:w.ctorIdx=10 then @Value.ref.elim (fun w=>PO fun a=>w=.ref a) w h fun a=>some ⟨a,rfl⟩ else none
noncomputable def we (w:Value):Option Addr:=jx (yQ w)
theorem jg {w:Value}{a:Addr}(h:we w=some a):w=.ref a:=dN (o:=yQ w) h
end Mine
end
section
namespace Mine
open PySem PyProof.Rows
theorem idx {i:Int}{n j:Nat}(h0:0≤(if i<0 then i+n else i))(h1:(if i<0 then i+n else i)<n)(e:(if i<0 then i+n else i).toNat=j):-(n:Int)≤i∧i<n∧j<n:=by
 by_cases q:i<0
 ·rw[if_pos q] at h0 h1 e;omega
 ·rw[if_neg q] at h0 h1 e;omega
theorem hH {i:Int}{n j:Nat}(h:seqIndex? i n=some j):(-(n:Int)≤i∧i<n∧j<n)∧j=(if i<0 then i+n else i).toNat:=by
 obtain⟨hc,h⟩:=ifO h
 obtain⟨h0,h1⟩:=(Bool.and_eq_true _ _).mp hc
 exact⟨idx (of_decide_eq_true h0) (of_decide_eq_true h1) (Option.some.inj h),(Option.some.inj h).symm⟩
theorem bV {e:Expr}(h:cX e=true)(o i:Value):subscripted e false o i=operate [o,i] (getItem o i):=by
 cases e<;>first|rfl|exact absurd h Bool.false_ne_true
def vn (c:aa)(o:V)(i:Int)(K:D→Prop):Prop:=aw (bW c o) fun p=>p.2.length≤big∧∃j d,seqIndex? i p.2.length=some j∧p.2[j]?=some d∧K d
def vt (c:aa)(o:V)(i:Int)(K:D→Prop):Prop:=match gv o with
 |some x=>-(x.length:Int)≤i∧i<x.length∧x.length≤big∧K (.str (Txt.item x i))
 |none=>vn c o i K
def ef (c:aa)(o i:V)(K:D→Prop):Prop:=fN i fun n=>vt c o n K
section
variable {prog:Program}{w:World}{A:Around}{hb:Heap}{pr:List Nat}{env:Env}{l:Loc}{c:aa}{α:Al}{s:Shared}
theorem uL {i:Int}{n:Nat}(h0:-(n:Int)≤i)(h1:i<n)(h2:n≤big):fitsSsize i=true:=by
 unfold fitsSsize
 unfold big at h2
 have:¬i < -(2 ^ 63:Int):=by omega
 have h3:¬i ≥ 2 ^ 63:=by omega
 rw[decide_eq_false this,decide_eq_false h3];rfl
theorem pK (C:Cst hb pr c α s.heap){value slice:Expr}(hsl:cX slice=true){o:V}{n:Int}{K:D→Prop}(h:vn c o n K){x:Value}{t:Tok}(hx:IsV c α s.heap o x)
  {Q:Value→Shared→Prop} (hq:∀d g tk,K d→IsD s.heap (aE c α) d g→Q g {s with toks:=tk}):wpAny (model prog w) A (subscriptTail value slice x (.int n t)) Q no s:=by
 obtain⟨⟨b,xs⟩,e,hlen,j,d,hj,hd,hK⟩:=ax h
 obtain⟨a,ws,ep,rfl,g',r⟩:=cW C e hx
 obtain⟨u,hu,hi⟩:=r.get j d hd
 obtain⟨⟨h1,h2,h3⟩,h4⟩:=hH hj
 have hwl:ws.length=xs.length:=r.length.symm
 unfold big at hlen
 cases b with
 |true=>
  exact item_tupleT ⟨_,g',rfl,_,rfl⟩ (by omega) (by omega) (by rw[hwl];exact hj) hu (hq d u s.toks hK hi) (bV hsl _ _)
 |false=>
  have hl:s.heap.IsList a ws.toArray:=⟨_,g',rfl,_,rfl⟩
  refine tail_any (T:="list") hl.typeIs slot_list_getitem.lookup ?_ (bV hsl _ _)
  by_cases h0:n<0
  ·rw[if_pos h0] at h4
   refine wpAny_getItem_list_neg hl h0 (by rw[List.size_toArray,hwl];exact h1) (by omega) ?_ (hq d u s.toks hK hi)
   rw[List.size_toArray,hwl,←h4];simpa using hu
  ·rw[if_neg h0] at h4
   refine wpAny_getItem_list hl (by exact Om.o2 h0) (by omega) ?_ (hq d u s.toks hK hi)
   rw[←h4];simpa using hu
theorem s6 (C:Cst hb pr c α s.heap){value slice:Expr}(hsl:cX slice=true){o i:V}{K:D→Prop}(h:ef c o i K){x y:Value}(hx:IsV c α s.heap o x)(hy:IsV c α s.heap i y)
  {Q:Value→Shared→Prop} (hq:∀d g tk,K d→IsD s.heap (aE c α) d g→Q g {s with toks:=tk}):wpAny (model prog w) A (subscriptTail value slice x y) Q no s:=by
 obtain⟨n,rfl,h1⟩:=b9 h
 obtain⟨t,rfl⟩:=IsD.inv hy
 unfold vt at h1
 cases e:gv o with
 |some x=>
  rw[e] at h1
  obtain rfl:=gW e
  obtain⟨_,rfl⟩:=IsD.inv hx
  obtain⟨h1,h2,h3,h⟩:=h1
  obtain⟨T,id,hl,hT,hg⟩:=(PySem.SB.item (prog:=prog) (w:=w) (A:=A) (E:=no) (uL h1 h2 h3) (charAt_isSome h1 h2) (hq _ _ (s.toks+1) h (.str _ _)):ItemOn _ _ _ _ _ Q s)
  exact tail_any hT hl hg (bV hsl _ _)
 |none=>
  rw[e] at h1
  exact pK C hsl h1 hx hq
noncomputable def l7:V→Option (Option Int)
 | .d .none=>some none
 | .d (.int i)=>some (some i)
 |_=>none
theorem iF {h:Heap}{v:V}{p:Option Int}{g:Value}(e:l7 v=some p)(i:IsV c α h v g):IsPart g p:=by
 cases v with
 |d x=>cases x with
  |none=>obtain rfl:g=_:=IsD.inv i;exact Option.some.inj e▸.none
  |int n=>obtain⟨t,rfl⟩:=IsD.inv i;exact Option.some.inj e▸.int _ _
  |_=>contradiction
 |_=>contradiction
noncomputable def cut (xs:List D)(lo hi:Option Int):List D:=(xs.drop (lo.elim 0 (clipAt xs.length))).take (hi.elim xs.length (clipAt xs.length)-lo.elim 0 (clipAt xs.length))
def iW (c:aa)(o i j:V)(K:D→Prop):Prop:=aw (l7 i) fun lo=>aw (l7 j) fun hi=>match gv o with
 |some x=>x.length≤big∧K (.str (Txt.slice x lo hi))
 |none=>aw (bW c o) fun p=>p.1=false∧p.2.length≤big∧K (.lst (cut p.2 lo hi))
theorem dX (value:Expr)(x:Str)(t:Tok)(r:Value):letTemporaryGo value (.str x t) r=pure ():=by cases value<;>rfl
section
variable (F:Fst hb pr env l c α s.heap){value:Expr}{el eh:Option Expr}{p:Pos}{y z:Value}{K:D→Prop}{lo hi:Option Int}(p1:IsPart y lo)(p2:IsPart z hi)
 {Q:Value→Shared→Prop} (hq:∀d g h' tk,K d→Fst hb pr env l c α h'→Le c α s.heap c α h'→IsD h' (aE c α) d g→Q g {s with heap:=h',toks:=tk})
include F p1 p2 hq
theorem oh {x:Str}{t:Tok}(hx:x.length≤big)(h:K (.str (Txt.slice x lo hi))):wpAny (model prog w) A (subscriptTail value (.Slice el eh none p) (.str x t) (.ref s.heap.objs.size)) Q no {s with heap:=s.heap.push {cls:=.type "slice",data:=.fields #[y,z,.none]}}:=by
 have kp:KeptH (fun h'=>∀b o,s.heap.get? b=some o→h'.get? b=some o):=fun h ob k b o e=>Heap.get?_push_of_some _ (k b o e)
 have fin:∀h' t' k,(∀b o,s.heap.get? b=some o→h'.get? b=some o)→Q (.str (Txt.slice x lo hi) t') {s with heap:=h',toks:=k}:=by
  intro h' t' k kk
  obtain⟨F',L'⟩:=F.keeps kk
  exact hq _ _ h' k h F' L' (.str _ _)
 have hsz:=aJ hx
 cases p1 with
 |none=>cases p2 with
  |none=>exact tail_of_ItemOn (SBH.sliceItem_nn kp (fun _ _ e=>e) fin hsz) rfl (dX _ _ _)
  |int j u=>exact tail_of_ItemOn (SBH.sliceItem_ns kp (fun _ _ e=>e) fin hsz) rfl (dX _ _ _)
 |int i u=>cases p2 with
  |none=>exact tail_of_ItemOn (SBH.sliceItem_sn kp (fun _ _ e=>e) fin hsz) rfl (dX _ _ _)
  |int j u=>exact tail_of_ItemOn (SBH.sliceItem_ss kp (fun _ _ e=>e) fin hsz) rfl (dX _ _ _)
theorem pq {a:Addr}{xs:List D}{ws:List Value}{ep:Nat}(g':s.heap.get? a=some (bc "list" ws ep)) (r:IsDs s.heap (aE c α) xs ws) (hx:xs.length≤big) (h:K (.lst (cut xs lo hi))) :
  wpAny (model prog w) A (subscriptTail value (.Slice el eh none p) (.ref a) (.ref s.heap.objs.size)) Q no {s with heap:=s.heap.push {cls:=.type "slice",data:=.fields #[y,z,.none]}}:=by
 have hl:s.heap.IsList a ws.toArray:=⟨_,g',rfl,_,rfl⟩
 have hwl:ws.length=xs.length:=r.length.symm
 refine tail_any (T:="list") (Heap.IsList.typeIs (s:={s with heap:=s.heap.push {cls:=.type "slice",data:=.fields #[y,z,.none]}}) (hl.push _)) slot_list_getitem.lookup
  (wpAny_getItem_list_slice (hl.push _) (Heap.IsSliceOf.new ..) p1 p2 .none (by simp) ?_ (by rw[List.size_toArray,hwl];exact aJ hx)) rfl
 rw[slicePick_plain]
 obtain⟨F1,L1⟩:=F.push {cls:=.type "slice",data:=.fields #[y,z,.none]}
 obtain⟨F2,L2⟩:=F1.push (bc "list" ((ws.drop (lo.elim 0 (clipAt xs.length))).take (hi.elim xs.length (clipAt xs.length)-lo.elim 0 (clipAt xs.length))) 0)
 have:=hq (.lst (cut xs lo hi)) (.ref (s.heap.push {cls:=.type "slice",data:=.fields #[y,z,.none]}).objs.size) _ s.toks h F2 (L1.trans L2)
  (.lst (Heap.get?_push_size _ rfl) (a9 F1.toCst) (((L1.trans L2).isDs r).drop _ |>.take _))
 simpa [hwl] using this
end
theorem qN (F:Fst hb pr env l c α s.heap){value lo hi:Expr}{el eh:Option Expr}{p:Pos}{o i j:V}{K:D→Prop}(h:iW c o i j K){x y z:Value}(hx:IsV c α s.heap o x)(hy:IsV c α s.heap i y)(hz:IsV c α s.heap j z)
  {Q:Value→Shared→Prop} (hq:∀d g h' tk,K d→Fst hb pr env l c α h'→Le c α s.heap c α h'→IsD h' (aE c α) d g→Q g {s with heap:=h',toks:=tk}) :
  wpAny (model prog w) A (subscriptTail value (.Slice el eh none p) x (.ref s.heap.objs.size)) Q no {s with heap:=s.heap.push {cls:=.type "slice",data:=.fields #[y,z,.none]}}:=by
 obtain⟨lo,e1,h⟩:=ax h
 obtain⟨hi,e2,h⟩:=ax h
 have p1:=iF e1 hy
 have p2:=iF e2 hz
 cases e:gv o with
 |some x=>
  rw[e] at h
  obtain rfl:=gW e
  obtain⟨t,rfl⟩:=IsD.inv hx
  exact oh F p1 p2 hq h.1 h.2
 |none=>
  rw[e] at h
  obtain⟨⟨b,xs⟩,e,e',h1,h2⟩:=ax h
  obtain⟨a,ws,ep,rfl,g',r⟩:=cW F.toCst e hx
  have e':b=false:=e'
  rw[e'] at g'
  exact pq F p1 p2 hq g' r h1 h2
end
end Mine
end
section
namespace Mine
open PySem PyProof.Rows PySem.W
structure ClsOk (K:Frag)(C:Addr):Prop where
 ga:findIn K (.ref C) "__getattribute__"=some (some (.builtin "object.__getattribute__"))
 gk:findIn K (.ref C) "__getattr__"=some none
 sa:findIn K (.ref C) "__setattr__"=some (some (.builtin "object.__setattr__"))
 po:plainOver K C=true
 hd:hasDictIn K C=true
theorem fy {es:Array DictEntry}{ep:Nat}{o:Obj}{x:Str}{r:Option Value}(hd:o.data=.dict es ep)(sk:StrKeys es)(e:nsFind es x=r):lookIn x o=some r:=by
 unfold lookIn
 rw[hd]
 dsimp only
 rw[Array.find?_toList]
 unfold nsFind findBy at e
 have hany:es.toList.any (·.refKey)=false:=by
  rw[Array.any_toList,Array.any_eq_false'];intro e he;obtain⟨n,t,h⟩:=sk e he;simp[DictEntry.refKey,h]
 cases hf:es.find? (·.key.isStr x) with
 |some en=>rw[hf] at e;(subst e);rfl
 |none=>rw[hf] at e;(subst e);simp only[hany];rfl
section
variable {prog:Program}{w:World}{A:Around}{hb:Heap}{pr:List Nat}{env:Env}{l:Loc}{c:aa}{α:Al}{s:Shared}{K:Frag}
theorem mC (C:Cst hb pr c α s.heap){k dk:Nat}{cl:Addr}{fs:List (Str×V)}(hk:ae c k=some (.inst cl dk))(hdk:ae c dk=some (.ns fs)) :
  ∃o es ep,InstAt s.heap (α k) {cls:=.ref cl,dict:=some (α dk)} cl (some o)∧s.heap.get? (α dk)=some o∧o.data=.dict es ep∧StrKeys es∧es.size=fs.length∧
   ∀x,match look fs x with
    |some v=>∃w,nsFind es x=some w∧IsV c α s.heap v w
    |none=>nsFind es x=none:=by
 obtain⟨h1,h2⟩:=C.cell k _ hk
 obtain⟨o,es,ep,g,hd,sk,sz,f⟩:=C.cell dk _ hdk
 exact⟨o,es,ep,⟨h1,rfl,rfl,g⟩,g,hd,sk,sz,f⟩
noncomputable def iP:V→Bool
 | .val u=>handedIn u
 | .bi _=>false
 |_=>true
theorem rl {h:Heap}{v:V}{g:Value}(e:iP v=true)(i:IsV c α h v g):handedIn g=true:=by
 cases v with
 |d x=>cases i<;>rfl
 |obj k=>rw[i.1];rfl
 |val u=>(subst i);exact e
 |rng p q=>obtain⟨r,_,_,_,e,_⟩:=i;rw[e];rfl
 |bi b=>contradiction
 |mt e=>obtain⟨r,e,_⟩:=i;rw[e];rfl
theorem tU (F:Fst hb pr env l c α s.heap)(X:K.In hb){k dk:Nat}{cl:Addr}{fs:List (Str×V)}(hk:ae c k=some (.inst cl dk))(hdk:ae c dk=some (.ns fs))(CO:ClsOk K cl)
  {nm:Str} (hn:findIn K (.ref cl) nm=some none) {v:V} (hv:look fs nm=some v) (hh:iP v=true) {expr:Bool}
  {Q:Value→Shared→Prop} (hq:∀g tk,IsV c α s.heap v g→Q g {s with toks:=tk}):wpAny (model prog w) A (getAttr (.ref (α k)) nm expr) Q no s:=by
 obtain⟨o,es,ep,I,g,hd,sk,sz,f⟩:=mC F.toCst hk hdk
 have:=f nm
 rw[hv] at this
 obtain⟨u,hu,i⟩:=this
 exact get_value (X.keeps F.base) I CO.ga (findObj_own CO.hd hn rfl (fy hd sk hu)) (rl hh i) (hq u _ i)
theorem tv (F:Fst hb pr env l c α s.heap)(X:K.In hb){k dk:Nat}{cl:Addr}{fs:List (Str×V)}(hk:ae c k=some (.inst cl dk))(hdk:ae c dk=some (.ns fs))(CO:ClsOk K cl)
  {nm:Str} {f:Addr} (hn:findIn K (.ref cl) nm=some (some (.ref f))) (hf:typeIn K (.ref f)=some (.type "function")) (hv:look fs nm=none) {pl:Sem Bool}
  {Q:Value×List Value→Shared→Prop} (hq:Q (.ref f,[.ref (α k)]) s):wpAny (model prog w) A (getMethod (.ref (α k)) nm pl) Q no s:=by
 obtain⟨o,es,ep,I,g,hd,sk,sz,fi⟩:=mC F.toCst hk hdk
 have:=fi nm
 rw[hv] at this
 exact method_fn (X.keeps F.base) I CO.ga CO.gk hn hf (by unfold shadowIn;dsimp only;rw[fy hd sk this];rfl) hq
theorem gZ {name:Str}{hash:Int}{key v:Value}{o:Obj}{es:Array DictEntry}{ep:Nat}(hd:o.data=.dict es ep)(hkey:∃t,key=.str name t)(sk:StrKeys es) :
  ∃es' ep',(Obj.putName name hash key v o).data=.dict es' ep'∧StrKeys es'∧es'.size=(if (nsFind es name).isSome then es.size else es.size+1)∧∀x,nsFind es' x=if x=name then some v else nsFind es x:=by
 obtain⟨t,rfl⟩:=hkey
 obtain⟨cl,di,da,sl⟩:=o
 subst hd
 cases hi:es.findIdx? (·.key.isStr name) with
 |some i=>
  have hs:(nsFind es name).isSome=true:=by
   unfold nsFind findBy
   cases hf:es.find? (·.key.isStr name) with
   |some _=>rfl
   |none=>
    rw[Array.find?_eq_none] at hf
    obtain⟨hlt,hp,_⟩:=Array.findIdx?_eq_some_iff_getElem.mp hi
    exact absurd hp (hf _ (Array.getElem_mem hlt))
  refine⟨_,ep,by simp only[Obj.putName_eq,Obj.putNameByArray,hi];rfl,sk.modify _ _,by rw[hs];simp,fun x=>?_⟩
  exact findBy_modify (fun n v=>v.isStr n) Value.isStr_inj es name x v i hi
 |none=>
  have hs:(nsFind es name).isSome=false:=by
   unfold nsFind findBy
   have hf:es.find? (·.key.isStr name)=none:=by
    rw[Array.find?_eq_none]
    intro e he
    simpa using Array.findIdx?_eq_none_iff.mp hi e he
   show ((es.find? (·.key.isStr name)).map _).isSome=false
   rw[hf];rfl
  refine⟨_,ep+1,by simp only[Obj.putName_eq,Obj.putNameByArray,hi];rfl,sk.push _ _ _ _,by rw[hs];simp,fun x=>?_⟩
  exact findBy_push (fun n v=>v.isStr n) es name x _ _ v (fun y=>by
   show (name==y)=decide (y=name)
   by_cases h:y=name
   ·subst h;simp
   ·have:¬name=y:=fun e=>h e.symm
    simp[h,this]) hi
theorem gp {β:Type}(fs:List (Str×β))(x:Str)(v:β):(put fs x v).length=if (look fs x).isSome then fs.length else fs.length+1:=by
 induction fs with
 |nil=>rfl
 |cons p r ih=>
  obtain⟨y,u⟩:=p
  by_cases e:y=x
  ·simp[put,look,e]
  ·simp only[put,look,if_neg e,List.length_cons,ih]
   split<;>rfl
theorem ez (F:Fst hb pr env l c α s.heap)(X:K.In hb){k dk:Nat}{cl:Addr}{fs:List (Str×V)}(hk:ae c k=some (.inst cl dk))(hdk:ae c dk=some (.ns fs))(CO:ClsOk K cl)
  {nm:Str} (hn:findIn K (.ref cl) nm=some none) (hsz:fs.length≤1000) {v:V} {g:Value} (i:IsV c α s.heap v g)
  {Q:Unit→Shared→Prop} (hq:∀h' tk,Fst hb pr env l (cset c dk (.ns (put fs nm v))) α h'→Le c α s.heap (cset c dk (.ns (put fs nm v))) α h'→Q () {s with heap:=h',toks:=tk}) :
  wpAny (model prog w) A (setAttr (.ref (α k)) nm g) Q no s:=by
 obtain⟨o,es,ep,I,hg,hd,sk,sz,fi⟩:=mC F.toCst hk hdk
 have X':=X.keeps F.base
 have hsome:(nsFind es nm).isSome=(look fs nm).isSome:=by
  have:=fi nm
  cases hl:look fs nm with
  |none=>rw[hl] at this;rw[this];rfl
  |some u=>rw[hl] at this;obtain⟨w,h1,_⟩:=this;rw[h1];rfl
 obtain⟨es',ep',d',sk',sz',fi'⟩:=gZ (hash:=PyData.keyHash w.params nm) (v:=g) hd ⟨s.toks+1,rfl⟩ sk (name:=nm)
 have ht:takerIn K cl nm=some none:=by unfold takerIn;rw[hn];rfl
 refine set_plain X' I CO.sa (osa_open (s:={s with toks:=s.toks+1}) X' I CO.po ht fun b=>?_)
 obtain⟨cd,hc,hd'⟩:=any_some CO.hd
 have hfreed:(Obj.putName nm (PyData.keyHash w.params nm) (.str nm (s.toks+1)) g o).isFreed=false:=Obj.isFreed_of_dict d'
 have D':(s.heap.update (α dk) (Obj.putName nm (PyData.keyHash w.params nm) (.str nm (s.toks+1)) g)).get? (α dk)=some (Obj.putName nm (PyData.keyHash w.params nm) (.str nm (s.toks+1)) g o):=Heap.get?_update_self _ hg hfreed
 have hx:=I.at_
 refine wpAny_bind (wpAny_pure (wpAny_bind (wpAny_bind (wpAny_loadPart hx (wpAny_bind (Looks.here (s:={s with toks:=s.toks+1}) (looks_clsIn X' hc) ?_))))))
 rw[hd']
 refine wpAny_pure (a:=some (α dk)) (wpAny_bind (wpAny_pure (wpAny_bind ?_)))
 unfold nsSet
 refine wpAny_bind (wpAny_bind (wpAny_askSetting (wpAny_pure (wpAny_bind (wpAny_mkText (wpAny_bind (wpAny_loadPart hg ?_)))))))
 rw[hd]
 dsimp only
 have hany:es.any (·.refKey)=false:=by
  rw[Array.any_eq_false'];intro e he;obtain⟨n,t,h⟩:=sk e he;simp[DictEntry.refKey,h]
 rw[aRefKeyMayBeTheName_at,hany,Bool.and_false]
 refine wpAny_updatePart hg ?_
 refine wpAny_bind (wpAny_lookBehind D' (by rw[d'];exact pastItsLine_dict (by rw[sz',sizeLine_eq];split<;>omega)) ?_)
 have hdm:dk∈dom c:=al hdk
 obtain⟨F',L'⟩:=F.set hdm (o:=.ns (put fs nm v)) (Heap.SameBut.update s.heap (α dk) (Obj.putName nm (PyData.keyHash w.params nm) (.str nm (s.toks+1)) g)) (fun L=>by
  refine⟨_,es',ep',D',d',sk',?_,fun x=>?_⟩
  ·rw[sz',gp,hsome,sz]
  ·rw[ah]
   have:=fi x
   by_cases hx:x=nm
   ·rw[if_pos hx];exact⟨g,by rw[fi',if_pos hx],L.isV i⟩
   ·rw[if_neg hx]
    cases hl:look fs x with
    |none=>rw[hl] at this;dsimp only;rw[fi',if_neg hx];exact this
    |some u=>rw[hl] at this;obtain⟨w,h1,h2⟩:=this;exact⟨w,by rw[fi',if_neg hx];exact h1,L.isV h2⟩)
 exact wpAny_pure (hq _ _ F' L')
end
structure Room (d:Nat)(A:Around):Prop where
 handled:A.handled=none
 depth:A.depth+d<recursionLimit
 units:A.units+10*d+200<cLine
theorem Room.deeper {d:Nat}{A:Around}(r:Room (d+1) A)(env:Env):Room d (A.deeper env):=by
 refine⟨r.handled,?_,?_⟩
 ·have:=r.depth;show A.depth+1+d<recursionLimit;exact Om.o8 this
 ·have:=r.units;show A.units+3+10*d+200<cLine;exact Om.o7 this
theorem Room.less {d d':Nat}{A:Around}(r:Room d A)(h:d'≤d):Room d' A:=⟨r.handled,by have:=r.depth;exact Om.o6 h this,by have:=r.units;exact Om.o5 h this⟩
theorem Room.hu {d:Nat}{A:Around}(r:Room d A):A.units+64<cLine:=by have:=r.units;exact Om.o4 this
theorem Room.room {d:Nat}{A:Around}(r:Room d A):A.depth<recursionLimit:=by have:=r.depth;exact Om.o3 this
noncomputable abbrev Spec:=List V→aa→(V→aa→Prop)→Prop
def FnOk (prog:Program)(w:World)(hb:Heap)(d:Nat)(a:Addr)(spec:Spec):Prop:=
 ∀(A:Around),Room d A→∀(vs:List V) (ws:List Value) (c:aa) (α:Al) (s:Shared) (K:V→aa→Prop) (R:Result→Shared→Prop),
  1≤s.toks→Cst hb [] c α s.heap→IsVs c α s.heap vs ws→spec vs c K→
  (∀v c' α' g h' tk,K v c'→Cst hb [] c' α' h'→Le c α s.heap c' α' h'→IsV c' α' h' v g→R (.ok (.ret g)) {s with heap:=h',toks:=tk})→
  codeAny (model prog w) A (.call (.ref a) ⟨ws,[]⟩) R s
theorem IsVs.length {c:aa}{α:Al}{h:Heap}:∀{vs:List V} {ws:List Value},IsVs c α h vs ws→vs.length=ws.length
 |_,_,.nil=>rfl
 |_,_,.cons _ r=>by simp[r.length]
theorem oN {kindOf:Str→Option NameKind}:∀(bs:List (Str×Value)) (m:Str→Option Value) (x:Str),kindOf x=some .local→
  bindL kindOf bs m x=match bs.reverse.lookup x with|some w=>some w|none=>m x:=by
 intro bs
 induction bs with
 |nil=>intro m x _;rfl
 |cons p r ih=>
  obtain⟨n,v⟩:=p
  intro m x hx
  unfold bindL
  rw[ih _ x hx]
  simp only[List.reverse_cons,List.lookup_append,List.lookup_cons,List.lookup_nil]
  cases r.reverse.lookup x with
  |some w=>rfl
  |none=>
   dsimp only[Option.none_or]
   by_cases e:x=n
   ·subst e;simp[hx]
   ·have hb:(x==n)=false:=beq_eq_false_iff_ne.mpr e
    rw[hb]
    by_cases hl:kindOf n=some .local
    ·simp[hl,e]
    ·simp[hl]
theorem pg {kindOf:Str→Option NameKind}:∀(bs:List (Str×Value)) (m:Str→Option Value) (x:Str),kindOf x≠some .local→
  bindC kindOf bs m x=match bs.reverse.lookup x with|some w=>some w|none=>m x:=by
 intro bs
 induction bs with
 |nil=>intro m x _;rfl
 |cons p r ih=>
  obtain⟨n,v⟩:=p
  intro m x hx
  unfold bindC
  rw[ih _ x hx]
  simp only[List.reverse_cons,List.lookup_append,List.lookup_cons,List.lookup_nil]
  cases r.reverse.lookup x with
  |some w=>rfl
  |none=>
   dsimp only[Option.none_or]
   by_cases e:x=n
   ·subst e;simp[hx]
   ·have hb:(x==n)=false:=beq_eq_false_iff_ne.mpr e
    rw[hb]
    by_cases hl:kindOf n=some .local
    ·simp[hl]
    ·simp[hl,e]
theorem rv {c:aa}{α:Al}{h:Heap}:∀(ps:List Str),ps.Nodup→∀(vs:List V) (ws:List Value),IsVs c α h vs ws→∀x v,look (ps.zip vs) x=some v→∃w,(ps.zip ws).reverse.lookup x=some w∧IsV c α h v w:=by
 intro ps
 induction ps with
 |nil=>intro _ vs ws _ x v e;simp[look] at e
 |cons p r ih=>
  intro nd vs ws i x v e
  cases i with
  |nil=>simp[look] at e
  | @cons v0 w0 vs ws i0 i=>
   dsimp only[List.zip_cons_cons,look] at e
   simp only[List.zip_cons_cons,List.reverse_cons,List.lookup_append,List.lookup_cons,List.lookup_nil]
   by_cases hx:p=x
   ·rw[if_pos hx] at e;(injection e with e;subst e)
    have:(r.zip ws).reverse.lookup x=none:=by
     rw[List.lookup_eq_none_iff]
     intro q hq
     have hm:=List.mem_reverse.mp hq
     have:=(List.of_mem_zip hm).1
     simp only[bne_iff_ne,ne_eq]
     intro e
     exact (List.nodup_cons.mp nd).1 (by rw[hx,e];exact this)
    rw[this,hx]
    refine⟨w0,by simp,i0⟩
   ·rw[if_neg hx] at e
    obtain⟨w,h1,h2⟩:=ih (List.nodup_cons.mp nd).2 vs ws i x v e
    exact⟨w,by rw[h1];rfl,h2⟩
structure FnAt (hb:Heap)(a:Addr)(fd:FuncData)(body:List Stmt)(ps:List Str):Prop where
 at_:∃o,hb.get? a=some o∧o.data=.func fd
 lim:hb.NoLimit
 code:hb.CodeRec fd.code fd.qualname
 body:fd.body=.stmts body
 clo:fd.closure=[]
 bind:∀ws:List Value,ws.length=ps.length→bindArgs fd ⟨ws,[]⟩=pure (ps.zip ws)
 nd:ps.Nodup
 kinds:∀p∈ps,fd.scope.names.lookup p=some .local∨(fd.scope.names.lookup p=some .cell∧∀n,((cellsFrom n fd.scope.names []).lookup p).isSome=true)
 co:fd.scope.isCoroutine=false
 gen:fd.scope.isGenerator=false
 kind:fd.scope.kind=.function
theorem dt:∀(names:List (Str×NameKind)) (n:Nat) (acc:List (Str×Addr)) (x:Str) (b:Addr),(x,b)∈cellsFrom n names acc→(x,b)∈acc∨n≤b
 | [],n,acc,x,b,h=>.inl h
 | (name,kind)::r,n,acc,x,b,h=>by
  unfold cellsFrom at h
  split at h
  ·rcases dt r _ _ x b h with h|h
   ·rcases List.mem_cons.mp h with h|h
    ·(injection h with h h_;subst h h_);exact .inr (Nat.le_refl _)
    ·exact .inl h
   ·exact .inr (Nat.le_of_succ_le h)
  ·exact dt r _ _ x b h
theorem vE {M:Model}{A:Around}{E:Value→Shared→Prop}{s:Shared}{scope:Scope}{globals:Addr}{n:Str}{v:Value}{r:List (Str×Value)}{qual:Str}{func:Option Addr}{code:Value}{builtins:Addr}{Q:Env→Shared→Prop}
  (hk:scope.kind=.function) (hl:scope.names.lookup n=some .local)
  (hkind:∀x∈r,scope.names.lookup x.1=some .local∨(scope.names.lookup x.1=some .cell∧((cellsFrom (s.heap.objs.size+1) scope.names []).lookup x.1).isSome=true))
  (hQ:∀env,env=newEnv scope s.heap.objs.size globals (cellsFrom (s.heap.objs.size+1) scope.names []) qual func code none builtins→
   ∀s',1≤s'.toks→InCallC s env.locals (bindL env.kindOf ((n,v)::r) fun _=>none) env.cells (bindC env.kindOf ((n,v)::r) fun _=>none) s'→Q env s') :
  wpAny M A (newFunctionEnv scope globals [] ((n,v)::r) qual func code none builtins) Q E s:=by
 simp only[newFunctionEnv,Option.isSome_none,Bool.false_eq_true,if_false]
 refine wpAny_bind (wpAny_alloc ?_)
 refine wpAny_bind (wpAny_layCells _ (fun name kind cells=>by cases hkc:kind==NameKind.cell<;>simp[hkc]) _ _ _ _ ?_)
 have ok:=cellsFrom_ok scope.names (s.heap.push {cls:=.type "frame",data:=.dict #[]}) (s.heap.objs.size+1) [] ⟨fun _ _ hm=>(nomatch hm),List.Pairwise.nil⟩ (by rw[Heap.size_push];exact Nat.le_refl _)
 rw[Heap.size_push] at ok
 rw[show ({s with heap:=s.heap.push {cls:=.type "frame",data:=.dict #[]}}:Shared).heap.objs.size=s.heap.objs.size+1 from Heap.size_push ..]
 have I0:InCallC s s.heap.objs.size (fun _=>none) (cellsFrom (s.heap.objs.size+1) scope.names []) (fun _=>none) {s with heap:=pushCells (s.heap.push {cls:=.type "frame",data:=.dict #[]}) scope.names}:=
  ⟨⟨⟨_,_,rfl⟩,(Heap.Ns.new s.heap (.type "frame")).keeps (pushCells_keeps _ _),fun b o e=>pushCells_keeps _ _ b o (Heap.get?_push_of_some _ e),Nat.le_refl _⟩,
   fun n c hc=>(ok.empty n c (mem_of_lookup hc)).1,ok.apart,fun n c hm=>(ok.empty n c hm).2⟩
 rw[List.forIn_cons]
 refine wpAny_bind (wpAny_bind (wpAny_bind ?_))
 have hl':(newEnv scope s.heap.objs.size globals (cellsFrom (s.heap.objs.size+1) scope.names []) qual func code none builtins).kindOf n=some .local:=hl
 refine wpAny_storeName_local hl' I0.toInCall.ns (fun h' hn' hs'=>?_) (by show (scope.kind==.class||_)=false;rw[hk];rfl)
 refine wpAny_pure ?_
 have I1:InCallC s s.heap.objs.size (fun y=>if y=n then some v else none) (cellsFrom (s.heap.objs.size+1) scope.names []) (fun _=>none) {s with heap:=h',toks:=s.toks+1}:=
  ⟨⟨⟨h',_,rfl⟩,hn',fun b o e=>hs'.extBut b o (Nat.ne_of_lt (Nat.lt_of_lt_of_le (Heap.lt_size e) I0.toInCall.fresh)) (I0.toInCall.keep b o e),I0.toInCall.fresh⟩,
   fun k c hc=>(I0.cell k c hc).sameBut hs' (Nat.ne_of_gt (I0.above k c (mem_of_lookup hc))),I0.apart,I0.above⟩
 refine au (s:={s with heap:=h',toks:=s.toks+1}) (Nat.le_add_left 1 _) ?_
 refine wpAny_bindParams (s₀:=s) (env:=newEnv scope s.heap.objs.size globals (cellsFrom (s.heap.objs.size+1) scope.names []) qual func code none builtins) _ (fun _ _ _=>rfl) hk r _ _ _ _ I1 hkind fun s' x ht=>wpAny_pure (hQ _ rfl s' ht ?_)
 unfold bindL bindC
 rw[if_pos hl',if_pos hl'];exact x
theorem gY {prog:Program}{w:World}{A:Around}{s:Shared}{R:Result→Shared→Prop}{a:Addr}{o:Obj}{fd:FuncData}{body:List Stmt}{vals:List Value}{binds:List (Str×Value)}
  (hs:1≤s.toks∨∃n v r,binds=(n,v)::r∧fd.scope.names.lookup n=some .local)
  (hroom:A.depth<recursionLimit) (ho:s.heap.get? a=some o) (hdata:o.data=.func fd) (hlim:s.heap.NoLimit) (hcd:s.heap.CodeRec fd.code fd.qualname)
  (hbody:fd.body=.stmts body) (hbind:bindArgs fd ⟨vals,[]⟩=pure binds) (hclo:fd.closure=[])
  (hkind:∀x∈binds,fd.scope.names.lookup x.1=some .local∨(fd.scope.names.lookup x.1=some .cell∧((cellsFrom (s.heap.objs.size+1) fd.scope.names []).lookup x.1).isSome=true))
  (h:∀s₁,1≤s₁.toks→InCallC s (callEnvC fd s.heap.objs.size a).locals (bindL (callEnvC fd s.heap.objs.size a).kindOf binds fun _=>none) (callEnvC fd s.heap.objs.size a).cells
    (bindC (callEnvC fd s.heap.objs.size a).kindOf binds fun _=>none) s₁→
   wpAny (model prog w) (A.deeper (callEnvC fd s.heap.objs.size a)) (execs body (callEnvC fd s.heap.objs.size a)) (fun f s'=>R (.ok (.ret (match f with | .ret v=>v|_=>.none))) s')
    (fun e s'=>wpAny (model prog w) (A.deeper (callEnvC fd s.heap.objs.size a)) (leaving (callEnvC fd s.heap.objs.size a) e) (fun _ s''=>R (.error e) s'') (fun e' s''=>R (.error e') s'') s') s₁)
  (hco:fd.scope.isCoroutine=false) (hgen:fd.scope.isGenerator=false) (hk:fd.scope.kind=.function) :
  codeAny (model prog w) A (.call (.ref a) ⟨vals,[]⟩) R s:=by
 refine codeAny_call_function hroom ho hdata hco hgen hbody hcd ?_
 rw[hbind,hclo]
 rcases hs with hs|⟨n,v,r,rfl,hl⟩
 ·refine wpAny_pure (au hs (wpAny_newFunctionEnv_cells hk hkind fun env he s' x=>?_))
  subst he
  exact fun ht=>⟨hlim.keeps x.toInCall.keep,codeAny_func (h s' ht x)⟩
 ·refine wpAny_pure (vE hk hl (fun x hx=>hkind x (.tail _ hx)) fun env he s' ht x=>?_)
  subst he
  exact⟨hlim.keeps x.toInCall.keep,codeAny_func (h s' ht x)⟩
def mR (prog:Program)(w:World)(hb:Heap)(d:Nat)(a:Addr)(spec:Spec):Prop:=
 ∀(A:Around),Room d A→∀(vs:List V) (ws:List Value) (c:aa) (α:Al) (s:Shared) (K:V→aa→Prop) (R:Result→Shared→Prop),
  Cst hb [] c α s.heap→IsVs c α s.heap vs ws→spec vs c K→
  (∀v c' α' g h' tk,K v c'→Cst hb [] c' α' h'→Le c α s.heap c' α' h'→IsV c' α' h' v g→R (.ok (.ret g)) {s with heap:=h',toks:=tk})→
  codeAny (model prog w) A (.call (.ref a) ⟨ws,[]⟩) R s
theorem qP {prog:Program}{w:World}{hb:Heap}{d:Nat}{a:Addr}{fd:FuncData}{body:List Stmt}{ps:List Str}(N:FnAt hb a fd body ps){spec:Spec}
  (h:∀(A:Around),Room d A→∀(L:Addr) (vs:List V) (c:aa) (K:V→aa→Prop),spec vs c K→EnvOk (callEnvC fd L a)→vs.length=ps.length∧
   OkS (model prog w) A hb (dom c) (callEnvC fd L a) ⟨ps.zip vs,c⟩ (execs body (callEnvC fd L a))
    (fun f τ=>(∀k∈dom c,k∈dom τ.c)∧K (match f with | .ret v=>v|_=>.d .none) τ.c)) :
  ∀(A:Around),Room (d+1) A→∀(vs:List V) (ws:List Value) (c:aa) (α:Al) (s:Shared) (K:V→aa→Prop) (R:Result→Shared→Prop),
  (1≤s.toks∨∃n r,ps=n::r∧fd.scope.names.lookup n=some .local)→Cst hb [] c α s.heap→IsVs c α s.heap vs ws→spec vs c K→
  (∀v c' α' g h' tk,K v c'→Cst hb [] c' α' h'→Le c α s.heap c' α' h'→IsV c' α' h' v g→R (.ok (.ret g)) {s with heap:=h',toks:=tk})→
  codeAny (model prog w) A (.call (.ref a) ⟨ws,[]⟩) R s:=by
 intro A r vs ws c α s K R hs C iv sp hR
 obtain⟨o,ho,hd⟩:=N.at_
 have base:=C.base
 have EO:EnvOk (callEnvC fd s.heap.objs.size a):=by
  have cel:∀x b,(callEnvC fd s.heap.objs.size a).cells.lookup x=some b→s.heap.objs.size+1≤b:=fun x b e=>by
   rcases dt _ _ _ x b (mem_of_lookup e) with h|h
   ·contradiction
   ·exact h
  have ok:=cellsFrom_ok fd.scope.names (s.heap.push {cls:=.type "frame",data:=.dict #[]}) (s.heap.objs.size+1) [] ⟨fun _ _ hm=>(nomatch hm),List.Pairwise.nil⟩ (by rw[Heap.size_push];exact Nat.le_refl _)
  rw[Heap.size_push] at ok
  exact⟨N.kind,fun x b e q=>by have:=cel x b e;rw[q] at this;exact absurd this (Nat.not_succ_le_self _),fun x y b h1 h2=>name_of_addr ok.apart (mem_of_lookup h1) (mem_of_lookup h2),
   by show (fd.scope.kind==.module&&_)=false;rw[N.kind];rfl⟩
 obtain⟨hlen,hbody⟩:=h (A.deeper (callEnvC fd s.heap.objs.size a)) (r.deeper _) s.heap.objs.size vs c K sp EO
 have hwl:ws.length=ps.length:=by rw[←iv.length];exact hlen
 have hs':1≤s.toks∨∃n v r,ps.zip ws=(n,v)::r∧fd.scope.names.lookup n=some .local:=by
  rcases hs with hs|⟨n,r,rfl,hl⟩
  ·exact .inl hs
  ·cases ws with
   |nil=>contradiction
   |cons v ws=>exact .inr ⟨n,v,r.zip ws,rfl,hl⟩
 refine gY hs' r.room (base _ _ ho) hd (N.lim.keeps base) (N.code.keeps base) N.body (N.bind ws hwl) N.clo (fun x hx=>?_) (fun s₁ htk X=>?_) N.co N.gen N.kind
 ·rcases N.kinds x.1 (List.of_mem_zip (show (x.1,x.2)∈ps.zip ws from hx)).1 with h|⟨h,q⟩
  ·exact .inl h
  ·exact .inr ⟨h,q _⟩
 ·obtain⟨h₁,tk,rfl,kp⟩:=X.done
  obtain⟨C1,L1⟩:=C.keeps kp
  have hfr:∀b,FrA (callEnvC fd s.heap.objs.size a) b→s.heap.objs.size≤b:=by
   rintro b (rfl|⟨x,e⟩)
   ·exact Nat.le_refl _
   ·exact Nat.le_of_lt (X.above x b (mem_of_lookup e))
  have hno:∀b,FrA (callEnvC fd s.heap.objs.size a) b→s.heap.get? b=none:=fun b f=>by
   cases e:s.heap.get? b with
   |none=>rfl
   |some o=>exact absurd (Heap.lt_size e) (Nat.not_lt_of_le (hfr b f))
  have F1:Fst hb (dom c) (callEnvC fd s.heap.objs.size a) (ps.zip vs) c α h₁:=by
   refine⟨⟨C1.base,C1.cell,C1.fresh,C1.inj,fun _ hk=>hk⟩,⟨_,X.toInCall.ns⟩,fun x b e=>?_,fun x v e=>?_,fun b f=>⟨?_,?_⟩⟩
   ·obtain⟨o,h1,h2⟩:=X.cell x b e;exact⟨o,_,h1,h2⟩
   ·obtain⟨g,hg,ig⟩:=rv ps N.nd vs ws (L1.isVs iv) x v e
    refine⟨g,?_,ig⟩
    have hx:x∈ps:=by
     have:=mem_of_lookup hg
     exact (List.of_mem_zip (List.mem_reverse.mp this)).1
    rcases N.kinds x hx with hk|⟨hk,q⟩
    ·refine .loc _ hk X.toInCall.ns ?_
     rw[oN _ _ _ hk,hg]
    ·have hk':(callEnvC fd s.heap.objs.size a).kindOf x=some .cell:=hk
     obtain⟨b,hbb⟩:=Option.isSome_iff_exists.mp (q (s.heap.objs.size+1))
     obtain⟨o,h1,h2⟩:=X.cell x b hbb
     refine .cel b o hk' hbb h1 ?_
     rw[h2,pg _ _ _ (by rw[hk'];decide),hg]
   ·cases e:hb.get? b with
    |none=>rfl
    |some o=>have:=base _ _ e;rw[hno b f] at this;contradiction
   ·rintro⟨k,hk,e⟩
    obtain⟨q,hq⟩:=C.ex hk
    rw[e,hno b f] at hq;contradiction
  have:=hbody α {s with heap:=h₁,toks:=tk} (fun f s'=>R (.ok (.ret (match f with | .ret v=>v|_=>.none))) s') htk F1 (fun f τ α' g h' tk' htk' hK F' LS ig=>by
   obtain⟨hdom,hK⟩:=hK
   have LE:Le c α s.heap τ.c α' h':=by
    refine⟨hdom,LS.agree,fun b o e n=>LS.kept b o (kp b o e) (fun f=>by rw[hno b f] at e;contradiction) n,fun k hk=>?_⟩
    rcases LS.grow k hk with q|q
    ·exact .inl q
    ·refine .inr ?_
     cases e:s.heap.get? (α' k) with
     |none=>rfl
     |some o=>have q':h₁.get? (α' k)=none:=q;rw[kp _ _ e] at q';contradiction
   have C':Cst hb [] τ.c α' h':=⟨F'.base,F'.cell,F'.fresh,F'.inj,fun k hk=>by cases hk⟩
   cases f with
   |next=>(subst ig);exact hR (.d .none) τ.c α' .none h' tk' hK C' LE .none
   |brk=>(subst ig);exact hR (.d .none) τ.c α' .none h' tk' hK C' LE .none
   |cont=>(subst ig);exact hR (.d .none) τ.c α' .none h' tk' hK C' LE .none
   |ret v=>obtain⟨g',rfl,ig⟩:=ig;exact hR v τ.c α' g' h' tk' hK C' LE ig)
  exact wpAny_mono this (fun _ _ x=>x) (fun _ _ x=>x.elim)
theorem xX {prog:Program}{w:World}{hb:Heap}{d:Nat}{a:Addr}{fd:FuncData}{body:List Stmt}{ps:List Str}(N:FnAt hb a fd body ps){spec:Spec}
  (h:∀(A:Around),Room d A→∀(L:Addr) (vs:List V) (c:aa) (K:V→aa→Prop),spec vs c K→EnvOk (callEnvC fd L a)→vs.length=ps.length∧
   OkS (model prog w) A hb (dom c) (callEnvC fd L a) ⟨ps.zip vs,c⟩ (execs body (callEnvC fd L a))
    (fun f τ=>(∀k∈dom c,k∈dom τ.c)∧K (match f with | .ret v=>v|_=>.d .none) τ.c)) :
  FnOk prog w hb (d+1) a spec:=fun A r vs ws c α s K R hs C iv sp hR=>qP N h A r vs ws c α s K R (.inl hs) C iv sp hR
theorem vX {prog:Program}{w:World}{hb:Heap}{d:Nat}{a:Addr}{fd:FuncData}{body:List Stmt}{n:Str}{r:List Str}(N:FnAt hb a fd body (n::r))(hl:fd.scope.names.lookup n=some .local){spec:Spec}
  (h:∀(A:Around),Room d A→∀(L:Addr) (vs:List V) (c:aa) (K:V→aa→Prop),spec vs c K→EnvOk (callEnvC fd L a)→vs.length=(n::r).length∧
   OkS (model prog w) A hb (dom c) (callEnvC fd L a) ⟨(n::r).zip vs,c⟩ (execs body (callEnvC fd L a))
    (fun f τ=>(∀k∈dom c,k∈dom τ.c)∧K (match f with | .ret v=>v|_=>.d .none) τ.c)) :
  mR prog w hb (d+1) a spec:=fun A r' vs ws c α s K R C iv sp hR=>qP N h A r' vs ws c α s K R (.inr ⟨n,r,rfl,hl⟩) C iv sp hR
theorem bp {α:Type}{M:Model}{A:Around}{t:Sem α}{Q:α→Shared→Prop}{E:Value→Shared→Prop}{s:Shared}(h:wpAny M A t Q no s):wpAny M A t Q E s:=
 wpAny_mono h (fun _ _ x=>x) (fun _ _ x=>x.elim)
def vOk (c':aa):V→Prop
 | .obj k=>k∈dom c'
 |_=>True
def vW (c c':aa)(v v':V):Prop:=(v'=v∧vOk c' v)∨∃k xs,v=.obj k∧ae c k=some (.list xs)∧v'=.d (.lst xs)∧k∉dom c'
def mr (l:Loc)(c c':aa):Loc→Prop
 | []=>True
 | (x,v')::r=>(∃v,look l x=some v∧vW c c' v v')∧mr l c c' r
def fsW (c c':aa):List (Str×V)→List (Str×V)→Prop
 | [],[]=>True
 | (x,v)::r,(x',v')::r'=>x'=x∧vW c c' v v'∧fsW c c' r r'
 |_,_=>False
def oW (c c':aa)(o o':O):Prop:=
 match o,o' with
 | .list xs,.list xs'=>xs'=xs
 | .ns fs,.ns fs'=>fsW c c' fs fs'
 | .inst C dk,.inst C' dk'=>C'=C∧dk'=dk∧dk∈dom c'
 | .bound id k,.bound id' k'=>id'=id∧k'=k∧k∈dom c'
 |_,_=>False
def bY (c c':aa):aa→Prop
 | []=>True
 | (k,o')::r=>(∃o,ae c k=some o∧oW c c' o o')∧bY c c' r
structure Weak (pr:List Nat)(σ τ:Sg):Prop where
 l:mr σ.l σ.c τ.c τ.l
 c:bY σ.c τ.c τ.c
 pr:∀k∈pr,k∈dom τ.c
section
variable {hb h:Heap}{pr:List Nat}{env:Env}{α:Al}
theorem cA {c c':aa}:∀{r:aa},bY c c' r→∀k∈dom r,k∈dom c
 | [],_,k,hk=>by cases hk
 | (j,o)::r,h,k,hk=>by
  rcases List.mem_cons.mp hk with e|hk
  ·obtain⟨⟨o,ho,_⟩,_⟩:=h;simp only[e];exact al ho
  ·exact cA h.2 k hk
theorem kN {c c':aa}:∀{r:aa},bY c c' r→∀k o',ae r k=some o'→∃o,ae c k=some o∧oW c c' o o'
 | [],_,k,o',e=>by contradiction
 | (j,u)::r,h,k,o',e=>by
  dsimp only[ae] at e
  by_cases q:j=k
  ·rw[if_pos q] at e;(injection e with e;subst e);rw[←q];exact h.1
  ·rw[if_neg q] at e;exact kN h.2 k o' e
theorem lD {l:Loc}{c c':aa}:∀{r:Loc},mr l c c' r→∀x v',look r x=some v'→∃v,look l x=some v∧vW c c' v v'
 | [],_,x,v',e=>by contradiction
 | (y,u)::r,h,x,v',e=>by
  dsimp only[look] at e
  by_cases q:y=x
  ·rw[if_pos q] at e;(injection e with e;subst e);rw[←q];exact h.1
  ·rw[if_neg q] at e;exact lD h.2 x v' e
theorem kA {c c':aa}:∀{fs fs':List (Str×V)},fsW c c' fs fs'→fs'.length=fs.length∧∀x,match look fs' x with
  |some v'=>∃v,look fs x=some v∧vW c c' v v'
  |none=>look fs x=none
 | [],[],_=>⟨rfl,fun x=>rfl⟩
 | (y,v)::r,(y',v')::r',h=>by
  obtain⟨e,hv,hr⟩:=h
  subst e
  obtain⟨h1,h2⟩:=kA hr
  refine⟨by simp[h1],fun x=>?_⟩
  dsimp only[look]
  by_cases q:y'=x
  ·rw[if_pos q,if_pos q];exact⟨v,rfl,hv⟩
  ·rw[if_neg q,if_neg q];exact h2 x
 | [],_::_,h=>h.elim
 |_::_,[],h=>h.elim
theorem jP {c c':aa}(hd:∀k∈dom c',k∈dom c){b:Addr}(o:aE c' α b):aE c α b:=by obtain⟨k,hk,e⟩:=o;exact⟨k,hd k hk,e⟩
theorem nH (C:Cst hb pr c α h){c':aa}(hd:∀k∈dom c',k∈dom c){v v':V}{g:Value}(w:vW c c' v v')(i:IsV c α h v g):IsV c' α h v' g:=by
 rcases w with ⟨rfl,ok⟩|⟨k,xs,rfl,hk,rfl,hn⟩
 ·cases v' with
  |d x=>exact IsD.step (fun _ _ _ e _=>e) (fun b o=>.inl (jP hd o)) i
  |obj k=>exact⟨i.1,ok⟩
  |val u=>exact i
  |rng p q=>obtain⟨r,t,u,v,e,g,n⟩:=i;exact⟨r,t,u,v,e,g,fun o=>n (jP hd o)⟩
  |bi b=>exact i
  |mt e=>obtain⟨r,e,m⟩:=i;exact⟨r,e,m.step (fun _ _ _ e _=>e) (fun b o=>.inl (jP hd o))⟩
 ·obtain⟨ws,ep,g',r⟩:=C.cell k _ hk
  simp only[i.1]
  refine IsD.lst g' ?_ (r.step (fun _ _ _ e _=>e) (fun b o=>.inl (jP hd o)))
  rintro⟨j,hj,e⟩
  exact hn (C.inj j (hd j hj) k (al hk) e▸hj)
theorem Weak.fst {σ τ:Sg}(W:Weak pr σ τ)(F:Fst hb pr env σ.l σ.c α h):Fst hb pr env τ.l τ.c α h:=by
 have hd:=cA W.c
 refine⟨⟨F.base,fun k o' e=>?_,fun k hk=>F.fresh k (hd k hk),fun k hk j hj=>F.inj k (hd k hk) j (hd j hj),W.pr⟩,F.ns,F.cel,fun x v' e=>?_,fun b f=>⟨(F.fr b f).1,fun o=>(F.fr b f).2 (jP hd o)⟩⟩
 ·obtain⟨o,ho,w⟩:=kN W.c k o' e
  have i:=F.cell k o ho
  cases o with
  |list xs=>cases o'<;>first|exact w.elim | (have w:_=xs:=w;subst w;obtain⟨ws,ep,g,r⟩:=i;exact⟨ws,ep,g,r.step (fun _ _ _ e _=>e) (fun b o=>.inl (jP hd o))⟩)
  |ns fs=>
   cases o' with
   |ns fs'=>
    refine ay fun G9 back9=>?_;obtain⟨q,es,ep,g,hd',sk,sz,f⟩:=i;refine back9 ?_
    obtain⟨h1,h2⟩:=kA (show fsW σ.c τ.c fs fs' from w)
    refine⟨q,es,ep,g,hd',sk,by simp only[h1];exact sz,fun x=>?_⟩
    have a:=f x
    have b:=h2 x
    cases hl:look fs' x with
    |none=>simp only[hl] at b;rw[b] at a;exact a
    |some v'=>
     simp only[hl] at b
     obtain⟨v,hv,hw⟩:=b
     simp only[hv] at a
     obtain⟨u,hu,iu⟩:=a
     exact⟨u,hu,nH F.toCst hd hw iu⟩
   |_=>exact w.elim
  |inst C dk=>cases o'<;>first|exact w.elim | (obtain⟨rfl,rfl,w⟩:=(show _=C∧_=dk∧dk∈dom τ.c from w);exact⟨i.1,w⟩)
  |bound id k=>cases o'<;>first|exact w.elim | (obtain⟨rfl,rfl,w⟩:=(show _=id∧_=k∧k∈dom τ.c from w);exact⟨i.1,w⟩)
 ·obtain⟨v,hv,w⟩:=lD W.l x v' e
  obtain⟨g,H,i⟩:=F.loc x v hv
  exact⟨g,H,nH F.toCst hd w i⟩
theorem Weak.leS {σ τ:Sg}(W:Weak pr σ τ){c₀:aa}{α₀:Al}{h₀:Heap}(L:LeS pr env c₀ α₀ h₀ σ.c α h):LeS pr env c₀ α₀ h₀ τ.c α h:=
 ⟨L.agree,L.kept,fun k hk=>L.grow k (cA W.c k hk)⟩
end
section
variable {prog:Program}{w:World}{A:Around}{hb:Heap}{pr:List Nat}{env:Env}
theorem LeS.isD {l:Loc}{c c':aa}{α α':Al}{h h':Heap}(F:Fst hb pr env l c α h)(L:LeS pr env c α h c' α' h'){d:D}{g:Value}(i:IsD h (aE c α) d g):IsD h' (aE c' α') d g:=by
 refine i.step (fun b o hz e n=>L.kept b o e (fun f=>aW F f o hz e) n) (fun b ⟨k,hk,e⟩=>e▸L.grow k hk)
theorem sn {σ:Sg}{test:Expr}{body orelse:List Stmt}{pos:Pos}{K:F→Sg→Prop}(I:Nat→Sg→Prop)(k:Nat)(h0:I k σ)
  (turn:∀k τ,I k τ→OkE (model prog w) A hb pr env (fun _ _ _ b g=>g=b) τ.l τ.c (isTrue test env (eval test env)) (fun b c'=>
   (b=true→OkS (model prog w) A hb pr env ⟨τ.l,c'⟩ (execs body env) (fun f υ=>match f with
    | .next | .cont=>∃k' υ',k'<k∧Weak pr υ υ'∧I k' υ'
    | .brk=>K .next υ
    | .ret v=>K (.ret v) υ))∧
   (b=false→OkS (model prog w) A hb pr env ⟨τ.l,c'⟩ (execs orelse env) K))) :
  OkS (model prog w) A hb pr env σ (exec (.While test body orelse pos) env) K:=by
 intro α s Q hs F0 hq
 refine wpAny_While (codeAny_whileLoop (fun k s'=>∃τ α' h' tk,s'={s with heap:=h',toks:=tk}∧1≤tk∧I k τ∧Fst hb pr env τ.l τ.c α' h'∧LeS pr env σ.c α s.heap τ.c α' h') ?_ k ⟨σ,α,s.heap,s.toks,rfl,hs,h0,F0,.refl ..⟩)
 rintro k s' ⟨τ,α',h',tk,rfl,htk,hI,F,L⟩
 refine bp (turn k τ hI α' _ _ htk F fun b c1 α1 g h1 tk1 htk1 hK F1 L1 e=>?_)
 subst e
 have L01:=L.trans (L1.leS F.toCst) (fun b f=>(F1.fr b f).2)
 cases g with
 |true=>
  simp only[if_pos rfl]
  refine bp (hK.1 rfl α1 _ _ htk1 F1 fun f υ α2 g2 h2 tk2 htk2 hK2 F2 L2 ig=>?_)
  have L02:=L01.trans L2 (fun b f=>(F2.fr b f).2)
  cases f with
  |next=>(subst ig);obtain⟨k',υ',hk',W,hI'⟩:=hK2;exact⟨k',hk',υ',α2,h2,tk2,rfl,htk2,hI',W.fst F2,W.leS L02⟩
  |cont=>(subst ig);obtain⟨k',υ',hk',W,hI'⟩:=hK2;exact⟨k',hk',υ',α2,h2,tk2,rfl,htk2,hI',W.fst F2,W.leS L02⟩
  |brk=>(subst ig);exact hq .next υ α2 .next h2 tk2 htk2 hK2 F2 L02 rfl
  |ret v=>obtain⟨u,rfl,iu⟩:=ig;exact hq (.ret v) υ α2 (.ret u) h2 tk2 htk2 hK2 F2 L02 ⟨u,rfl,iu⟩
 |false=>
  rw[if_neg (by decide)]
  refine bp (hK.2 rfl α1 _ _ htk1 F1 fun f υ α2 g2 h2 tk2 htk2 hK2 F2 L2 ig=>?_)
  exact hq f υ α2 g2 h2 tk2 htk2 hK2 F2 (L01.trans L2 (fun b f=>(F2.fr b f).2)) ig
noncomputable def bR (a b:Int):List D:=(List.range (b-a).toNat).map fun i=>D.int (a+(i:Nat))
noncomputable def cx:V→Option (List D)
 | .d (.lst xs)=>some xs
 | .d (.tup xs)=>some xs
 | .rng a b=>some (bR a b)
 |_=>none
def lT (prog:Program)(w:World)(s:Shared)(c:aa)(α:Al)(xs:List D)(I:Addr)(h1:Heap):Prop:=
 ∃fp P St,(∀A':Around,A'.handled=none→Walks prog w A' I fp [I] xs.length P St)∧St 0 h1∧(∀i h,St i h→(∃o,h.get? I=some o)∧∀o,dw o=true→h.get? I≠some o)∧
  (∀b∈fp,b=I∨∃o,dw o=true∧s.heap.get? b=some o∧¬aE c α b)∧(∀i u,P i u→∀d,xs[i]?=some d→IsD s.heap (aE c α) d u)
def fo:V→Prop
 | .rng a b=>-1048576≤a∧a≤1048576∧-1048576≤b∧b≤1048576
 |_=>True
theorem rO {I a:Addr}{Y:Addr→Prop}(ha:Y a):∀b∈[I,a],b=I∨Y b:=fun b hb=>(List.mem_cons.mp hb).imp id fun q=>by rw[List.mem_singleton.mp q];exact ha
theorem pX {h:Heap}{own:Addr→Prop}{xs:List D}{ws:List Value}(r:IsDs h own xs ws){i:Nat}{u:Value}(hP:ws.toArray[i]?=some u)(d:D)(hd:xs[i]?=some d):IsD h own d u:=by
 obtain⟨w,hw,iw⟩:=r.get i d hd
 have:some w=some u:=by rw[←hw,←hP];simp
 exact Option.some.inj this▸iw
theorem qM {h:Heap}{I:Addr}{o:Obj}{T:String}(hT:(Value.type T==.type "range" || Value.type T==.type "re.Match")=false) (ho:h.get? I=some o) (hc:o.cls=.type T) {fs:Array Value} (hd:o.data=.fields fs):(∃o,h.get? I=some o)∧∀o,dw o=true→h.get? I≠some o:=by
 refine⟨⟨o,ho⟩,fun o' hz e=>?_⟩
 obtain rfl:=Option.some.inj (ho.symm.trans e)
 unfold dw at hz
 rw[hd] at hz
 have hz:(o.cls==.type "range" || o.cls==.type "re.Match")=true:=hz
 rw[hc,hT] at hz;contradiction
section
variable {c:aa}{α:Al}{s:Shared}{Q:Value→Shared→Prop}
theorem qW {a:Addr}{ws:List Value}{ep:Nat}{xs:List D}(g:s.heap.get? a=some (bc "list" ws ep)) (n:¬aE c α a) (r:IsDs s.heap (aE c α) xs ws) (hq:∀o,lT prog w s c α xs s.heap.objs.size (s.heap.push o)→Q (.ref s.heap.objs.size) {s with heap:=s.heap.push o}):wpAny (model prog w) A (pyIter (.ref a)) Q no s:=by
 have hl:s.heap.IsList a ws.toArray:=⟨_,g,rfl,_,rfl⟩
 have hsz:ws.toArray.size=xs.length:=by rw[List.size_toArray,←r.length]
 exact wpAny_pyIter_list hl (hq _ ⟨_,_,_,fun A' hh=>hsz▸Walks.list hh s.heap.objs.size a (Nat.ne_of_lt (Heap.lt_size g)) ws.toArray,⟨⟨_,Heap.get?_push_size _ rfl,rfl,rfl⟩,hl.push _⟩,
  fun i h ⟨⟨o,ho,hc,hd⟩,_⟩=>qM (by decide) ho hc hd,rO ⟨_,rfl,g,n⟩,fun i u hP d hd=>pX r hP d hd⟩)
theorem rD {a:Addr}{ws:List Value}{ep:Nat}{xs:List D}(g:s.heap.get? a=some (bc "tuple" ws ep)) (n:¬aE c α a) (r:IsDs s.heap (aE c α) xs ws) (hq:∀o,lT prog w s c α xs s.heap.objs.size (s.heap.push o)→Q (.ref s.heap.objs.size) {s with heap:=s.heap.push o}):wpAny (model prog w) A (pyIter (.ref a)) Q no s:=by
 have hl:s.heap.IsTuple a ws.toArray:=⟨_,g,rfl,_,rfl⟩
 have hsz:ws.toArray.size=xs.length:=by rw[List.size_toArray,←r.length]
 exact wpAny_pyIter_tuple hl (hq _ ⟨_,_,_,fun A' hh=>hsz▸Walks.tuple hh s.heap.objs.size a (Nat.ne_of_lt (Heap.lt_size g)) ws.toArray,⟨⟨_,Heap.get?_push_size _ rfl,rfl,rfl⟩,⟨_,Heap.get?_push_of_some _ g,rfl,_,rfl⟩⟩,
  fun i h ⟨⟨o,ho,hc,hd⟩,_⟩=>qM (by decide) ho hc hd,rO ⟨_,rfl,g,n⟩,fun i u hP d hd=>pX r hP d hd⟩)
end
theorem mY {c:aa}{α:Al}{s:Shared}(C:Cst hb pr c α s.heap){v:V}{g:Value}{xs:List D}(e:cx v=some xs)(sm:fo v)(i:IsV c α s.heap v g){Q:Value→Shared→Prop}
  (hq:∀o,lT prog w s c α xs s.heap.objs.size (s.heap.push o)→Q (.ref s.heap.objs.size) {s with heap:=s.heap.push o}):wpAny (model prog w) A (pyIter g) Q no s:=by
 cases v with
 |d x=>
  have i:=IsD.inv i
  cases x with
  |lst ys=>obtain rfl:=Option.some.inj e;obtain⟨ws,a,ep,rfl,g,n,r⟩:=i;exact qW g n r hq
  |tup ys=>obtain rfl:=Option.some.inj e;obtain⟨ws,a,ep,rfl,g,n,r⟩:=i;exact rD g n r hq
  |_=>contradiction
 |rng a b=>
  (injection e with e;subst e)
  obtain⟨r,t,u,v,rfl,g,n⟩:=i
  have hlen:(bR a b).length=(b-a).toNat:=by simp[bR]
  have e1:Builtin.Range.rangeSize a b 1=(((bR a b).length:Nat):Int):=by rw[hlen,rangeSize_one];split<;>omega
  have sm:-1048576≤a∧a≤1048576∧-1048576≤b∧b≤1048576:=sm
  refine wpAny_pyIter_range g (small_one (by omega) (by omega) (by omega) (by omega)) (hq _ ?_)
  refine⟨_,_,_,fun A' hh=>Walks.range hh s.heap.objs.size a 1 (bR a b).length,?_,?_,?_,?_⟩
  ·show (s.heap.push {cls:=.type "range_iterator",data:=.fields #[rawInt a,rawInt (Builtin.Range.rangeSize a b 1),rawInt 1]}).get? s.heap.objs.size=some _
   rw[e1,Heap.get?_push_size _ rfl]
   simp
  ·intro i h st
   have st':h.get? s.heap.objs.size=some _:=st
   exact qM (T:="range_iterator") (by decide) st' rfl rfl
  ·intro b hb'
   exact .inl (List.mem_singleton.mp hb')
  ·rintro i u ⟨t,rfl⟩ d hd
   have:d=.int (a+(i:Nat)):=by
    unfold bR at hd
    rw[List.getElem?_map] at hd
    obtain⟨j,hj,rfl⟩:=Option.map_eq_some_iff.mp hd
    obtain⟨hlt,rfl⟩:=List.getElem?_eq_some_iff.mp hj
    simp
   simp only[this,Int.mul_one];exact .int _ _
 |_=>contradiction
def ko (env:Env)(x:Str):Prop:=env.kindOf x=some .local∨(env.kindOf x=some .cell∧∃b,env.cells.lookup x=some b)
theorem wt (EO:EnvOk env)(hh:A.handled=none){l:Loc}{c:aa}{x:Str}{px pos:Pos}{iter:Expr}{body:List Stmt}{K:F→Sg→Prop}(hx:ko env x)
  (hfold:∀v,foldedSetIterable iter env v=pure v)
  (hi:OkE (model prog w) A hb pr env IsV l c (eval iter env) (fun v c1=>fo v∧∃xs,cx v=some xs∧∃I:Nat→Sg→Prop,I 0 ⟨l,c1⟩∧
   (∀i d τ,xs[i]?=some d→I i τ→OkS (model prog w) A hb pr env ⟨put τ.l x (.d d),τ.c⟩ (execs body env) (fun f υ=>match f with
    | .next | .cont=>∃υ',Weak pr υ υ'∧I (i+1) υ'
    | .brk=>K .next υ
    | .ret v=>K (.ret v) υ))∧∀τ,I xs.length τ→K .next τ)) :
  OkS (model prog w) A hb pr env ⟨l,c⟩ (exec (.For (.Name x px) iter body [] pos) env) K:=by
 intro α s Q hs F0 hq
 refine wpAny_For (hi α s _ hs F0 fun v c1 α1 g h1 tk1 htk1 hK F1 L1 iv=>?_) hfold
 refine ay fun G9 back9=>?_;obtain⟨sm,xs,hxs,I,hI0,turn,fin⟩:=hK;refine back9 ?_
 refine mY (s:={s with heap:=h1,toks:=tk1}) F1.toCst hxs sm iv (fun o pk=>?_)
 refine ay fun G9 back9=>?_;obtain⟨fp,P,St,W,st0,hns,hfp,hP⟩:=pk;refine back9 ?_
 obtain⟨F2,L2⟩:=F1.push o
 have hI1:h1.get? h1.objs.size=none:=by
  cases e:h1.get? h1.objs.size with
  |none=>rfl
  |some o'=>exact absurd (Heap.lt_size e) (Nat.lt_irrefl _)
 have LS1:=L1.leS (env:=env) F0.toCst
 have LS2:LeS pr env c1 α1 h1 c1 α1 (h1.push o):=L2.leS F1.toCst
 have nfI:¬FrA env h1.objs.size:=fun f=>by
  rcases f with f|⟨y,f⟩
  ·obtain⟨m,hm⟩:=F1.ns;exact absurd hm.lt (by rw[←f];exact Nat.lt_irrefl _)
  ·obtain⟨o,v,ho,_⟩:=F1.cel y _ f;rw[hI1] at ho;contradiction
 have nbI:hb.get? h1.objs.size=none:=by
  cases e:hb.get? h1.objs.size with
  |none=>rfl
  |some o'=>rw[F1.base _ _ e] at hI1;contradiction
 refine codeAny_forLoop (fun k s'=>∃(i:Nat) (τ:Sg) (α':Al) (h':Heap) (tk:Nat),s'={s with heap:=h',toks:=tk}∧1≤tk∧k=xs.length+1-i∧i≤xs.length∧I i τ∧Fst hb pr env τ.l τ.c α' h'∧
   LeS pr env c1 α1 h1 τ.c α' h'∧¬aE τ.c α' h1.objs.size∧St i h') ?_ (xs.length+1) ⟨0,⟨l,c1⟩,α1,h1.push o,tk1,rfl,htk1,rfl,Nat.zero_le _,hI0,F2,LS2,a9 F1.toCst,st0⟩
 rintro k s' ⟨i,τ,α',h',tk,rfl,htk,rfl,hle,hI,F,L,noI,st⟩
 obtain⟨⟨oI,hoI⟩,hnz⟩:=hns i h' st
 have L0:∀{c':aa} {α':Al} {h':Heap} {l':Loc},Fst hb pr env l' c' α' h'→LeS pr env c1 α1 h1 c' α' h'→LeS pr env c α s.heap c' α' h':=fun F' L'=>
  LS1.trans L' (fun b f=>(F'.fr b f).2)
 by_cases hlt:i<xs.length
 ·refine au htk (bp ((W A hh).item i _ _ no hlt st fun v h2 tk2 hPv st2 hk2=>?_))
  intro htk2
  have ks:∀a o,a≠h1.objs.size→h'.get? a=some o→h2.get? a=some o:=fun a o n e=>hk2 a o (by simpa using n) e
  have F3:Fst hb pr env τ.l τ.c α' h2:=Fst.but hnz ks F noI nfI nbI
  have L3:LeS pr env c1 α1 h1 τ.c α' h2:=⟨L.agree,fun b o' e nf n=>ks b o' (fun q=>by rw[q,hI1] at e;contradiction) (L.kept b o' e nf n),L.grow⟩
  have hd:xs[i]?=some xs[i]:=List.getElem?_eq_getElem hlt
  have iv:IsV τ.c α' h2 (.d xs[i]) v:=L3.isD F1 (hP i v hPv _ hd)
  refine wpAny_assign_Name (au htk2 (bp (kF (s:={s with heap:=h2,toks:=tk2}) EO F3 hx iv fun h3 tk3 F4 L4=>?_)))
  intro htk3
  refine bp (turn i _ τ hd hI α' _ _ htk3 F4 fun f υ α5 g5 h5 tk5 htk5 hK5 F5 L5 ig=>?_)
  have L05:LeS pr env c1 α1 h1 υ.c α5 h5:=(L3.trans L4 (fun b f=>(F4.fr b f).2)).trans L5 (fun b f=>(F5.fr b f).2)
  obtain⟨⟨o2,ho2⟩,_⟩:=hns (i+1) h2 st2
  have hI4:∀q,h2.get? h1.objs.size=some q→h3.get? h1.objs.size=some q:=fun q e=>L4.kept _ _ e nfI noI
  have noI5:¬aE υ.c α5 h1.objs.size:=by
   rintro⟨j,hj,e⟩
   rcases L5.grow j hj with q|q
   ·simp only[e] at q;exact noI q
   ·rw[e] at q
    have q:h3.get? h1.objs.size=none:=q
    rw[hI4 _ ho2] at q;contradiction
  have st5:St (i+1) h5:=by
   refine (W A hh).frame _ h2 h5 st2 fun b hb' o' e=>?_
   have nf:¬FrA env b:=by
    rcases hfp b hb' with rfl|⟨o₁,hz,g,n⟩
    ·exact nfI
    ·exact fun f=>aW F1 f o₁ hz g
   have nn:¬aE τ.c α' b:=by
    rcases hfp b hb' with rfl|⟨o₁,hz,g,n⟩
    ·exact noI
    ·rintro⟨j,hj,e'⟩
     rcases L.grow j hj with q|q
     ·simp only[e'] at q;exact n q
     ·simp only[e',g] at q;contradiction
   exact L5.kept b o' (L4.kept b o' e nf nn) nf nn
  cases f with
  |next=>
   (subst ig);obtain⟨υ',W',hI'⟩:=hK5
   exact⟨_,by exact Om.o10 hlt,i+1,υ',α5,h5,tk5,rfl,htk5,rfl,hlt,hI',W'.fst F5,W'.leS L05,fun q=>noI5 (jP (cA W'.c) q),st5⟩
  |cont=>
   (subst ig);obtain⟨υ',W',hI'⟩:=hK5
   exact⟨_,by exact Om.o10 hlt,i+1,υ',α5,h5,tk5,rfl,htk5,rfl,hlt,hI',W'.fst F5,W'.leS L05,fun q=>noI5 (jP (cA W'.c) q),st5⟩
  |brk=>(subst ig);exact hq .next υ α5 .next h5 tk5 htk5 hK5 F5 (L0 F5 L05) rfl
  |ret v=>obtain⟨u,rfl,iu⟩:=ig;exact hq (.ret v) υ α5 (.ret u) h5 tk5 htk5 hK5 F5 (L0 F5 L05) ⟨u,rfl,iu⟩
 ·have hin:i=xs.length:=by exact Om.o9 hle hlt
  subst hin
  refine au htk (bp ((W A hh).done _ _ no st fun h2 tk2 hk2=>?_))
  intro htk2
  have ks:∀a o,a≠h1.objs.size→h'.get? a=some o→h2.get? a=some o:=fun a o n e=>hk2 a o (by simpa using n) e
  have F3:Fst hb pr env τ.l τ.c α' h2:=Fst.but hnz ks F noI nfI nbI
  have L3:LeS pr env c1 α1 h1 τ.c α' h2:=⟨L.agree,fun b o' e nf n=>ks b o' (fun q=>by simp only[q,hI1] at e;contradiction) (L.kept b o' e nf n),L.grow⟩
  exact wpAny_execs_nil (hq .next τ α' .next h2 tk2 htk2 (fin τ hI) F3 (L0 F3 L3) rfl)
end
theorem mv {env:Env}(names:List (Str×NameKind)):∀(acc:List (Str×Addr)),(∀y,(y,NameKind.free)∈names→∃b,env.cells.lookup y=some b)→(∀y b,acc.lookup y=some b→env.cells.lookup y=some b)→
  ∃cl,(forIn names acc (fun (x:Str×NameKind) r=>if (x.2==NameKind.free)=true then cellOf env x.1>>=fun a=>pure (ForInStep.yield ((x.1,a)::r)) else pure (ForInStep.yield r)):Sem (List (Str×Addr)))=pure cl∧
   (∀y b,cl.lookup y=some b→env.cells.lookup y=some b)∧(∀y,(y,NameKind.free)∈names∨(acc.lookup y).isSome=true→(cl.lookup y).isSome=true):=by
 induction names with
 |nil=>exact fun acc _ h=>⟨acc,rfl,h,fun y q=>q.elim (fun q=>(List.not_mem_nil q).elim) id⟩
 |cons p r ih=>
  obtain⟨n,k⟩:=p
  intro acc hf h
  rw[List.forIn_cons]
  by_cases hk:(k==NameKind.free)=true
  ·obtain rfl:=beq_iff_eq.mp hk
   obtain⟨b,hb⟩:=hf n (.head _)
   have e:cellOf env n=pure b:=by unfold cellOf;rw[hb]
   obtain⟨cl,h1,h2,h3⟩:=ih ((n,b)::acc) (fun y hy=>hf y (.tail _ hy)) (fun y b' q=>by
    rw[List.lookup_cons] at q
    cases hy:y==n with
    |true=>rw[hy] at q;rw[beq_iff_eq.mp hy,hb];exact q
    |false=>rw[hy] at q;exact h y b' q)
   refine⟨cl,?_,h2,fun y q=>h3 y ?_⟩
   ·simp only[e]
    exact h1
   ·rcases q with q|q
    ·rcases List.mem_cons.mp q with q|q
     ·injection q with q _;subst q;right;simp
     ·exact .inl q
    ·right
     rw[List.lookup_cons]
     cases hy:y==n with
     |true=>rfl
     |false=>exact q
  ·obtain⟨cl,h1,h2,h3⟩:=ih acc (fun y hy=>hf y (.tail _ hy)) h
   refine⟨cl,by dsimp only;rw[if_neg hk];exact h1,h2,fun y q=>h3 y (q.imp (fun q=>?_) id)⟩
   rcases List.mem_cons.mp q with q|q
   ·injection q with _ q;subst q;exact absurd rfl hk
   ·exact q
theorem mL {scope:Scope}{env:Env}(hf:∀y,(y,NameKind.free)∈scope.names→∃b,env.cells.lookup y=some b) :
  ∃cl,closureFor scope env=pure cl∧(∀y b,cl.lookup y=some b→env.cells.lookup y=some b)∧(∀y,(y,NameKind.free)∈scope.names→(cl.lookup y).isSome=true):=by
 obtain⟨cl,h1,h2,h3⟩:=mv scope.names [] hf (fun y b q=>by contradiction)
 refine⟨cl,?_,h2,fun y hy=>h3 y (.inl hy)⟩
 unfold closureFor
 refine Eq.trans ?_ (congrArg (fun (t:Sem (List (Str×Addr)))=>t>>=pure) h1)
 rfl
noncomputable def cb (scope:Scope)(l:Loc):Loc:=l.filter fun p=>scope.names.lookup p.1==some .free
theorem dH {β:Type}{q:Str×β→Bool}(hq:∀x u v,q (x,u)=q (x,v)):∀(l:List (Str×β)) (x:Str) (v:β),look (l.filter q) x=some v→look l x=some v∧q (x,v)=true
 | [],_,_,h=>by cases h
 | (y,u)::r,x,v,h=>by
  rw[List.filter_cons] at h
  by_cases hy:q (y,u)=true
  ·rw[if_pos hy] at h
   simp only[look] at h ⊢
   by_cases e:y=x
   ·rw[if_pos e] at h ⊢;cases h;exact⟨rfl,by rw[←e];exact hy⟩
   ·rw[if_neg e] at h ⊢;exact dH hq r x v h
  ·rw[if_neg hy] at h
   obtain⟨h1,h2⟩:=dH hq r x v h
   dsimp only[look]
   have:y≠x:=fun e=>hy (by rw[e,hq x u v];exact h2)
   rw[if_neg this];exact⟨h1,h2⟩
theorem eY {scope:Scope}{l:Loc}{x:Str}{v:V}(h:look (cb scope l) x=some v):look l x=some v∧scope.names.lookup x=some .free:=by
 obtain⟨h1,h2⟩:=dH (fun _ _ _=>rfl) l x v h
 exact⟨h1,beq_iff_eq.mp h2⟩
theorem ck {env:Env}(hk:env.scope.kind=.function):∀{names:List (Str×NameKind)} {x:Str},names.lookup x=some .free→env.kindOf x=some .cell→
  (names.map fun (n,k)=>if (k==NameKind.free&&env.scope.kind==.function&&env.kindOf n==some .cell) then (n,NameKind.cell) else (n,k)).lookup x=some .cell
 | [],_,h,_=>by simp at h
 | (n,k)::r,x,h,he=>by
  have ih:=@ck env hk r x
  show List.lookup x ((if (k==NameKind.free&&env.scope.kind==.function&&env.kindOf n==some .cell)=true then (n,NameKind.cell) else (n,k))::_)=_
  cases hx:x==n with
  |true=>
   simp only[List.lookup_cons,hx] at h
   (injection h with h;subst h)
   have:x=n:=beq_iff_eq.mp hx
   subst this
   rw[if_pos (by rw[hk,he];rfl)]
   simp
  |false=>
   simp only[List.lookup_cons,hx] at h
   by_cases hc:(k==NameKind.free&&env.scope.kind==.function&&env.kindOf n==some .cell)=true
   ·rw[if_pos hc];simp only[List.lookup_cons,hx];exact ih h he
   ·rw[if_neg hc];simp only[List.lookup_cons,hx];exact ih h he
structure ScopeOk (scope:Scope)(x:Str)(env:Env):Prop where
 cell:∀y∈scope.names,y.2≠.cell
 kind:scope.kind=.function
 names:∀y∈scope.names,y.2=.local→scope.names.lookup y.1=some .local
 x:scope.names.lookup x=some .local
 free:∀y,(y,NameKind.free)∈scope.names→env.kindOf y=some .cell∧∃b,env.cells.lookup y=some b
theorem d6 {c:aa}{k:Nat}{o:O}(hk:k∉dom c)(o':O):cset (c++[(k,o)]) k o'=c++[(k,o')]:=by
 induction c with
 |nil=>show (if k=k then _ else _)=_;rw[if_pos rfl];rfl
 |cons p r ih=>
  obtain⟨j,u⟩:=p
  have h1:j≠k:=fun e=>hk (e▸.head _)
  have h2:k∉dom r:=fun e=>hk (.tail _ e)
  show (if j=k then _ else (j,u)::cset (r++[(k,o)]) k _)=_
  rw[if_neg h1,ih h2];rfl
section
variable {prog:Program}{w:World}{A:Around}{hb:Heap}{pr:List Nat}{env:Env}
abbrev okB:aa→Al→Heap→Bool→Bool→Prop:=fun _ _ _ b g=>g=b
theorem pZ (EO:EnvOk env){scope:Scope}{x:Str}(SO:ScopeOk scope x env){cl:List (Str×Addr)}{C:Addr}(h2:∀y b,cl.lookup y=some b→env.cells.lookup y=some b)(hC:∀y b,env.cells.lookup y=some b→b≠C):EnvOk (compEnvC scope cl C env):=
 ⟨SO.kind,fun y b e=>hC y b (h2 y b e),fun y z b e1 e2=>EO.one y z b (h2 y b e1) (h2 z b e2),by show (scope.kind==.module&&_)=false;rw[SO.kind];rfl⟩
def mW (prog:Program)(w:World)(A:Around)(hb:Heap)(pr:List Nat)(env:Env)(l:Loc)(x:Str)(elt:Expr)(ifs:List Expr)(scope:Scope)(kk:Nat)(v:V)(c1:aa)(K:V→aa→Prop):Prop:=
 fo v∧∃xs,cx v=some xs∧xs.length≤big∧kk∉dom c1∧∃I:Nat→List D→aa→Prop,I 0 [] c1∧
  (∀i d acc c',xs[i]?=some d→I i acc c'→kk∉dom c'∧∀cl C,EnvOk (compEnvC scope cl C env)→
   OkE (model prog w) A hb pr (compEnvC scope cl C env) okB (put (cb scope l) x (.d d)) (c'++[(kk,.list acc)])
    (forIn ifs true fun c r=>if r=true then do let ok ←isTrue c (compEnvC scope cl C env) (eval c (compEnvC scope cl C env));pure (ForInStep.yield ok) else pure (ForInStep.yield r)) (fun b c2=>
     (b=true→OkE (model prog w) A hb pr (compEnvC scope cl C env) IsV (put (cb scope l) x (.d d)) c2 (eval elt (compEnvC scope cl C env)) (fun v c3=>∃d' c4,v=.d d'∧c3=c4++[(kk,.list acc)]∧kk∉dom c4∧I (i+1) (acc++[d']) c4))∧
     (b=false→∃c4,c2=c4++[(kk,.list acc)]∧kk∉dom c4∧I (i+1) acc c4)))∧
  (∀acc c',I xs.length acc c'→kk∉dom c'∧bY (c'++[(kk,.list acc)]) c' c'∧K (.d (.lst acc)) c')
theorem j9 (h:Heap):h.get? h.objs.size=none:=by
 cases e:h.get? h.objs.size with
 |none=>rfl
 |some o'=>exact absurd (Heap.lt_size e) (Nat.lt_irrefl _)
theorem n5 {h h':Heap}{b:Addr}(k:∀o,h.get? b=some o→h'.get? b=some o)(q:h'.get? b=none):h.get? b=none:=by
 cases e:h.get? b with
 |none=>rfl
 |some o=>exact (nos q (k o e)).elim
theorem eH {l:Loc}{c:aa}{α:Al}{h:Heap}(F:Fst hb pr env l c α h){b:Addr}(q:h.get? b=none):¬FrA env b∧¬aE c α b:=by
 refine⟨fun f=>?_,fun ⟨j,hj,e⟩=>?_⟩
 ·rcases f with f|⟨y,f⟩
  ·obtain⟨m,o,es,ep,e,_⟩:=F.ns;rw[←f] at e;exact nos q e
  ·obtain⟨o,v,ho,_⟩:=F.cel y _ f;exact nos q ho
 ·obtain⟨o,ho⟩:=F.toCst.ex hj;rw[e] at ho;exact nos q ho
structure CQ (hb:Heap)(pr:List Nat)(env:Env)(l:Loc)(c1:aa)(α1:Al)(h1:Heap)(kk:Nat)(C J:Addr)(c':aa)(acc:List D)(α':Al)(h':Heap):Prop where
 F:Fst hb pr env l (c'++[(kk,.list acc)]) α' h'
 L:Le c1 α1 h1 (c'++[(kk,.list acc)]) α' h'
 nC:¬aE (c'++[(kk,.list acc)]) α' C
 ns:∃m,h'.Ns C m
 at_:α' kk=J
 no:kk∉dom c'
structure CP (hb:Heap)(pr:List Nat)(env:Env)(l:Loc)(c1:aa)(α1:Al)(h1:Heap)(kk:Nat)(C J I:Addr)(St:Nat→Heap→Prop)(i:Nat)(c':aa)(acc:List D)(α':Al)(h':Heap):Prop where
 q:CQ hb pr env l c1 α1 h1 kk C J c' acc α' h'
 nI:¬aE (c'++[(kk,.list acc)]) α' I
 st:St i h'
structure CF (prog:Program)(w:World)(A:Around)(hb:Heap)(env:Env)(c1:aa)(α1:Al)(h1:Heap)(C I:Addr)(fp:List Addr)(n:Nat)(P:Nat→Value→Prop)(St:Nat→Heap→Prop):Prop where
 W:Walks prog w A I fp [I] n P St
 ex:∀i h,St i h→(∃o,h.get? I=some o)∧∀o,dw o=true→h.get? I≠some o
 fp_:∀b∈fp,b=I∨∃o,dw o=true∧h1.get? b=some o∧¬aE c1 α1 b
 C1:h1.get? C=none
 I1:h1.get? I=none
 fC:¬FrA env C
 fI:¬FrA env I
 bC:hb.get? C=none
 bI:hb.get? I=none
 IC:I≠C
section
variable {l:Loc}{c1:aa}{α1:Al}{h1:Heap}{kk:Nat}{C J I:Addr}{fp:List Addr}{nn i j:Nat}{P:Nat→Value→Prop}{St:Nat→Heap→Prop}{c':aa}{acc:List D}{α':Al}{h' h2:Heap}
theorem gE (c':aa)(kk:Nat)(o:O):kk∈dom (c'++[(kk,o)]):=by rw[af];simp
theorem CQ.kept (L:Le c1 α1 h1 (c'++[(kk,.list acc)]) α' h'){b0:Addr}(n0:h1.get? b0=none)(ks:∀a o,a≠b0→h'.get? a=some o→h2.get? a=some o):Le c1 α1 h1 (c'++[(kk,.list acc)]) α' h2:=
 ⟨L.dom,L.agree,fun b o e n=>ks b o (fun q=>nos ((congrArg h1.get? q).trans n0) e) (L.kept b o e n),L.grow⟩
section
variable (X:CF prog w A hb env c1 α1 h1 C I fp nn P St)(p:CP hb pr env l c1 α1 h1 kk C J I St i c' acc α' h')
include X p
theorem CP.butI (ks:∀a o,a≠I→h'.get? a=some o→h2.get? a=some o):CQ hb pr env l c1 α1 h1 kk C J c' acc α' h2:=
 ⟨Fst.but (X.ex i h' p.st).2 ks p.q.F p.nI X.fI X.bI,CQ.kept p.q.L X.I1 ks,p.q.nC,let ⟨m,o,es,ep,e,r⟩:=p.q.ns;⟨m,o,es,ep,ks C o (Ne.symm X.IC) e,r⟩,p.q.at_,p.q.no⟩
theorem CP.fpC {b:Addr}(hb':b∈fp):b≠C:=fun q=>by
 rcases X.fp_ b hb' with rfl|⟨o₁,hz,g,n⟩
 ·exact X.IC q
 ·exact nos ((congrArg h1.get? q).trans X.C1) g
theorem CP.butC (nz:∀o,dw o=true→h'.get? C≠some o)(hs:Heap.SameBut C h' h2)(ns:∃m,h2.Ns C m):CP hb pr env l c1 α1 h1 kk C J I St i c' acc α' h2:=
 ⟨⟨Fst.but nz (bB hs) p.q.F p.q.nC X.fC X.bC,CQ.kept p.q.L X.C1 (bB hs),p.q.nC,ns,p.q.at_,p.q.no⟩,p.nI,X.W.frame i h' h2 p.st fun b hb' o e=>bB hs b o (CP.fpC X p hb') e⟩
theorem CP.fpO {c2:aa}{acc2:List D}{α2:Al}(n:¬aE (c2++[(kk,.list acc2)]) α2 I)(L:Le c1 α1 h1 (c2++[(kk,.list acc2)]) α2 h2){b:Addr}(hb':b∈fp):¬aE (c2++[(kk,.list acc2)]) α2 b:=by
 rcases X.fp_ b hb' with rfl|⟨o₁,hz,g,n'⟩
 ·exact n
 ·exact L.not_own g n'
theorem CP.le {c2:aa}{acc2:List D}{α2:Al}(no:kk∉dom c2)(L6:Le (c'++[(kk,.list acc)]) α' h' (c2++[(kk,.list acc2)]) α2 h2)(C6:Cst hb pr (c2++[(kk,.list acc2)]) α2 h2):CP hb pr env l c1 α1 h1 kk C J I St i c2 acc2 α2 h2:=by
 obtain⟨m,o,es,ep,e,r⟩:=p.q.ns
 obtain⟨⟨oI,eI⟩,_⟩:=X.ex i h' p.st
 exact⟨⟨p.q.F.le L6 C6,p.q.L.trans L6,L6.not_own e p.q.nC,⟨m,o,es,ep,L6.kept _ _ e p.q.nC,r⟩,(L6.agree kk (gE ..)).trans p.q.at_,no⟩,L6.not_own eI p.nI,
  X.W.frame i h' h2 p.st fun b hb' o e=>L6.kept b o e (CP.fpO X p p.nI p.q.L hb')⟩
theorem CP.push {ws:List Value}{g7:Value}{d':D}(rk:IsDs h' (aE (c'++[(kk,.list acc)]) α') acc ws)(i7:IsD h' (aE (c'++[(kk,.list acc)]) α') d' g7)(hl8:∃ep,h2.get? J=some (bc "list" (ws++[g7]) ep)) (hs8:Heap.SameBut J h' h2):CP hb pr env l c1 α1 h1 kk C J I St i c' (acc++[d']) α' h2:=by
 obtain⟨ep8,g8⟩:=hl8
 have ecs:=d6 (o:=.list acc) p.q.no (.list (acc++[d']))
 obtain⟨F8,L8⟩:=p.q.F.set (gE c' kk (.list acc)) (o:=.list (acc++[d'])) (by rw[p.q.at_];exact hs8) (fun L=>⟨ws++[g7],ep8,by rw[p.q.at_];exact g8,IsDs.append (.cons (L.isD i7) .nil) (L.isDs rk)⟩)
 rw[ecs] at F8 L8
 exact CP.le X p p.q.no L8 F8.toCst
end
theorem qj (EO:EnvOk env){scope:Scope}{x:Str}(SO:ScopeOk scope x env){cl:List (Str×Addr)}(h2:∀y b,cl.lookup y=some b→env.cells.lookup y=some b)(h3:∀y,(y,NameKind.free)∈scope.names→(cl.lookup y).isSome=true)(bC:hb.get? C=none)
  {m:Str→Option Value} (F:Fst hb pr env l c' α' h') (hm:h'.Ns C m) (hn:¬aE c' α' C):Fst hb pr (compEnvC scope cl C env) (cb scope l) c' α' h':=by
 refine⟨F.toCst,⟨m,hm⟩,fun y b e=>F.cel y b (h2 y b e),fun y v e=>?_,fun b f=>?_⟩
 ·obtain⟨e1,e2⟩:=eY e
  obtain⟨g,H,i⟩:=F.loc y v e1
  obtain⟨k1,b,hbb⟩:=SO.free y (mem_of_lookup e2)
  have hk:(compEnvC scope cl C env).kindOf y=some .cell:=ck EO.kind e2 k1
  have hlk:cl.lookup y=some b:=by
   obtain⟨b',hb'⟩:=Option.isSome_iff_exists.mp (h3 y (mem_of_lookup e2))
   rw[hb',←hbb];exact (h2 y b' hb').symm
  cases H with
  |loc m' a _ _=>rw[k1] at a;contradiction
  |cel b' o' a q1 q2 q3=>obtain rfl:=Option.some.inj (hbb.symm.trans q1);exact⟨g,.cel b o' hk hlk q2 q3,i⟩
  |free b' o' a _ _ _=>rw[k1] at a;contradiction
 ·rcases f with f|⟨y,f⟩
  ·obtain rfl:b=C:=f;exact⟨bC,hn⟩
  ·exact F.fr b (.inr ⟨y,h2 y b f⟩)
theorem ph (X:CF prog w A hb env c1 α1 h1 C I fp nn P St){xs:List D}(hn:nn=xs.length){scope:Scope}{cl:List (Str×Addr)}(EC:EnvOk (compEnvC scope cl C env))(FI:∀{c':aa} {α':Al} {h':Heap} {m:Str→Option Value},Fst hb pr env l c' α' h'→h'.Ns C m→¬aE c' α' C→Fst hb pr (compEnvC scope cl C env) (cb scope l) c' α' h')
  {x:Str} {px pos:Pos} (SO:ScopeOk scope x env) (hlen:xs.length≤big) (hP:∀i u,P i u→∀d,xs[i]?=some d→IsD h1 (aE c1 α1) d u) {elt iter:Expr} {ifs:List Expr} {Y:Nat→List D→aa→Prop}
  (turn:∀i d acc c',xs[i]?=some d→Y i acc c'→kk∉dom c'∧∀cl C,EnvOk (compEnvC scope cl C env)→
   OkE (model prog w) A hb pr (compEnvC scope cl C env) okB (put (cb scope l) x (.d d)) (c'++[(kk,.list acc)])
    (forIn ifs true fun c r=>if r=true then do let ok ←isTrue c (compEnvC scope cl C env) (eval c (compEnvC scope cl C env));pure (ForInStep.yield ok) else pure (ForInStep.yield r)) (fun b c2=>
     (b=true→OkE (model prog w) A hb pr (compEnvC scope cl C env) IsV (put (cb scope l) x (.d d)) c2 (eval elt (compEnvC scope cl C env)) (fun v c3=>∃d' c4,v=.d d'∧c3=c4++[(kk,.list acc)]∧kk∉dom c4∧Y (i+1) (acc++[d']) c4))∧
     (b=false→∃c4,c2=c4++[(kk,.list acc)]∧kk∉dom c4∧Y (i+1) acc c4)))
  {R:Result→Shared→Prop} {s:Shared} (fin:∀acc c' α' h' tk,1≤tk→Y xs.length acc c'→CQ hb pr env l c1 α1 h1 kk C J c' acc α' h'→R (.ok .next) {s with heap:=h',toks:=tk})
  {α3:Al} {h3:Heap} {tk3:Nat} (ht3:1≤tk3) (Y0:Y 0 [] c1) (p0:CP hb pr env l c1 α1 h1 kk C J I St 0 c1 [] α3 h3) :
  codeAny (model prog w) A (.compLoop (.ListComp elt [⟨.Name x px,iter,ifs,0⟩] scope pos) 0 (.ref I) (.ref J) (compEnvC scope cl C env)) R {s with heap:=h3,toks:=tk3}:=by
 subst hn
 refine codeAny_compLoop_tests (fun k s'=>∃(i:Nat) (acc:List D) (c':aa) (α':Al) (h':Heap) (tk:Nat),s'={s with heap:=h',toks:=tk}∧1≤tk∧k=xs.length+1-i∧i≤xs.length∧acc.length≤i∧Y i acc c'∧CP hb pr env l c1 α1 h1 kk C J I St i c' acc α' h') ?_ (xs.length+1)
  ⟨0,[],c1,α3,h3,tk3,rfl,ht3,rfl,Nat.zero_le _,Nat.le_refl _,Y0,p0⟩
 intro k s' h9
 refine ay fun G9 back9=>?_
 obtain⟨i,acc,c',α',h',tk,rfl,htk,rfl,hle,hacc,hI,p⟩:=h9
 refine back9 ?_
 by_cases hlt:i<xs.length
 ·refine au htk (bp (X.W.item i _ _ no hlt p.st fun v h2 tk2 hPv st2 hk2 htk2=>?_))
  have p2:CP hb pr env l c1 α1 h1 kk C J I St (i+1) c' acc α' h2:=⟨CP.butI X p fun a o n e=>hk2 a o (by simpa using n) e,p.nI,st2⟩
  have hd:xs[i]?=some xs[i]:=List.getElem?_eq_getElem hlt
  obtain⟨m,hm⟩:=p2.q.ns
  have FC:=FI p2.q.F hm p.q.nC
  refine wpAny_assign_Name (au htk2 (bp (dj (s:={s with heap:=h2,toks:=tk2}) EC FC (lookup_relabel_local SO.x) (v:=.d xs[i]) (p2.q.L.isD (hP i v hPv _ hd)) fun h5 tk5 F5 hs5 htk5=>?_)))
  have p5:=CP.butC X p2 (aW FC (.inl rfl)) hs5 F5.ns
  refine bp ((turn i _ acc c' hd hI).2 cl C EC α' _ _ htk5 F5 fun b c2 α2 gb h6 tk6 htk6 hK6 F6 L6 eb=>?_)
  subst eb
  cases gb with
  |false=>
   rw[if_neg (by decide)]
   obtain⟨c4,rfl,hk4,hI4⟩:=hK6.2 rfl
   exact⟨_,by exact Om.o10 hlt,i+1,acc,c4,α2,h6,tk6,rfl,htk6,rfl,hlt,by exact Om.o13 hacc,hI4,CP.le X p5 hk4 L6 F6.toCst⟩
  |true=>
   rw[if_pos rfl]
   refine bp (hK6.1 rfl α2 _ _ htk6 F6 fun v7 c3 α3' g7 h7 tk7 htk7 hK7 F7 L7 i7=>?_)
   refine ay fun G9 back9=>?_
   obtain⟨d',c4,rfl,rfl,hk4,hI4⟩:=hK7
   refine back9 ?_
   have p7:=CP.le X p5 hk4 (L6.trans L7) F7.toCst
   obtain⟨ws,ep,gk,rk⟩:=F7.toCst.cell kk (.list acc) (by rw[aH hk4,if_pos rfl])
   rw[p7.q.at_] at gk
   refine wpAny_list_append_plain (items:=ws.toArray) ⟨ep,gk⟩ (fun h8 hl8 hs8=>?_) (by rw[List.size_toArray,←rk.length];exact aJ (by exact Om.o12 hlen hacc hlt))
   exact⟨_,by exact Om.o10 hlt,i+1,acc++[d'],c4,α3',h8,tk7,rfl,htk7,rfl,hlt,by rw[List.length_append,List.length_singleton];exact Om.o11 hacc,hI4,CP.push X p7 rk i7 (let ⟨ep8,g8⟩:=hl8;⟨ep8,by rw[g8];simp⟩) hs8⟩
 ·have hin:i=xs.length:=by exact Om.o9 hle hlt
  subst hin
  exact au htk (bp (X.W.done _ _ no p.st fun h2 tk2 hk2 htk2=>fin acc c' α' h2 tk2 htk2 hI (CP.butI X p fun a o n e=>hk2 a o (by simpa using n) e)))
theorem CQ.fin (X:CQ hb pr env l c1 α1 h1 kk C J c' acc α' h')(F1:Fst hb pr env l c1 α1 h1)(hk:kk∉dom c1)(hcel:bY (c'++[(kk,.list acc)]) c' c') :
  Fst hb pr env l c' α' h'∧Le c1 α1 h1 c' α' h'∧IsV c' α' h' (.d (.lst acc)) (.ref J)∧¬aE c' α' C:=by
 have hsub:∀k∈dom c',k∈dom (c'++[(kk,.list acc)]):=cA hcel
 have dm:∀k∈dom c1,k∈dom c':=fun k hk1=>by
  have h1:=X.L.dom k hk1
  rw[af] at h1
  rcases List.mem_append.mp h1 with h1|h1
  ·exact h1
  ·obtain rfl:k=kk:=by simpa using h1
   exact absurd hk1 hk
 have W':Weak pr ⟨l,c'++[(kk,.list acc)]⟩ ⟨[],c'⟩:=⟨trivial,hcel,fun k hk=>dm k (F1.prs k hk)⟩
 have LL:Le c1 α1 h1 c' α' h':=⟨dm,X.L.agree,X.L.kept,fun k hk=>X.L.grow k (hsub k hk)⟩
 refine⟨F1.le LL (W'.fst X.F).toCst,LL,?_,fun q=>X.nC (jP hsub q)⟩
 have:=nH (c':=c') X.F.toCst hsub (v:=.obj kk) (v':=.d (.lst acc)) (g:=.ref (α' kk)) (.inr ⟨kk,acc,rfl,by rw[aH X.no,if_pos rfl],rfl,X.no⟩) ⟨rfl,gE ..⟩
 rw[X.at_] at this;exact this
end
theorem iJ (EO:EnvOk env)(hh:A.handled=none){l:Loc}{c:aa}{α:Al}{s:Shared}{x:Str}{px pos cpos:Pos}{elt iter:Expr}{ifs:List Expr}{scope:Scope}{kk:Nat}(SO:ScopeOk scope x env){use:Option (Value→Sem Unit)}
  {Q':Value→Shared→Prop} {K:V→aa→Prop} (hs:1≤s.toks) (F0:Fst hb pr env l c α s.heap) (hfold:∀v,foldedSetIterable iter env v=pure v)
  (hi:OkE (model prog w) A hb pr env IsV l c (eval iter env) (fun v c1=>mW prog w A hb pr env l x elt ifs scope kk v c1 K))
  (hend:∀v c' α' g h' tk C,1≤tk→K v c'→Fst hb pr env l c' α' h'→Le c α s.heap c' α' h'→IsV c' α' h' v g→¬FrA env C→¬aE c' α' C→hb.get? C=none→s.heap.get? C=none→(∃m,h'.Ns C m)→
   compPost (model prog w) A no use Q' g C (.ok .next) {s with heap:=h',toks:=tk}) :
  wpAny (model prog w) A (comprehension (.ListComp elt [⟨.Name x px,iter,ifs,0⟩] scope pos) scope env cpos (newList []) false (eval iter env) use) Q' no s:=by
 obtain⟨cl,hcl,hcl2,hcl3⟩:=mL (scope:=scope) (env:=env) (fun y hy=>(SO.free y hy).2)
 refine wpAny_comprehension_free rfl hfold hcl SO.kind SO.names (hi α s _ hs F0 fun v c1 α1 g h1 tk1 htk1 hK F1 L1 iv=>?_)
 refine ay fun G9 back9=>?_
 obtain⟨sm,xs,hxs,hlen,hkk,I,hI0,turn,fin⟩:=hK
 refine back9 ?_
 refine mY (s:={s with heap:=h1,toks:=tk1}) F1.toCst hxs sm iv (fun o pk=>?_)
 refine ay fun G9 back9=>?_
 obtain⟨fp,P,St,W,st0,hns,hfp,hP⟩:=pk
 refine back9 ?_
 obtain⟨F2,L2⟩:=F1.push o
 refine wpAny_newObj_type (wpAny_newFunctionEnv SO.cell (by intro y hy;simp at hy) (fun h3 hns3 hsb3=>?_) SO.kind)
 obtain⟨F3,L3⟩:=F2.new (k:=kk) hkk (bc "list" [] 0) (o:=.list []) (fun L=>⟨[],0,Heap.get?_push_size _ rfl,.nil⟩)
 have hD:upd α1 kk (h1.push o).objs.size kk=(h1.push o).objs.size:=if_pos rfl
 generalize upd α1 kk (h1.push o).objs.size=α3 at F3 L3 hD
 have C3:((h1.push o).push (bc "list" [] 0)).get? ((h1.push o).push (bc "list" [] 0)).objs.size=none:=j9 _
 have szI:h1.objs.size<((h1.push o).push (bc "list" [] 0)).objs.size:=by rw[Heap.size_push,Heap.size_push];exact Nat.lt_of_lt_of_le (Nat.lt_succ_self _) (Nat.le_succ _)
 have n1:∀b,((h1.push o).push (bc "list" [] 0)).get? b=none→h1.get? b=none:=fun b q=>n5 (fun o' e=>Heap.get?_push_of_some _ (Heap.get?_push_of_some _ e)) q
 have k3:∀b o',((h1.push o).push (bc "list" [] 0)).get? b=some o'→h3.get? b=some o':=fun b o' e=>by
  rw[hsb3.2 b (fun q=>nos (q▸C3) e)]
  exact Heap.get?_push_of_some _ e
 obtain⟨F4,L4⟩:=F3.keeps k3
 have I1:=j9 h1
 have nb:∀b,h1.get? b=none→hb.get? b=none:=fun b q=>n5 (F1.base b) q
 have noC:¬aE (c1++[(kk,.list [])]) α3 ((h1.push o).push (bc "list" [] 0)).objs.size:=(eH F3 C3).2
 have nfC:=(eH F3 C3).1
 have X:CF prog w A hb env c1 α1 h1 ((h1.push o).push (bc "list" [] 0)).objs.size h1.objs.size fp xs.length P St:=⟨W A hh,hns,hfp,n1 _ C3,I1,nfC,(eH F1 I1).1,nb _ (n1 _ C3),nb _ I1,Nat.ne_of_lt szI⟩
 have EC:=pZ EO SO hcl2 (C:=((h1.push o).push (bc "list" [] 0)).objs.size) fun y b e q=>nfC (.inr ⟨y,q▸e⟩)
 have p0:CP hb pr env l c1 α1 h1 kk ((h1.push o).push (bc "list" [] 0)).objs.size (h1.push o).objs.size h1.objs.size St 0 c1 [] α3 h3:=by
  refine⟨⟨F4,L2.trans (L3.trans L4),noC,⟨_,hns3⟩,hD,hkk⟩,?_,X.W.frame 0 _ _ st0 fun b _ o' e=>k3 b o' (Heap.get?_push_of_some _ e)⟩
  rintro⟨j,hj,e⟩
  rcases L3.grow j hj with q|q
  ·rw[e] at q;exact (eH F1 I1).2 q
  ·obtain⟨⟨o',e'⟩,_⟩:=hns 0 _ st0
   rw[e] at q;exact nos q e'
 have loop:=ph X rfl EC (qj EO SO hcl2 hcl3 X.bC) (px:=px) (pos:=pos) (iter:=iter) SO hlen hP turn (R:=compPost (model prog w) A no use Q' (.ref (h1.push o).objs.size) ((h1.push o).push (bc "list" [] 0)).objs.size) (s:=s) (fun acc c' α' h' tk ht hY q=>by
  obtain⟨_,hcel,hK⟩:=fin acc c' hY
  obtain⟨F',L',iv,nC⟩:=q.fin F1 hkk hcel
  exact hend _ c' α' _ h' tk _ ht hK F' (L1.trans L') iv nfC nC X.bC (by
   cases e:s.heap.get? ((h1.push o).push (bc "list" [] 0)).objs.size with
   |none=>rfl
   |some o'=>
    by_cases q:aE c α ((h1.push o).push (bc "list" [] 0)).objs.size
    ·obtain⟨j,hj,e'⟩:=q
     obtain⟨q',hq'⟩:=F1.toCst.ex (L1.dom j hj)
     rw[L1.agree j hj,e'] at hq';exact (nos X.C1 hq').elim
    ·exact (nos X.C1 (L1.kept _ _ e q)).elim) q.ns) (tk3:=tk1+([]:List (Str×Value)).length) htk1 hI0 p0
 exact codeAny_compStart_list loop (X.W.self 0 _ _ (notedBy (model prog w) A (compEnvC scope cl ((h1.push o).push (bc "list" [] 0)).objs.size env) fun x s'=>compPost (model prog w) A no use Q' (.ref (h1.push o).objs.size) ((h1.push o).push (bc "list" [] 0)).objs.size (.error x) s') p0.st loop)
end
theorem n7 {e:Expr}(h:cC e=false)(r:List Expr)(env:Env):starEach (e::r) env=(false,eval e env)::starEach r env:=by
 cases e<;>first|rfl|contradiction
theorem cF (env:Env)(pos:Pos){args:List Expr}:args.all (fun e=>!cC e)=true→backTo pos (starEach args env)=args.map fun e=>(false,eval e env):=by
 induction args with
 |nil=>exact fun _=>rfl
 |cons e r ih=>
  intro h
  have h:=(Bool.and_eq_true _ _).mp h
  rw[n7 (by simpa using h.1)]
  exact congrArg ((false,eval e env)::·) (ih h.2)
theorem du {M:Model}{A:Around}{pos:Pos}{f:Value}{first:List Value}{args:List (Bool×Sem Value)}{Q:Value→Shared→Prop}{E:Value→Shared→Prop}{s:Shared}(hplain:args.any (·.1)=false)
  (h:wpAny M A (evalArgs f true args []) (fun a s₁=>(∃k,Looks M s₁.heap (keeperOf f) k)∧wpAny M A (call f (first++a.pos) a.kw) Q E s₁) E s):wpAny M A (callWith pos f first args []) Q E s:=by
 unfold callWith
 refine wpAny_bind (wpAny_holding (wpAny_mono h (fun x s₁ h₁=>wpAny_bind (wpAny_standAt ?_)) fun _ _ x=>x))
 obtain⟨⟨k,hk⟩,hc⟩:=h₁
 have tail:∀{t:Sem Value},wpAny M A t Q E s₁→wpAny M A (t>>=fun r=>holding [r] point>>=fun _=>pure r) Q E s₁:=
  fun ht=>wpAny_bind (wpAny_mono ht (fun r s₂ hr=>wpAny_bind (wpAny_holding (wpAny_point (wpAny_pure hr)))) fun _ _ x=>x)
 have mk:∀v (p:Prop) [Decidable p],wpAny M A (if p then (call f (first++x.pos) x.kw>>=fun r=>holding [r] point>>=fun _=>pure r) else (callMarked v f (first++x.pos) x.kw>>=fun r=>holding [r] point>>=fun _=>pure r)) Q E s₁:=fun v p _=>by
  by_cases q:p
  ·rw[if_pos q];exact tail hc
  ·rw[if_neg q];unfold callMarked;exact tail (Calls.wpAny_keep hc)
 rw[hplain]
 refine wpAny_bind (hk.here ?_)
 cases k
 ·exact mk _ _
 ·exact mk _ _
 ·exact tail hc
 ·exact tail (wpAny_operating hc)
noncomputable def bj (e:Expr):Bool:=if h:e.ctorIdx=16 then @Expr.Call.elim (fun _=>Bool) e h fun f as _ _=>f.ctorIdx==23&&!as.isEmpty else true
theorem oB {f:Expr}{as:List Expr}{ks:List Keyword}{p:Pos}{nm:Str}{env:Env}{t:Sem Value}(h:(f.ctorIdx==23&&!as.isEmpty)=true):attributeBase (.Call f as ks p) nm env t=t:=by
 obtain⟨h1,h2⟩:=(Bool.and_eq_true _ _).mp h
 obtain⟨x,q,rfl⟩:=kC (eq_of_beq h1)
 cases as with
 |nil=>contradiction
 |cons a r=>rfl
theorem nM {M:Model}{A:Around}{Q:Value→Shared→Prop}{E:Value→Shared→Prop}{s:Shared}{o:Expr}{nm:Str}{env:Env}{t:Sem Value}(h:bj o=true)(ht:wpAny M A t Q E s):wpAny M A (attributeBase o nm env t) Q E s:=by
 cases o with
 |Call f as ks p=>rw[oB h];exact ht
 |_=>exact ht
theorem dW {M:Model}{A:Around}{Q:Value→Shared→Prop}{E:Value→Shared→Prop}{s:Shared}{o:Expr}{nm:Str}{apos pos:Pos}{args:List Expr}{env:Env}(hsup:bj o=true)(hst:args.all (fun e=>!cC e)=true)
  (hfew:args.length<30) (hline:(apos.endLine==pos.line)=true)
  (h:wpAny M A (eval o env) (fun ov s₁=>wpAny M A (getMethod ov nm (do return (←importBound o env).getD true)) (fun fx s₂=>wpAny M A (callWith pos fx.1 fx.2 (args.map fun e=>(false,eval e env)) []) Q E s₂) E s₁) E s) :
  wpAny M A (eval (.Call (.Attribute o nm apos) args [] pos) env) Q E s:=by
 rw[arm_eval_Call,cF env pos hst]
 refine wpAny_bind (nM hsup (wpAny_mono h (fun ov s₁ h₁=>wpAny_bind (wpAny_standAt ?_)) fun _ _ e=>e))
 have hform:methodCallForm (args.length+([]:List Keyword).length) (args.map fun e=>(false,eval e env)) (backToKw pos (keywordEach [] env))=true:=by
  unfold methodCallForm
  have h1:(args.map fun e=>(false,eval e env)).all (fun x=>!x.1)=true:=by simp
  rw[h1]
  exact decide_eq_true hfew
 have hpos:methodCallPos true o env apos pos=pure pos:=by unfold methodCallPos;simp[hline]
 unfold methodCall
 rw[hform]
 refine wpAny_bind (wpAny_holding (wpAny_mono h₁ (fun fx s₂ h₂=>?_) fun _ _ e=>e))
 exact wpAny_bind (wpAny_of_eq hpos h₂)
section
variable {prog:Program}{w:World}{A:Around}{hb:Heap}{pr:List Nat}{env:Env}
def OkArgs (prog:Program)(w:World)(A:Around)(hb:Heap)(pr:List Nat)(env:Env)(l:Loc):List Expr→aa→(List V→aa→Prop)→Prop
 | [],c,K=>K [] c
 |e::r,c,K=>OkE (model prog w) A hb pr env IsV l c (eval e env) (fun v c'=>OkArgs prog w A hb pr env l r c' (fun vs c''=>K (v::vs) c''))
theorem fW {l:Loc}:∀{args:List Expr} {c:aa} {K:List V→aa→Prop},OkArgs prog w A hb pr env l args c K→OkE (model prog w) A hb pr env IsVs l c (spliced (args.map fun e=>(false,eval e env))) K
 | [],c,K,h=>fun α s Q hs F hq=>Calls.spliced_nil (hq [] c α [] s.heap s.toks hs h F (.refl ..) .nil)
 |e::r,c,K,h=>fun α s Q hs F hq=>by
  refine Calls.spliced_cons (h α s _ hs F fun v c1 α1 g h1 tk1 htk1 hK F1 L1 i1=>?_)
  refine fW hK α1 _ _ htk1 F1 fun vs c2 α2 gs h2 tk2 htk2 hK2 F2 L2 i2=>?_
  exact hq _ _ _ _ _ _ htk2 hK2 F2 (L1.trans L2) (.cons (L2.isV i1) i2)
theorem bU {l:Loc}{c:aa}{f:Value}{first:List Value}{fs:List V}{args:List Expr}{pos:Pos}{K:V→aa→Prop}{α:Al}{s:Shared}{Q:Value→Shared→Prop}(hs:1≤s.toks)(F:Fst hb pr env l c α s.heap)(hfs:IsVs c α s.heap fs first)
  (hargs:OkArgs prog w A hb pr env l args c (fun vs c'=>∀α' (s':Shared) ws,1≤s'.toks→Fst hb pr env l c' α' s'.heap→Le c α s.heap c' α' s'.heap→IsVs c' α' s'.heap (fs++vs) ws→
   (∃k,Looks (model prog w) s'.heap (keeperOf f) k)∧∀(Q:Value→Shared→Prop),
   (∀v c'' α'' g h'' tk,1≤tk→K v c''→Fst hb pr env l c'' α'' h''→Le c' α' s'.heap c'' α'' h''→IsV c'' α'' h'' v g→Q g {s' with heap:=h'',toks:=tk})→wpAny (model prog w) A (call f ws) Q no s'))
  (hq:∀b c' α' g h' tk,1≤tk→K b c'→Fst hb pr env l c' α' h'→Le c α s.heap c' α' h'→IsV c' α' h' b g→Q g {s with heap:=h',toks:=tk}) :
  wpAny (model prog w) A (callWith pos f first (args.map fun e=>(false,eval e env)) []) Q no s:=by
 have app:∀{c:aa} {α:Al} {h:Heap} {fs vs:List V} {first ws:List Value},IsVs c α h fs first→IsVs c α h vs ws→IsVs c α h (fs++vs) (first++ws):=by
  intro c α h fs vs first ws a b
  induction a with
  |nil=>exact b
  |cons x _ ih=>exact .cons x ih
 refine du (by simp) ?_
 have fin:wpAny (model prog w) A (spliced (args.map fun e=>(false,eval e env))) (fun ws s₁=>(∃k,Looks (model prog w) s₁.heap (keeperOf f) k)∧wpAny (model prog w) A (call f (first++ws)) Q no s₁) no s:=by
  refine fW hargs α s _ hs F fun vs c1 α1 ws h1 tk1 htk1 hK F1 L1 i1=>?_
  obtain⟨hk,hc⟩:=hK α1 {s with heap:=h1,toks:=tk1} _ htk1 F1 L1 (app (L1.isVs hfs) i1)
  exact⟨hk,hc Q fun v c2 α2 g h2 tk2 htk2 hK2 F2 L2 i2=>hq v c2 α2 g h2 tk2 htk2 hK2 F2 (L1.trans L2) i2⟩
 cases args with
 |nil=>
  obtain⟨hk,hc⟩:=hargs α s _ hs F (.refl ..) (app hfs .nil)
  exact PySem.evalArgs_none ⟨hk,hc Q fun v c2 α2 g h2 tk2 htk2 hK2 F2 L2 i2=>hq v c2 α2 g h2 tk2 htk2 hK2 F2 L2 i2⟩
 |cons e r=>exact Calls.evalArgs_plain fin
end
noncomputable def yJ (d:D)(b:Bi):Option Bool:=match d,b with
 | .int _,.bool=>some false
 | .int _,.int=>some true
 | .bool _,.bool=>some true
 | .bool _,.int=>some true
 | .str _,.bool=>some false
 | .str _,.int=>some false
 |_,_=>none
def cf (c:aa)(k:Option Nat)(xs:List D)(K:V→aa→Prop):Prop:=match k with
 |none=>K (.d (.lst xs)) c
 |some k=>k∉dom c∧K (.obj k) (c++[(k,.list xs)])
def v1 (vs:List V)(f:V→Prop):Prop:=match vs with
 | []=>False
 |v::r=>(match r with
  | []=>f v
  |_::_=>False)
def v2 (vs:List V)(f:V→V→Prop):Prop:=match vs with
 | []=>False
 |u::r=>v1 r fun v=>f u v
theorem gG {vs:List V}{f:V→Prop}(h:v1 vs f):∃v,vs=[v]∧f v:=by
 cases vs with
 |nil=>exact h.elim
 |cons v r=>cases r with
  |nil=>exact⟨v,rfl,h⟩
  |cons _ _=>exact h.elim
theorem m9 {vs:List V}{f:V→V→Prop}(h:v2 vs f):∃u v,vs=[u,v]∧f u v:=by
 cases vs with
 |nil=>exact h.elim
 |cons u r=>obtain⟨v,rfl,h⟩:=gG h;exact⟨u,v,rfl,h⟩
def tz (c:aa)(v:V)(K:V→aa→Prop):Prop:=match gv v with
 |some x=>x.length≤big∧K (.d (.int x.length)) c
 |none=>aw (bW c v) fun p=>p.2.length≤big∧K (.d (.int p.2.length)) c
def yo (u:V)(f:Bi→Prop):Prop:=match u with
 | .bi b=>f b
 |_=>False
theorem qa {u:V}{f:Bi→Prop}(h:yo u f):∃x,u=.bi x∧f x:=by
 cases u with
 |bi x=>exact⟨x,rfl,h⟩
 |_=>exact h.elim
def vU (c:aa)(u v:V)(K:V→aa→Prop):Prop:=onD u fun d=>yo v fun b=>aw (yJ d b) fun r=>K (.d (.bool r)) c
theorem sJ {c:aa}{u v:V}{K:V→aa→Prop}(h:vU c u v K):∃d b r,u=.d d∧v=.bi b∧yJ d b=some r∧K (.d (.bool r)) c:=by
 obtain⟨d,e1,h⟩:=cL h
 obtain⟨b,e2,h⟩:=qa h
 obtain⟨r,e3,h⟩:=ax h
 exact⟨d,b,r,e1,e2,e3,h⟩
def rn (c:aa)(vs:List V)(K:V→aa→Prop):Prop:=match vs with
 | []=>False
 |u::r=>(match r with
  | []=>ec u u fun b _=>K (.rng 0 b) c
  |_::_=>v2 vs fun u v=>ec u v fun a b=>K (.rng a b) c)
def biK (c:aa)(k:Option Nat)(b:Bi)(vs:List V)(K:V→aa→Prop):Prop:=match b with
 | .len=>v1 vs fun v=>tz c v K
 | .isinstance=>v2 vs fun u v=>vU c u v K
 | .max=>v2 vs fun u v=>ec u v fun a b=>K (.d (.int (if b > a then b else a))) c
 | .min=>v2 vs fun u v=>ec u v fun a b=>K (.d (.int (if b<a then b else a))) c
 | .list=>v1 vs fun v=>aw (bW c v) fun p=>p.2.length≤big∧cf c k p.2 K
 | .tuple=>v1 vs fun v=>aw (bW c v) fun p=>p.1=false∧p.2.length≤big∧K (.d (.tup p.2)) c
 | .range=>rn c vs K
 |_=>False
section
variable {prog:Program}{w:World}{A:Around}{hb:Heap}{pr:List Nat}{env:Env}{l:Loc}{c:aa}{α:Al}{s:Shared}
theorem Fst.new' {h h':Heap}(F:Fst hb pr env l c α h){k:Nat}(hk:k∉dom c){a:Addr}(ha:h.get? a=none)(hkeep:∀b o,h.get? b=some o→h'.get? b=some o){o:O}
  (hq:Le c α h (c++[(k,o)]) (upd α k a) h'→IsO (c++[(k,o)]) (upd α k a) h' a o) :
  Fst hb pr env l (c++[(k,o)]) (upd α k a) h'∧Le c α h (c++[(k,o)]) (upd α k a) h':=by
 have ag:∀j∈dom c,upd α k a j=α j:=fun j hj=>by
  show (if j=k then _ else _)=_
  rw[if_neg (fun (e:j=k)=>hk (e▸hj))]
 have ak:upd α k a k=a:=if_pos rfl
 have L:Le c α h (c++[(k,o)]) (upd α k a) h':=by
  refine⟨fun j hj=>by rw[af];exact List.mem_append_left _ hj,ag,fun b o e _=>hkeep b o e,fun j hj=>?_⟩
  rw[af] at hj
  rcases List.mem_append.mp hj with hj|hj
  ·rw[ag j hj];exact .inl ⟨j,hj,rfl⟩
  ·have:j=k:=by simpa using hj
   rw[this,ak];exact .inr ha
 have C:Cst hb pr (c++[(k,o)]) (upd α k a) h':=by
  refine⟨fun b o e=>hkeep _ _ (F.base b o e),fun j u e=>?_,fun j hj=>?_,fun i hi j hj e=>?_,fun j hj=>L.dom j (F.prs j hj)⟩
  ·rw[aH hk] at e
   by_cases hj:j=k
   ·rw[if_pos hj] at e;(injection e with e;subst e);rw[hj,ak];exact hq L
   ·rw[if_neg hj] at e
    rw[ag j (al e)]
    exact L.isO (fun q e=>hkeep _ _ e) (F.cell j u e)
  ·rw[af] at hj
   rcases List.mem_append.mp hj with hj|hj
   ·rw[ag j hj];exact F.fresh j hj
   ·have:j=k:=by simpa using hj
    rw[this,ak]
    cases e:hb.get? a with
    |none=>rfl
    |some o'=>rw[F.base _ _ e] at ha;contradiction
  ·rw[af] at hi hj
   have ne:∀j∈dom c,α j≠a:=fun j hj e=>by obtain⟨q,hq⟩:=F.toCst.ex hj;rw[e,ha] at hq;contradiction
   rcases List.mem_append.mp hi with hi|hi<;>rcases List.mem_append.mp hj with hj|hj
   ·rw[ag i hi,ag j hj] at e;exact F.inj i hi j hj e
   ·have:j=k:=by simpa using hj
    rw[this,ak,ag i hi] at e;exact absurd e (ne i hi)
   ·have:i=k:=by simpa using hi
    rw[this,ak,ag j hj] at e;exact absurd e.symm (ne j hj)
   ·have h1:i=k:=by simpa using hi
    have h2:j=k:=by simpa using hj
    rw[h1,h2]
 exact⟨F.le L C,L⟩
theorem sO (h:Heap):h.get? h.objs.size=none:=by
 cases e:h.get? h.objs.size with
 |none=>rfl
 |some o'=>exact absurd (Heap.lt_size e) (Nat.lt_irrefl _)
theorem gI (F:Fst hb pr env l c α s.heap){k:Option Nat}{xs:List D}{ws:List Value}{ep:Nat}{h':Heap}{K:V→aa→Prop}(h:cf c k xs K)(r:IsDs s.heap (aE c α) xs ws)
  (hkeep:∀b o,s.heap.get? b=some o→h'.get? b=some o) (hg:h'.get? s.heap.objs.size=some (bc "list" ws ep)) {Q:Value→Shared→Prop}
  (hq:∀v c' α' g h' tk,K v c'→Fst hb pr env l c' α' h'→Le c α s.heap c' α' h'→IsV c' α' h' v g→Q g {s with heap:=h',toks:=tk}) (tk:Nat):Q (.ref s.heap.objs.size) {s with heap:=h',toks:=tk}:=by
 cases k with
 |none=>
  obtain⟨F',L'⟩:=F.keeps hkeep
  exact hq _ c α _ h' tk h F' L' (.lst hg (a9 F.toCst) (L'.isDs r))
 |some k=>
  obtain⟨F',L'⟩:=F.new' h.1 (sO s.heap) hkeep (o:=.list xs) (fun L=>⟨ws,ep,hg,L.isDs r⟩)
  exact hq _ _ _ _ h' tk h.2 F' L' ⟨by rw[show upd α k s.heap.objs.size k=s.heap.objs.size from if_pos rfl],by rw[af];simp⟩
section
variable (F:Fst hb pr env l c α s.heap){K:V→aa→Prop}{Q:Value→Shared→Prop}(hq:∀v c' α' g h' tk,K v c'→Fst hb pr env l c' α' h'→Le c α s.heap c' α' h'→IsV c' α' h' v g→Q g {s with heap:=h',toks:=tk})
include F hq
theorem wk {v:V}{g:Value}(h:tz c v K)(i:IsV c α s.heap v g):wpAny (model prog w) A (call (.builtin "len") [g]) Q no s:=by
 have rf:=Le.refl c α s.heap
 unfold tz at h
 cases q:gv v with
 |some x=>
  rw[q] at h
  obtain rfl:=gW q
  obtain⟨_,rfl⟩:=IsD.inv i
  exact PySem.P.len_str (Int.not_le.mpr (ut h.1)) (hq _ c α _ s.heap _ h.2 F rf (.int _ _))
 |none=>
  rw[q] at h
  obtain⟨⟨b,xs⟩,e,h1,h⟩:=ax h
  obtain⟨a,ws,ep,rfl,g',r⟩:=cW F.toCst e i
  have hl:ws.toArray.size=xs.length:=by rw[List.size_toArray,←r.length]
  have hz:(ws.toArray.size:Int)<2 ^ 63:=hl▸ut h1
  cases b with
  |true=>exact len_tuple ⟨_,g',rfl,_,rfl⟩ hz (by rw[hl];exact hq _ c α _ s.heap _ h F rf (.int _ _))
  |false=>exact len_list ⟨_,g',rfl,_,rfl⟩ hz (by rw[hl];exact hq _ c α _ s.heap _ h F rf (.int _ _))
theorem vF {u v:V}{g g':Value}(h:vU c u v K)(i:IsV c α s.heap u g)(j:IsV c α s.heap v g'):wpAny (model prog w) A (call (.builtin "isinstance") [g,g']) Q no s:=by
 have rf:=Le.refl c α s.heap
 obtain⟨d,b,r,rfl,rfl,e,h⟩:=sJ h
 (subst j)
 have i:=IsD.inv i
 cases d with
 |int n=>
  obtain⟨_,rfl⟩:=i
  cases b<;>first|contradiction|skip
  ·exact IsiPair.int_bool (hq _ c α _ s.heap _ h F rf (.bool _))
  ·exact IsiPair.int_int (hq _ c α _ s.heap s.toks h F rf (.bool _))
 |bool n=>
  obtain rfl:g=_:=i
  cases b<;>first|contradiction|skip
  ·exact IsiPair.bool_bool (hq _ c α _ s.heap s.toks h F rf (.bool _))
  ·exact IsiPair.bool_int (hq _ c α _ s.heap s.toks h F rf (.bool _))
 |str x=>
  obtain⟨_,rfl⟩:=i
  cases b<;>first|contradiction|skip
  ·exact IsiPair.str_bool (hq _ c α _ s.heap _ h F rf (.bool _))
  ·exact IsiPair.str_int (hq _ c α _ s.heap _ h F rf (.bool _))
 |_=>contradiction
theorem ux {k:Option Nat}{v:V}{g:Value}(h:aw (bW c v) fun p=>p.2.length≤big∧cf c k p.2 K)(i:IsV c α s.heap v g):wpAny (model prog w) A (call (.type "list") [g]) Q no s:=by
 obtain⟨⟨b,xs⟩,e,h1,h⟩:=ax h
 obtain⟨a,ws,ep,rfl,g',r⟩:=cW F.toCst e i
 exact call_list_seq a (T:=if b then "tuple" else "list") (by cases b<;>simp) g' rfl rfl (fun h' c' hk hD=>gI F h r hk hD hq s.toks) (by rw[List.size_toArray,←r.length];exact aJ h1)
theorem ql {v:V}{g:Value}(h:aw (bW c v) fun p=>p.1=false∧p.2.length≤big∧K (.d (.tup p.2)) c)(i:IsV c α s.heap v g):wpAny (model prog w) A (call (.type "tuple") [g]) Q no s:=by
 obtain⟨⟨b,xs⟩,e,e',h1,h2⟩:=ax h
 have e':b=false:=e'
 subst e'
 obtain⟨a,ws,ep,rfl,g',r⟩:=cW F.toCst e i
 refine call_tuple_list ⟨_,g',rfl,_,rfl⟩ (fun h' hk=>?_) (by rw[List.size_toArray,←r.length];exact aJ h1)
 obtain⟨F',L'⟩:=F.keeps hk
 obtain⟨F2,L2⟩:=F'.push (bc "tuple" ws 0)
 exact hq _ c α _ _ s.toks h2 F2 (L'.trans L2) (.tup (Heap.get?_push_size _ rfl) (a9 F'.toCst) ((L'.trans L2).isDs r))
theorem pU {vs:List V}{ws:List Value}(h:rn c vs K)(iv:IsVs c α s.heap vs ws):wpAny (model prog w) A (call (.type "range") ws) Q no s:=by
 cases vs with
 |nil=>exact h.elim
 |cons u r=>
  cases r with
  |nil=>
   obtain⟨b,_,rfl,_,h⟩:=nW h
   obtain⟨w,rfl,i⟩:=iv.one
   obtain⟨_,rfl⟩:=IsD.inv i
   refine call_range_1 ?_
   obtain⟨F',L'⟩:=F.push (xt 0 _ s.toks _ (s.toks+1))
   exact hq _ c α _ _ _ h F' L' ⟨_,_,_,_,rfl,Heap.get?_push_size _ rfl,a9 F.toCst⟩
  |cons v r=>
   obtain⟨u',v',e,h⟩:=m9 (vs:=u::v::r) (f:=fun u v=>ec u v fun a b=>K (.rng a b) c) h
   rw[e] at iv
   obtain⟨w,w',rfl,i,j⟩:=iv.two
   obtain⟨a,_,b,_,rfl,rfl,h⟩:=cT h i j
   refine call_range_2 ?_
   obtain⟨F',L'⟩:=F.push (xt _ _ _ _ s.toks)
   exact hq _ c α _ _ _ h F' L' ⟨_,_,_,_,rfl,Heap.get?_push_size _ rfl,a9 F.toCst⟩
theorem wc (hh:A.handled=none){vs:List V}{ws:List Value}(h:v2 vs fun u v=>ec u v fun a b=>K (.d (.int (if b > a then b else a))) c)(iv:IsVs c α s.heap vs ws):wpAny (model prog w) A (call (.builtin "max") ws) Q no s:=by
 obtain⟨u,v,rfl,h⟩:=m9 h
 obtain⟨w,w',rfl,i,j⟩:=iv.two
 obtain⟨a,_,b,_,rfl,rfl,h⟩:=cT h i j
 refine max_two_ints hh fun h' tk hk=>?_
 obtain⟨F',L'⟩:=F.keeps hk
 refine hq _ c α _ h' tk h F' L' ?_
 by_cases q:b > a
 ·rw[if_pos q,if_pos q];exact .int _ _
 ·rw[if_neg q,if_neg q];exact .int _ _
theorem vu (hh:A.handled=none){vs:List V}{ws:List Value}(h:v2 vs fun u v=>ec u v fun a b=>K (.d (.int (if b<a then b else a))) c)(iv:IsVs c α s.heap vs ws):wpAny (model prog w) A (call (.builtin "min") ws) Q no s:=by
 obtain⟨u,v,rfl,h⟩:=m9 h
 obtain⟨w,w',rfl,i,j⟩:=iv.two
 obtain⟨a,_,b,_,rfl,rfl,h⟩:=cT h i j
 refine min_two_ints hh fun h' tk hk=>?_
 obtain⟨F',L'⟩:=F.keeps hk
 refine hq _ c α _ h' tk h F' L' ?_
 by_cases q:b<a
 ·rw[if_pos q,if_pos q];exact .int _ _
 ·rw[if_neg q,if_neg q];exact .int _ _
end
theorem xO (hh:A.handled=none)(F:Fst hb pr env l c α s.heap){k:Option Nat}{b:Bi}{vs:List V}{ws:List Value}{K:V→aa→Prop}(h:biK c k b vs K)(iv:IsVs c α s.heap vs ws){Q:Value→Shared→Prop}
  (hq:∀v c' α' g h' tk,K v c'→Fst hb pr env l c' α' h'→Le c α s.heap c' α' h'→IsV c' α' h' v g→Q g {s with heap:=h',toks:=tk}):wpAny (model prog w) A (call b.val ws) Q no s:=by
 cases b with
 |len=>obtain⟨v,rfl,h⟩:=gG h;obtain⟨w,rfl,i⟩:=iv.one;exact wk F hq h i
 |isinstance=>obtain⟨u,v,rfl,h⟩:=m9 h;obtain⟨w,w',rfl,i,j⟩:=iv.two;exact vF F hq h i j
 |max=>exact wc F hq hh h iv
 |min=>exact vu F hq hh h iv
 |list=>obtain⟨v,rfl,h⟩:=gG h;obtain⟨w,rfl,i⟩:=iv.one;exact ux F hq h i
 |tuple=>obtain⟨v,rfl,h⟩:=gG h;obtain⟨w,rfl,i⟩:=iv.one;exact ql F hq h i
 |range=>exact pU F hq h iv
 |_=>exact h.elim
end
end Mine
end
section
namespace Mine
open PySem PyProof.Rows PySem.W PySem.Builtin PySem.Builtin.ObjectAttr
theorem jX:typeLookup (.type "list") "append"=pure (some (.builtin "list.append")):=PySem.slot_list_append.lookup
theorem dE:typeOf (.builtin "list.append")=pure (.type "method_descriptor"):=by show builtinType _=_;rw[builtinType_eq_fast];kernel_rfl
theorem slot_mdget:Slot "method_descriptor" "__get__" "method_descriptor.__get__":=
 .of (owner:="method_descriptor") (n:="__get__") (by rw[typeLookup_type,builtinLookup_eq_fast];kernel_rfl) (by decide +kernel) (by decide +kernel) (by decide +kernel)
  (by first|exact .inl (by decide +kernel)|exact .inr (by decide +kernel)) (by rw[isSubtype_type];kernel_rfl)
theorem kj:entryFor table "method_descriptor.__get__"=some Builtin.«method_descriptor.__get__»:=entryFor_of_tree (by kernel_rfl)
theorem my (a b c:Value):argsOk "method_descriptor.__get__" ⟨[a,b,c],[]⟩:=by unfold argsOk;kernel_rfl
theorem vY:typeLookup (.type "method_descriptor") "__set__"=pure none:=by rw[typeLookup_type,builtinLookup_eq_fast];kernel_rfl
theorem og:typeLookup (.type "method_descriptor") "__delete__"=pure none:=by rw[typeLookup_type,builtinLookup_eq_fast];kernel_rfl
theorem oa:isSubtype (.type "list") (.type "list")=pure true:=by rw[isSubtype_type];kernel_rfl
theorem kf:isSubtype (.type "list") (.type "module")=pure false:=by rw[isSubtype_type];kernel_rfl
theorem pd:isSubtype (.type "list") (.type "type")=pure false:=by rw[isSubtype_type];kernel_rfl
theorem iZ:takesStores (.builtin "list.append")=pure false:=by
 unfold takesStores specialOf
 rw[dE]
 show (typeLookup (.type "method_descriptor") "__set__" >>= _)=_
 rw[vY]
 show (typeLookup (.type "method_descriptor") "__delete__" >>= _)=_
 rw[og];rfl
theorem lW:specialOf (.builtin "list.append") "__get__"=pure (some (.builtin "method_descriptor.__get__")):=by
 unfold specialOf
 rw[dE]
 exact slot_mdget.lookup
section
variable {prog:Program}{w:World}{A:Around}{E:Value→Shared→Prop}{s:Shared}{G:Addr}{xs:Array Value}{ep:Nat}
theorem lB {T:String}{b:Bool}(hG:s.heap.get? G=some {cls:=.type "list",data:=.seq xs ep}) (hT:isSubtype (.type "list") (.type T)=pure b) {Q:Bool→Shared→Prop} (h:Q b s):wpAny (model prog w) A (isInstance (.ref G) (.type T)) Q E s:=
 wpAny_isInstance (T:="list") (U:=T) (b:=b) ⟨_,hG,rfl⟩ hT h
theorem oO {P:Fin→Shared→Prop}(hG:s.heap.get? G=some {cls:=.type "list",data:=.seq xs ep}) (h:P (.done (.ret (.ref s.heap.objs.size))) {s with heap:=s.heap.push (j7 "list.append" G)}) :
  wpAny (model prog w) A (Builtin.«method_descriptor.__get__» ⟨[.builtin "list.append",.ref G,.type "list"],[]⟩) P E s:=by
 unfold Builtin.«method_descriptor.__get__»
 refine wpAny_bind (wpAny_of_eq (a:=(.builtin "list.append",some (.ref G),some (.type "list"))) (by first|rfl|kernel_rfl) ?_)
 have hT:s.TypeIs (.ref G) "list":=⟨_,hG,rfl⟩
 have l1:=oa
 repeat (any_goals (first|assumption|wp_step))
 rw[show (".".intercalate ("list.append".cutAt '.').dropLast)="list" from by decide +kernel]
 refine wpAny_of_eq (a:=true) l1 ?_
 repeat (any_goals (first|assumption|wp_step))
theorem kO {t:Tok}{R:Fin→Shared→Prop}(hG:s.heap.get? G=some {cls:=.type "list",data:=.seq xs ep}) (h:R (.done (.ret (.ref s.heap.objs.size))) {s with heap:=s.heap.push (j7 "list.append" G)}) :
  wpAny (model prog w) A (Builtin.«object.__getattribute__» ⟨[.ref G,.str "append" t],[]⟩) R E s:=by
 have hT:s.TypeIs (.ref G) "list":=⟨_,hG,rfl⟩
 have f1:=jX
 have f2:=lW
 have f3:=iZ
 unfold Builtin.«object.__getattribute__»
 repeat (any_goals (first|assumption | ((with_reducible show wpAny _ _ (call (Value.builtin "method_descriptor.__get__") _ _) _ _ _);refine wpAny_call_entry slot_mdget dE kj (oO hG ⟨_,rfl,?_⟩) (my _ _ _))|wp_step))
theorem j5 (hG:s.heap.get? G=some {cls:=.type "list",data:=.seq xs ep}) {Q:Value→Shared→Prop} (h:Q (.ref s.heap.objs.size) {s with heap:=s.heap.push (j7 "list.append" G),toks:=s.toks+1}) :
  wpAny (model prog w) A (getAttr (.ref G) "append" true) Q E s:=by
 obtain⟨hp,g,d,tk,os⟩:=s
 have hT:∀tk',(⟨hp,g,d,tk',os⟩:Shared).TypeIs (.ref G) "list":=fun _=>⟨_,hG,rfl⟩
 have f3:=F.slot_list_getattribute.lookup
 have f4:=F.slot_list_getattribute.bind (.ref G)
 unfold getAttr getAttrBy
 repeat (any_goals (first|assumption|exact hT _ | ((with_reducible show wpAny _ _ (call (Value.builtin "list.__getattribute__") _ _) _ _ _);refine wpAny_call_entry F.slot_list_getattribute (hT _) am_entry_list_getattribute (kO hG ⟨_,rfl,?_⟩) (F.args_list_getattribute_2 _ _))|wp_step))
theorem mB (a b:Value):(match Manifest.signature? "list.append" with|some sig=>Bind.checkArgs "list.append" {sig with full:=toString (Bind.lastOf "list")++toString "."++toString (Bind.lastOf "list.append")} ⟨[a,b],[]⟩|none=>pure ())=pure ():=by kernel_rfl
theorem lG:builtinKind "list.append"=some .method:=by decide +kernel
theorem kH (hG:s.heap.get? G=some {cls:=.type "list",data:=.seq xs ep}) {Q:Bool→Shared→Prop} (h:Q false s):wpAny (model prog w) A (isType (.ref G)) Q E s:=by
 have hT:s.TypeIs (.ref G) "list":=⟨_,hG,rfl⟩
 have l2:=pd
 unfold isType
 repeat (any_goals (first|assumption|wp_step))
theorem je {v:Value}(hG:s.heap.get? G=some {cls:=.type "list",data:=.seq xs ep}) {Q:Unit→Shared→Prop} (h:Q () s):wpAny (model prog w) A (checkBoundCall "list.append" ⟨[.ref G,v],[]⟩) Q E s:=by
 have hT:s.TypeIs (.ref G) "list":=⟨_,hG,rfl⟩
 have ht:=mB (.ref G) v
 unfold checkBoundCall
 cases hsig:Manifest.signature? "list.append" with
 |none=>exact wpAny_pure h
 |some sig=>
  rw[hsig] at ht
  simp only[lG]
  rw[if_neg (by decide)]
  refine wpAny_bind (lB hG kf ?_)
  rw[if_neg (by decide +kernel)]
  refine wpAny_bind (kH hG ?_)
  rw[if_neg (by decide)]
  refine wpAny_bind (wpAny_typeOf hT ?_)
  exact wpAny_of_eq ht h
theorem jE {M:Model}{h:Heap}{p:Addr}(hp:h.get? p=some (j7 "list.append" G)):Looks M h (keeperOf (.ref p)) .machine:=by
 intro A Q E s k q
 unfold keeperOf
 refine wpAny_bind (wpAny_load (k _ _ hp) ?_)
 exact wpAny_pure q
theorem mc {p:Addr}{v:Value}(hp:s.heap.get? p=some (j7 "list.append" G)) (hG:s.heap.get? G=some {cls:=.type "list",data:=.seq xs ep}) (hsz:xs.size≤sizeLine) {Q:Value→Shared→Prop}
  (h:∀h',h'.PlainList G (xs.push v)→Heap.SameBut G s.heap h'→Q .none {s with heap:=h'}):wpAny (model prog w) A (call (.ref p) [v]) Q E s:=by
 refine wpAny_call (codeAny_of_tree ?_)
 show wpAny _ A.in1 (callAny (.ref p) ⟨[v],[]⟩) _ _ s
 refine wpAny_bind (wpAny_load hp ?_)
 show wpAny _ A.in1 (if (Value.type "builtin_function_or_method" != Value.type "method")=true then (do checkBoundCall "list.append" ⟨[.ref G,v],[]⟩;again (.builtin "list.append" ⟨[.ref G,v],[]⟩)) else _) _ _ _
 rw[if_pos (by decide)]
 refine wpAny_bind (je hG (wpAny_pure ?_))
 refine⟨Code.quiet_builtin _ (by decide +kernel),?_⟩
 refine codeAny_builtin PySem.entry_list_append ?_
 show wpAny _ _ (updateSeq G (·.push v)>>=fun _=>ret .none) _ _ s
 refine wpAny_bind ?_
 refine wpAny_updateSeq hG rfl (wpAny_pure (h _ ⟨ep+1,?_⟩ (Heap.SameBut.update ..)))
 rw[Heap.get?_update_self _ hG (by rw[Obj.mapSeq_push_plain];rfl),Obj.mapSeq_push_plain]
end
end Mine
end
section
namespace Mine
open PySem PyProof.Rows PySem.W PySem.Builtin
structure TabOk (K:Frag)(d C:Addr)(tr:Nat→Nat):Prop where
 at_:∃dd es ep sl,K.lookup d=some ⟨.ref C,dd,.dict es ep,sl⟩∧IntKeys es∧∀c:Nat,c<128→∃t,findBy Value.isInt es (c:Int)=some (.int (tr c:Nat) t)∧tr c<128
 seq:noSeq K C=true
 item:findIn K (.ref C) "__getitem__"=some (some (.builtin "dict.__getitem__"))
 sub:mroIn K C (.type "dict")=some true
section
variable {prog:Program}{w:World}{A:Around}{s:Shared}{K:Frag}{d C:Addr}{tr:Nat→Nat}
theorem qE:builtinKind "dict.__getitem__"=some .method:=by decide +kernel
theorem oK:splitId "dict.__getitem__"=some ("dict","__getitem__"):=by decide +kernel
theorem mE {M:Model}{E:Value→Shared→Prop}{i owner n:String}{self:Value}{rest:List Value}{kw:List (Str×Value)}{Q:Unit→Shared→Prop}
  (hk:builtinKind i=some .method) (hs:splitId i=some (owner,n)) (hi:Looks M s.heap (isInstance self (.type owner)) true) (ha:argsOk i ⟨self::rest,kw⟩) (q:Q () s) :
  wpAny M A (checkBuiltinCall i ⟨self::rest,kw⟩) Q E s:=by
 simp only[checkBuiltinCall,hk,hs]
 refine wpAny_bind (hi.here ?_)
 simp only[Bool.not_true,Bool.false_eq_true,if_false]
 cases hsig:Manifest.signature? i with
 |none=>exact wpAny_pure q
 |some sig=>
  simp only[argsOk,hsig] at ha
  have h2:Bind.checkArgs i sig ⟨self::rest,kw⟩=pure ():=ha
  show wpAny M A (Bind.checkArgs i sig ⟨self::rest,kw⟩) Q E s
  rw[h2];exact wpAny_pure q
theorem uc {E:Value→Shared→Prop}{k:Int}{t:Tok}{o:Obj}{es:Array DictEntry}{ep:Nat}{v:Value}{R:PySem.Fin→Shared→Prop}(ho:s.heap.get? d=some o)(hd:o.data=.dict es ep)(hk:PySem.IntKeys es)(hf:findBy Value.isInt es k=some v)
  (h:R (.done (.ret v)) {s with toks:=s.toks+1}):wpAny (model prog w) A (Builtin.«dict.__getitem__» ⟨[.ref d,.int k t],[]⟩) R E s:=by
 show wpAny _ _ (dictGet d (.int k t)>>=_) _ _ s
 refine wpAny_bind ?_
 unfold dictGet
 refine wpAny_holding (wpAny_bind (wpAny_pyHash_int (wpAny_bind (wpAny_dictFind_int (s:={s with toks:=s.toks+1}) ho hd hk ?_))))
 rw[findBy_of_findIdx?] at hf
 cases hi:es.findIdx? fun e=>Value.isInt k e.key with
 |none=>rw[hi] at hf;contradiction
 |some i=>
  rw[hi] at hf
  refine wpAny_bind (wpAny_dictEntries (s:={s with toks:=s.toks+1}) ho hd (wpAny_pure ?_))
  dsimp only at hf
  rw[hf]
  exact wpAny_pure h
theorem rF (T:TabOk K d C tr)(X:K.In s.heap){c:Nat}(hc:c<128){Q:Str.Mapped→Shared→Prop}(hq:∀tk,Q (.char (tr c)) {s with toks:=tk}):wpAny (model prog w) A (Str.tableLookup (.ref d) c) Q no s:=by
 refine ay fun G9 back9=>?_;obtain⟨dd,es,ep,sl,hl,hk,hes⟩:=T.at_;refine back9 ?_
 obtain⟨t,hf,htr⟩:=hes c hc
 have ho:=X _ _ hl
 have ty:∀{M:Model},Looks M s.heap (typeOf (.ref d)) (.ref C):=(Looks.ld ho).andThen .now
 have inst:∀{M:Model},Looks M s.heap (isInstance (.ref d) (.type "dict")) true:=ty.andThen (looks_mroIn X T.sub)
 unfold Str.tableLookup
 refine wpAny_bind (wpAny_attempt (wpAny_bind (wpAny_mkInt ?_)))
 unfold getItem sequenceKey
 refine wpAny_holding (wpAny_bind (wpAny_bind (Looks.here (s:={s with toks:=s.toks+1}) ty ?_)))
 refine wpAny_bind (Looks.here (s:={s with toks:=s.toks+1}) (anyM_none X T.seq) ?_)
 rw[if_pos (show (!false)=true from rfl)]
 refine wpAny_pure (wpAny_bind ?_)
 unfold callSpecial? specialOf
 refine wpAny_bind (wpAny_bind (Looks.here (s:={s with toks:=s.toks+1}) ty (Looks.here (s:={s with toks:=s.toks+1}) (looks_findIn X T.item) ?_)))
 refine wpAny_holding ?_
 rw[slot_dict_getitem.bind]
 refine wpAny_bind (wpAny_pure (wpAny_bind (wpAny_call ?_)))
 refine codeAny_call_builtin slot_dict_getitem.plain entry_dict_getitem ?_
 refine mE (s:={s with toks:=s.toks+1}) (i:="dict.__getitem__") (owner:="dict") (n:="__getitem__") (self:=.ref d) (rest:=[.int (c:Int) s.toks]) (kw:=[]) qE oK inst (args_dict_getitem _ _) ?_
 refine uc (s:={s with toks:=s.toks+1}) ho rfl hk hf ?_
 refine wpAny_pure (wpAny_pure ?_)
 have h1:¬((tr c:Nat):Int)<0:=by exact Om.o17
 have h2:¬((tr c:Nat):Int) > 1114111:=by exact Om.o16 htr
 refine wpAny_bind (wpAny_of_eq (a:=some ((tr c:Nat):Int)) rfl ?_)
 show wpAny _ _ (if (decide (((tr c:Nat):Int)<0)||decide (((tr c:Nat):Int) > 1114111))=true then _ else pure (Str.Mapped.char ((tr c:Nat):Int).toNat)) _ _ _
 simp only[decide_eq_false h1,decide_eq_false h2]
 exact wpAny_pure (hq _)
theorem jh (T:TabOk K d C tr)(X:K.In s.heap){x:PySem.Str}{t:Tok}(hx:∀c∈x.cps.toList,c<128)(hl:x.length≤big){Q:Value→Shared→Prop}(hq:∀t' tk,Q (.str ⟨x.cps.map tr⟩ t') {s with toks:=tk}) :
  wpAny (model prog w) A (call (.builtin "str.translate") [.str x t,.ref d]) Q no s:=by
 refine wpAny_call_entry PySem.F.slot_str_translate (typeIs_str _ _ _) PySem.F.entry_str_translate ?_ (PySem.F.args_str_translate_2 _ _)
 unfold Builtin.«str.translate»
 refine wpAny_bind (wpAny_of_eq (a:=(.str x t,x,.ref d)) rfl ?_)
 dsimp only
 have hsz:∀n,n≤x.length→Str.tooLong n=false:=fun n hn=>by
  unfold Str.tooLong sizeLine
  unfold big at hl
  exact decide_eq_false (by omega)
 by_cases h0:x.length=0
 ·rw[if_pos (by simpa using h0)]
  have hx0:x.cps=#[]:=Array.eq_empty_of_size_eq_zero h0
  refine wpAny_bind (wpAny_rule (wpAny_bind ?_))
  have e:(⟨x.cps.map tr⟩:PySem.Str)=x:=by
   cases x with|mk cps=>simp only at hx0;subst hx0;simp
  refine wpAny_of_eq (a:=.str x t) rfl (wpAny_pure ⟨_,rfl,?_⟩)
  have:=hq t s.toks
  rw[e] at this;exact this
 ·rw[if_neg (by simpa using h0)]
  have hall:(x.cps.all fun c=>decide (c<128))=true:=by
   rw[←Array.all_toList,List.all_eq_true]
   intro c hc;exact decide_eq_true (hx c hc)
  simp only[hall]
  refine wpAny_bind ?_
  rw[←Array.forIn_toList]
  refine wpAny_forIn_list _ (fun rest b s'=>∃done tk,x.cps.toList=done++rest∧s'={s with toks:=tk}∧b.1=(done.map fun c=>(⟨#[tr c]⟩:PySem.Str)).reverse∧b.2.1=done.length∧b.2.2.1=true∧
   (∀c a,List.lookup c b.2.2.2.1=some a→a=some (tr c))∧b.2.2.2.2=false) _ ?_ ?_ _ _ ⟨[],s.toks,rfl,rfl,rfl,rfl,rfl,(fun c a e=>by simp at e),rfl⟩
  ·intro c rest b s' h
   refine ay fun G9 back9=>?_
   obtain⟨done,tk,hsp,hs',hp,ht,hf,hk,hd⟩:=h
   obtain⟨pieces,e1⟩:∃p,p=b.1:=⟨_,rfl⟩
   obtain⟨known,e2⟩:∃p,p=b.2.2.2.1:=⟨_,rfl⟩
   rw[←e1] at hp
   rw[←e2] at hk
   have hbe:b=(pieces,done.length,true,known,false):=by rw[e1,e2,←ht,←hf,←hd]
   clear e1 e2 ht hf hd
   refine back9 ?_
   clear back9
   rw[hbe,hs']
   clear hbe hs'
   have hc:c<128:=hx c (by rw[hsp];simp)
   have hlen:done.length≤x.length:=by
    have:x.cps.toList.length=(done++c::rest).length:=by rw[hsp]
    simp only[List.length_append] at this
    simp only[Array.length_toList] at this
    exact Om.o15 this
   dsimp only
   rw[hsz _ hlen]
   simp only[Bool.false_eq_true,if_false,if_true]
   have fin:∀tk' kn,(∀c' a,List.lookup c' kn=some a→a=some (tr c'))→∃done' tk'',x.cps.toList=done'++rest∧({s with toks:=tk'}:Shared)={s with toks:=tk''}∧
     (⟨#[tr c]⟩:PySem.Str)::pieces=(done'.map fun c=>(⟨#[tr c]⟩:PySem.Str)).reverse∧done.length+1=done'.length∧true=true∧(∀c' a,List.lookup c' kn=some a→a=some (tr c'))∧false=false:=by
    intro tk' kn hkn
    exact⟨done++[c],tk',by rw[hsp];simp,rfl,by rw[hp];simp,by simp,rfl,hkn,rfl⟩
   cases hlk:List.lookup c known with
   |some a=>
    have ha:=hk c a hlk
    subst ha
    exact wpAny_bind (wpAny_pure (wpAny_pure (fin tk known hk)))
   |none=>
    refine ay fun G9 back9=>?_;obtain⟨_,_,_,_,_,_,hes⟩:=T.at_;refine back9 ?_
    obtain⟨_,_,htr⟩:=hes c hc
    refine wpAny_bind (rF (s:={s with toks:=tk}) T X hc fun tk'=>?_)
    simp only[htr,if_true]
    refine wpAny_bind (wpAny_pure (wpAny_pure (fin tk' _ fun c' a e=>?_)))
    simp only[List.lookup_cons] at e
    cases hcc:c'==c with
    |true=>rw[hcc] at e;(injection e with e;subst e);rw[beq_iff_eq.mp hcc]
    |false=>rw[hcc] at e;exact hk c' a e
  ·intro b s' h
   refine ay fun G9 back9=>?_
   obtain⟨done,tk,hsp,hs',hp,ht,hf,hk,hd⟩:=h
   have hbe:b=((done.map fun c=>(⟨#[tr c]⟩:PySem.Str)).reverse,done.length,true,b.2.2.2.1,false):=by rw[←hp,←ht,←hf,←hd]
   simp only[List.append_nil] at hsp
   have hlen:done.length=x.length:=by rw[←hsp];rfl
   clear hp ht hf hd
   refine back9 ?_
   clear back9
   rw[hbe,hs']
   rw[hsz _ (by exact Om.o14 hlen)]
   dsimp only[Bool.false_eq_true,if_false]
   have e:((done.map fun c=>(⟨#[tr c]⟩:PySem.Str)).reverse.reverse.foldl (fun acc p=>acc++p.cps) #[])=x.cps.map tr:=by
    rw[List.reverse_reverse]
    have g:∀(l:List Nat) (acc:Array Nat),(l.map fun c=>(⟨#[tr c]⟩:PySem.Str)).foldl (fun acc p=>acc++p.cps) acc=acc++(l.map tr).toArray:=by
     intro l
     induction l with
     |nil=>intro acc;simp
     |cons c r ih=>intro acc;simp only[List.map_cons,List.foldl_cons,ih];apply Array.ext';simp
    simp only[g,←hsp];apply Array.ext';simp
   rw[e]
   unfold retStr
   refine wpAny_bind (wpAny_mkStr (wpAny_pure ⟨_,rfl,hq _ _⟩) ?_)
   show (x.cps.map tr).size≤sizeLine
   rw[Array.size_map];exact aJ hl
end
end Mine
end
section
namespace Mine
open PySem PyProof.Rows PySem.W PySem.Builtin PySem.Builtin.Str
inductive Mn where
 |find|rfind|end_|append|pop
noncomputable def Mn.nm:Mn→PySem.Str
 | .find=>"find"
 | .rfind=>"rfind"
 | .end_=>"end"
 | .append=>"append"
 | .pop=>"pop"
noncomputable def ey (x y:PySem.Str)(i j:Nat):Int:=match occurrences x y i j 1 with
 |k::_=>(k:Int)
 | []=>-1
noncomputable def cP (x y:PySem.Str)(i j:Nat):Int:=match lastOccurrence x y i j with
 |some k=>(k:Int)
 |none=>-1
def uU (vs:List V)(f:PySem.Str→Int→Option Int→Prop):Prop:=match vs with
 | []=>False
 |u::r=>fw u fun y=>(match r with
  | []=>False
  |v::r=>fN v fun i=>(match r with
   | []=>f y i none
   |t::r=>fN t fun j=>(match r with
    | []=>f y i (some j)
    |_::_=>False)))
def m3 (m:Mn)(x:PySem.Str)(vs:List V)(c:aa)(K:V→aa→Prop):Prop:=uU vs fun y i o=>match o with
 |none=>(match m with
  | .find=>K (.d (.int (Txt.find3 x y i))) c
  |_=>False)
 |some j=>(0≤i∧0≤j∧j≤x.length)∧(match m with
  | .find=>K (.d (.int (ey x y i.toNat j.toNat))) c
  | .rfind=>K (.d (.int (cP x y i.toNat j.toNat))) c
  |_=>False)
def nx (m:Mn)(k:Nat)(xs:List D)(vs:List V)(c:aa)(K:V→aa→Prop):Prop:=match m with
 | .append=>v1 vs fun v=>onD v fun d=>xs.length≤big∧K (.d .none) (cset c k (.list (xs++[d])))
 | .pop=>v1 vs fun v=>fN v fun i=>i=0∧xs.length≤big∧∃d r,xs=d::r∧K (.d d) (cset c k (.list r))
 |_=>False
section
variable {prog:Program}{w:World}{A:Around}{hb:Heap}{pr:List Nat}{env:Env}{l:Loc}{c:aa}{α:Al}{s:Shared}
theorem g9 (x y:PySem.Str)(i j:Int)(t u v z:Tok)(hi:0≤i)(hj:0≤j)(hl:j≤x.length):Gives («str.find» ⟨[.str x t,.str y u,.int i v,.int j z],[]⟩) (.int (ey x y i.toNat j.toNat)):=by
 show Gives (match occurrences x y (max 0 (if i<0 then i+x.length else i)).toNat (min (max 0 (if j<0 then j+x.length else j)).toNat x.length) 1 with|k::_=>retInt k | []=>(do rule "str.find.not-found";retInt (-1))) _
 rw[if_neg (by exact Om.o20 hi),if_neg (by exact Om.o20 hj),show max 0 i=i by exact Om.o19 hi,show max 0 j=j by exact Om.o19 hj,show min j.toNat x.length=j.toNat by exact Om.o18 hl]
 unfold ey
 cases occurrences x y i.toNat j.toNat 1 with
 |nil=>exact .rule (.of_eq rfl)
 |cons k _=>exact .of_eq rfl
theorem gX (x y:PySem.Str)(i j:Int)(t u v z:Tok)(hi:0≤i)(hj:0≤j)(hl:j≤x.length):Gives («str.rfind» ⟨[.str x t,.str y u,.int i v,.int j z],[]⟩) (.int (cP x y i.toNat j.toNat)):=by
 show Gives (match lastOccurrence x y (max 0 (if i<0 then i+x.length else i)).toNat (min (max 0 (if j<0 then j+x.length else j)).toNat x.length) with|some k=>retInt k|none=>(do rule "str.rfind.not-found";retInt (-1))) _
 rw[if_neg (by exact Om.o20 hi),if_neg (by exact Om.o20 hj),show max 0 i=i by exact Om.o19 hi,show max 0 j=j by exact Om.o19 hj,show min j.toNat x.length=j.toNat by exact Om.o18 hl]
 unfold cP
 cases lastOccurrence x y i.toNat j.toNat with
 |none=>exact .rule (.of_eq rfl)
 |some k=>exact .of_eq rfl
theorem rx {vs:List V}{f:PySem.Str→Int→Option Int→Prop}(h:uU vs f):∃y i,(∃j,f y i (some j)∧vs=[.d (.str y),.d (.int i),.d (.int j)])∨(f y i none∧vs=[.d (.str y),.d (.int i)]):=by
 cases vs with
 |nil=>exact h.elim
 |cons u r=>
  obtain⟨y,rfl,h1⟩:=cy h
  cases r with
  |nil=>exact h1.elim
  |cons v r=>
   obtain⟨i,rfl,h2⟩:=b9 h1
   cases r with
   |nil=>exact⟨y,i,.inr ⟨h2,rfl⟩⟩
   |cons t r=>
    obtain⟨j,rfl,h3⟩:=b9 h2
    cases r with
    |nil=>exact⟨y,i,.inl ⟨j,h3,rfl⟩⟩
    |cons _ _=>exact h3.elim
noncomputable def Mn.sid:Mn→String
 | .find=>"str.find"
 | .rfind=>"str.rfind"
 |_=>""
noncomputable def Mn.isS:Mn→Bool
 | .find | .rfind=>true
 |_=>false
theorem qo {m:Mn}(hm:m.isS=true){x:PySem.Str}{t:Tok}{pl:Sem Bool}{Q:Value×List Value→Shared→Prop}{E:Value→Shared→Prop}(h:Q (.builtin m.sid,[.str x t]) s):wpAny (model prog w) A (getMethod (.str x t) m.nm pl) Q E s:=by
 cases m with
 |find=>exact GM.find h
 |rfind=>exact GM.rfind h
 |_=>contradiction
theorem IsVs.uncons {h:Heap}{v:V}{vs:List V}{ws:List Value}(i:IsVs c α h (v::vs) ws):∃w ws',ws=w::ws'∧IsV c α h v w∧IsVs c α h vs ws':=i.inv
theorem mj (F:Fst hb pr env l c α s.heap){m:Mn}{x:PySem.Str}{t:Tok}{vs:List V}{ws:List Value}{K:V→aa→Prop}(h:m3 m x vs c K)(iv:IsVs c α s.heap vs ws){Q:Value→Shared→Prop}
  (hq:∀v c' α' g h' tk,K v c'→Fst hb pr env l c' α' h'→Le c α s.heap c' α' h'→IsV c' α' h' v g→Q g {s with heap:=h',toks:=tk}):wpAny (model prog w) A (call (.builtin m.sid) (.str x t::ws)) Q no s:=by
 have rf:=Le.refl c α s.heap
 obtain⟨y,i,⟨j,h,rfl⟩|⟨h,rfl⟩⟩:=rx h
 ·obtain⟨⟨h1,h2,h3⟩,h⟩:=h
  obtain⟨u,us,rfl,i1,ir⟩:=iv.uncons
  obtain⟨v,v',rfl,i2,i3⟩:=ir.two
  obtain⟨_,rfl⟩:=IsD.inv i1
  obtain⟨_,rfl⟩:=IsD.inv i2
  obtain⟨_,rfl⟩:=IsD.inv i3
  cases m with
  |find=>exact call_gives PySem.F.slot_str_find (typeIs_str _ _ _) PySem.F.entry_str_find (PySem.F.args_str_find_4 _ _ _ _) (g9 x y i j t _ _ _ h1 h2 h3) (hq _ c α _ s.heap _ h F rf (.int _ _))
  |rfind=>exact call_gives PySem.F.slot_str_rfind (typeIs_str _ _ _) PySem.F.entry_str_rfind (PySem.F.args_str_rfind_4 _ _ _ _) (gX x y i j t _ _ _ h1 h2 h3) (hq _ c α _ s.heap _ h F rf (.int _ _))
  |_=>exact h.elim
 ·obtain⟨w,w',rfl,i1,i2⟩:=iv.two
  obtain⟨_,rfl⟩:=IsD.inv i1
  obtain⟨_,rfl⟩:=IsD.inv i2
  cases m with
  |find=>exact SC.find3 (hq _ c α _ s.heap _ h F rf (.int _ _))
  |_=>exact h.elim
noncomputable def Mn.lid:Mn→String
 | .append=>"list.append"
 | .pop=>"list.pop"
 |_=>""
noncomputable def Mn.isLi:Mn→Bool
 | .append | .pop=>true
 |_=>false
theorem kJ {M:Model}{v:Value}{pl:Sem Bool}{Q:Value×List Value→Shared→Prop}{E:Value→Shared→Prop}(hT:s.TypeIs v "list") (hd:∀a,v=.ref a→∃o,s.heap.get? a=some o∧o.dict=none) (h:Q (.builtin "list.append",[v]) s) :
  wpAny M A (getMethod v "append" pl) Q E s:=by
 with_reducible exact getMethod_builtin hT PySem.F.plainAttrs_list PySem.F.slot_list_append PySem.F.type_list_append hd h
theorem sq {M:Model}{v:Value}{pl:Sem Bool}{Q:Value×List Value→Shared→Prop}{E:Value→Shared→Prop}(hT:s.TypeIs v "list") (hd:∀a,v=.ref a→∃o,s.heap.get? a=some o∧o.dict=none) (h:Q (.builtin "list.pop",[v]) s) :
  wpAny M A (getMethod v "pop" pl) Q E s:=by
 with_reducible exact getMethod_builtin hT PySem.F.plainAttrs_list PySem.F.slot_list_pop PySem.F.type_list_pop hd h
theorem qZ {m:Mn}(hm:m.isLi=true){a:Addr}{ws:List Value}{ep:Nat}(ha:s.heap.get? a=some (bc "list" ws ep)) {pl:Sem Bool} {Q:Value×List Value→Shared→Prop} {E:Value→Shared→Prop} (h:Q (.builtin m.lid,[.ref a]) s) :
  wpAny (model prog w) A (getMethod (.ref a) m.nm pl) Q E s:=by
 have hT:s.TypeIs (.ref a) "list":=⟨_,ha,rfl⟩
 cases m with
 |append=>exact kJ hT (fun _ e=>by (injection e with e;subst e);exact⟨_,ha,rfl⟩) h
 |pop=>exact sq hT (fun _ e=>by (injection e with e;subst e);exact⟨_,ha,rfl⟩) h
 |_=>contradiction
theorem vP (F:Fst hb pr env l c α s.heap){k:Nat}(hkm:k∈dom c){d:D}{r:List D}{u0:Value}{us':List Value}{ep:Nat}(gk:s.heap.get? (α k)=some (bc "list" (u0::us') ep)) (hlen:(d::r).length≤big) (i0:IsD s.heap (aE c α) d u0) (r0:IsDs s.heap (aE c α) r us') {t:Tok} {Q:Value→Shared→Prop}
  (hq:∀{h'},Fst hb pr env l (cset c k (.list r)) α h'→Le c α s.heap (cset c k (.list r)) α h'→IsD h' (aE (cset c k (.list r)) α) d u0→Q u0 {s with heap:=h'}):wpAny (model prog w) A (call (.builtin "list.pop") [.ref (α k),.int 0 t]) Q no s:=by
 have hsz:(u0::us').toArray.size≤sizeLine:=aJ (Nat.le_trans (Nat.le_of_eq (congrArg Nat.succ r0.length.symm)) hlen)
 refine call_meets PySem.F.slot_list_pop ⟨_,gk,rfl⟩ PySem.F.entry_list_pop (PySem.F.args_list_pop_2 _ _) (PySem.MeetsSeq.list_pop_at (α k) (u0::us').toArray ep 0 _ 0 u0 (by decide) (by rw[List.size_toArray];simp[seqIndex?]) (by simp) hsz) ⟨gk,?_⟩
 have g8:(s.heap.update (α k) (Obj.mapSeq fun xs=>xs.eraseIdxIfInBounds 0)).get? (α k)=some (bc "list" us' (ep+1)):=by
  rw[Heap.get?_update_self _ gk (by rfl)]
  simp[Obj.mapSeq]
 obtain⟨F8,L8⟩:=F.set hkm (o:=.list r) (Heap.SameBut.update s.heap (α k) (Obj.mapSeq fun xs=>xs.eraseIdxIfInBounds 0)) (fun L=>⟨us',ep+1,g8,L.isDs r0⟩)
 exact hq F8 L8 (L8.isD i0)
theorem lN (F:Fst hb pr env l c α s.heap){m:Mn}{k:Nat}{xs:List D}(hk:ae c k=some (.list xs)){vs:List V}{ws:List Value}{K:V→aa→Prop}(h:nx m k xs vs c K)(iv:IsVs c α s.heap vs ws){Q:Value→Shared→Prop}
  (hq:∀v c' α' g h' tk,K v c'→Fst hb pr env l c' α' h'→Le c α s.heap c' α' h'→IsV c' α' h' v g→Q g {s with heap:=h',toks:=tk}):wpAny (model prog w) A (call (.builtin m.lid) (.ref (α k)::ws)) Q no s:=by
 obtain⟨us,ep,gk,rk⟩:=F.toCst.cell k _ hk
 have hkm:=al hk
 cases m with
 |append=>
  obtain⟨v,rfl,h1⟩:=gG h
  obtain⟨d,rfl,h2⟩:=cL h1
  obtain⟨w,rfl,i⟩:=iv.one
  refine wpAny_list_append_plain (items:=us.toArray) ⟨ep,gk⟩ (fun h8 hl8 hs8=>?_) (by rw[List.size_toArray,←rk.length];exact aJ h2.1)
  obtain⟨F8,L8⟩:=F.set hkm (o:=.list _) hs8 (fun L=>by
   obtain⟨ep8,g8⟩:=hl8
   refine⟨us++[w],ep8,by rw[g8];simp,(IsDs.append (.cons (L.isD i) .nil) (L.isDs rk))⟩)
  exact hq _ _ _ _ _ s.toks h2.2 F8 L8 .none
 |pop=>
  obtain⟨v,rfl,h1⟩:=gG h
  obtain⟨n,rfl,rfl,hlen,d,r,rfl,hK⟩:=b9 h1
  obtain⟨w,rfl,i⟩:=iv.one
  obtain⟨t,rfl⟩:=IsD.inv i
  obtain⟨u0,us',rfl,i0,r0⟩:=rk.inv
  exact vP F hkm gk hlen i0 r0 fun F8 L8 i=>hq _ _ _ _ _ s.toks hK F8 L8 i
 |_=>exact h.elim
theorem iz:Slot "re.Match" "end" "re.Match.end":=
 .of (owner:="re.Match") (n:="end") (by rw[typeLookup_type,builtinLookup_eq_fast];kernel_rfl) (by decide +kernel) (by decide +kernel) (by decide +kernel)
  (by first|exact .inl (by decide +kernel)|exact .inr (by decide +kernel)) (by rw[isSubtype_type];kernel_rfl)
theorem oG:typeOf (.builtin "re.Match.end")=pure (.type "method_descriptor"):=by show builtinType _=_;rw[builtinType_eq_fast];kernel_rfl
theorem mH:entryFor table "re.Match.end"=some Builtin.«re.Match.end»:=entryFor_of_tree (by kernel_rfl)
theorem oF (a:Value):argsOk "re.Match.end" ⟨[a],[]⟩:=by unfold argsOk;kernel_rfl
theorem ly:PlainAttrs "re.Match":=⟨⟨"object.__getattribute__",by rw[typeLookup_type,builtinLookup_eq_fast];kernel_rfl,by decide +kernel⟩,by rw[typeLookup_type,builtinLookup_eq_fast];kernel_rfl⟩
theorem qm {M:Model}{r:Addr}{e:Int}{own:Addr→Prop}(m:IsM s.heap own r e){pl:Sem Bool}{Q:Value×List Value→Shared→Prop}{E:Value→Shared→Prop}(h:Q (.builtin "re.Match.end",[.ref r]) s) :
  wpAny M A (getMethod (.ref r) "end" pl) Q E s:=by
 obtain⟨fs,tup,i,ep,g1,_⟩:=m.ob
 have hT:s.TypeIs (.ref r) "re.Match":=⟨_,g1,rfl⟩
 with_reducible exact getMethod_builtin hT ly iz oG (fun a q=>by (injection q with q;subst q);exact⟨_,g1,rfl⟩) h
theorem wj {r:Addr}{e:Int}{own:Addr→Prop}(m:IsM s.heap own r e){Q:Value→Shared→Prop}{E:Value→Shared→Prop}(h:∀t tk,Q (.int e t) {s with toks:=tk}):wpAny (model prog w) A (call (.builtin "re.Match.end") [.ref r]) Q E s:=by
 obtain⟨fs,tup,i,ep,g1,g2,g3,_⟩:=m.ob
 refine wpAny_call_entry iz ⟨_,g1,rfl⟩ mH ?_ (oF _)
 unfold Builtin.«re.Match.end» Re.reOneGroup
 refine wpAny_bind (wpAny_bind (wpAny_of_eq (a:=(.ref r,[])) rfl ?_))
 unfold Re.reFound
 refine wpAny_bind (wpAny_bind (wpAny_fieldsOf g1 rfl ?_))
 rw[g2]
 refine wpAny_bind ?_
 show wpAny _ _ (seqItems? (.ref tup)>>=fun o=>pure ((o.getD #[]).map Re.reRawOf)) _ _ _
 refine wpAny_bind (wpAny_seqItems g3 rfl (wpAny_pure (wpAny_pure (wpAny_pure ?_))))
 have e1:(#[Value.int i 0,Value.int e 0].map Re.reRawOf).getD 1 (-1)=e:=by simp[Re.reRawOf]
 refine wpAny_bind (wpAny_mkInt (wpAny_pure ⟨_,rfl,?_⟩))
 show Q (.int ((#[Value.int i 0,Value.int e 0].map Re.reRawOf).getD 1 (-1)) s.toks) _
 rw[e1];exact h s.toks (s.toks+1)
end
end Mine
end
section
namespace Mine
open PySem PyProof.Rows PySem.W
inductive IE where
 |c (d:D)|v (i:Nat)|g (u:V)
 |bin (op:Operator) (a b:IE)
 |cmp (op:CmpOp) (a b:IE)
 |not (a:IE)
 |and (a b:IE)|or (a b:IE)
 |ite (t a b:IE)
 |item (a i:IE)
 |slice (a lo hi:IE)
 |attr (a:IE) (nm:Str)
 |bnd (a:IE) (k:Nat)
 |tup (es:List IE)|lst (es:List IE) (k:Option Nat)
 |call (f:IE) (es:List IE) (k:Option Nat)
 |meth (o:IE) (m:Mn) (es:List IE)
 |umeth (o:IE) (f:Addr) (nm:Str) (es:List IE)
 |make (C:Addr) (es:List IE) (k dk:Nat)
 |repl (o:IE) (y z:Str)
 |trans (o:IE) (d:Addr)
 |comp (elt iter:IE) (test:Option IE) (frees:List Nat) (kk:Nat)
inductive IS where
 |asg (i:Nat) (e:IE)
 |asg2 (i j:Nat) (e:IE)
 |asgA2 (o:IE) (nm:Str) (j:Nat) (e:IE)
 |asgA (o:IE) (nm:Str) (e:IE)
 |asgC (i:Nat) (e:IE)
 |unp2 (i j:Nat) (a b:IE)
 |unpT (i j:Nat) (e:IE)
 |unpA (o1:IE) (n1:Str) (o2:IE) (n2:Str) (a b:IE)
 |del_ (a:IE) (i:IE)
 |if_ (t:IE) (a b:List IS)
 |while_ (t:IE) (a b:List IS)
 |for_ (i:Nat) (it:IE) (a:List IS)
 |ret (e:Option IE)
 |assert (t:IE)
 |expr (e:IE)
 |cont|brk
structure Tb where
 names:List Str
 kinds:List (Str×NameKind)
 G:Str→Option V
 cell:Pos→Option Nat
 mak:Str→Pos→Option (Addr×Nat×Nat)
 meth:Str→Option Addr
noncomputable def aL:List Str→Str→Option Nat
 | [],_=>none
 |y::r,x=>if y=x then some 0 else (aL r x).map (·+1)
noncomputable def gU (x:Str):Bool:=!(x==("__debug__":Str))&&!(x==("__classdict__":Str))
noncomputable def gB (T:Tb)(x:Str):Option IE:=
 if gU x then (match aL T.names x with
  |some i=>some (.v i)
  |none=>if T.kinds.lookup x=some .globalImplicit then (T.G x).map .g else none) else none
noncomputable def wm (nm:Str):Option Mn:=[Mn.find,.rfind,.end_,.append,.pop].find? fun m=>nm==m.nm
noncomputable def bH (es:List Expr):Bool:=es.all fun e=>!cC e
noncomputable def eQ (T:Tb)(x:Str)(scope:Scope):Option (List Str×List Nat):=
 let fs:=(scope.names.filter fun p=>p.2==.free).map (·.1)
 (fs.mapM (aL T.names)).map fun is=>(fs,is)
noncomputable def dR (T:Tb)(x:Str)(scope:Scope):Bool:=
 (scope.names.all fun p=>p.2 != .cell)&&scope.kind==.function&&(scope.names.all fun p=>p.2 != .local||scope.names.lookup p.1==some .local)&&scope.names.lookup x==some .local &&
 (scope.names.all fun p=>p.2 != .free||(T.kinds.lookup p.1==some .cell&&scope.names.lookup p.1==some .free)) &&
 decide ((x::(scope.names.filter fun p=>p.2==.free).map (·.1)).Nodup)
noncomputable def eA (e:Expr):Bool:=fk e
noncomputable def qK:Const→Option IE
 | .int i=>some (.c (.int i))
 | .str x=>some (.c (.str x))
 | .bool b=>some (.c (.bool b))
 | .none=>some (.c .none)
 |_=>none
noncomputable def vV (a:Expr):Option IE:=match fX a with
 |some (.int i)=>some (.c (.int (-i)))
 |_=>none
noncomputable def unE (f:Expr→Option IE)(op:UnaryOp)(a:Expr):Option IE:=match op with
 | .Not=>do return .not (←f a)
 | .USub=>vV a
 |_=>none
noncomputable def mS (f:Expr→Option IE)(op:BoolOp):List Expr→Option IE
 | []=>none
 |a::r=>match r with
  | []=>f a
  |_::_=>match op with
   | .And=>do return .and (←f a) (←mS f op r)
   | .Or=>do return .or (←f a) (←mS f op r)
noncomputable def vk (f:Expr→Option IE)(op:BoolOp)(es:List Expr):Option IE:=match es with
 |_::_::_=>mS f op es
 |_=>none
noncomputable def yE (f:Expr→Option IE)(T:Tb)(a:Expr)(ops:List CmpOp)(bs:List Expr):Option IE:=match ops,bs with
 | [op],[b]=>if fk b then do return .cmp op (←f a) (←f b) else none
 |_,_=>none
noncomputable def vM (f:Expr→Option IE):Option Expr→Option IE
 |none=>some (.c .none)
 |some e=>f e
noncomputable def xq (f:Expr→Option IE)(T:Tb)(a i:Expr):Option IE:=
 if cX i then (do return .item (←f a) (←f i))
 else match ml i with
  |some (lo,hi,none)=>do return .slice (←f a) (←vM f lo) (←vM f hi)
  |_=>none
noncomputable def ss (f:Expr→Option IE)(T:Tb)(a:Expr)(nm:Str)(pos:Pos):Option IE:=
 if bj a then (if nm=Mn.append.nm then do return .bnd (←f a) (←T.cell pos) else do return .attr (←f a) nm) else none
noncomputable def ej (f:Expr→Option IE):List Expr→Option (List IE)
 | []=>some []
 |e::r=>do return (←f e)::(←ej f r)
noncomputable def two (args:List Expr):Option (Expr×Expr):=match args with
 | [a,b]=>some (a,b)
 |_=>none
noncomputable def one (args:List Expr):Option Expr:=match args with
 | [a]=>some a
 |_=>none
noncomputable def pn (a:Expr):Option Str:=match fX a with
 |some (.str x)=>some x
 |_=>none
noncomputable def zA (e:IE):Option Value:=match e with
 | .g u=>(match u with
  | .val w=>some w
  |_=>none)
 |_=>none
noncomputable def xj (e:IE):Option Addr:=zA e>>=we
theorem ny {e:IE}{a:Addr}(h:xj e=some a):e=.g (.val (.ref a)):=by
 cases e with
 |g u=>cases u with
  |val w=>exact congrArg (fun w=>IE.g (.val w)) (jg h)
  |_=>contradiction
 |_=>contradiction
noncomputable def rN (f:Expr→Option IE)(T:Tb)(o:Expr)(nm:Str)(args:List Expr):Option IE:=
 if nm=Str.ofString "replace" then (do
  let (a,b) ←two args
  let y ←pn a
  let z ←pn b
  return .repl (←f o) y z)
 else if nm=Str.ofString "translate" then (do
  let (t,_) ←bZ (←one args)
  let n ←gB T t
  let d ←xj n
  return .trans (←f o) d)
 else match wm nm with
  |some m=>do return .meth (←f o) m (←ej f args)
  |none=>do return .umeth (←f o) (←T.meth nm) nm (←ej f args)
noncomputable def fnE (f:Expr→Option IE)(T:Tb)(x:Str)(args:List Expr)(pos:Pos):Option IE:=match T.mak x pos with
 |some (C,k,dk)=>(do
  let n ←gB T x
  let C' ←xj n
  if C'=C then do return .make C (←ej f args) k dk else none)
 |none=>do return .call (←gB T x) (←ej f args) (T.cell pos)
noncomputable def pI (f:Expr→Option IE)(T:Tb)(g:Expr)(args:List Expr)(kws:List Keyword)(pos:Pos):Option IE:=
 if kws.isEmpty&&bH args then (match ed g with
  |some (o,nm,apos)=>if bj o&&decide (args.length<30)&&(apos.endLine==pos.line) then rN f T o nm args else none
  |none=>match bZ g with
   |some (x,_)=>fnE f T x args pos
   |none=>none)
 else none
noncomputable def ii (T:Tb)(x:Str)(fs:List Str)(scope:Scope):Tb:={T with names:=x::fs,kinds:=scope.names}
noncomputable def lcE (f:Tb→Expr→Option IE)(T:Tb)(elt:Expr)(gs:List Comprehension)(scope:Scope)(pos:Pos):Option IE:=match gs with
 | [g]=>do
  let (x,_) ←bZ g.target
  if g.is_async==0&&dR T x scope&&eA g.iter&&gU x then do
   let (fs,is) ←eQ T x scope
   let k ←T.cell pos
   let e ←f (ii T x fs scope) elt
   let it ←f T g.iter
   match g.ifs with
   | []=>some (.comp e it none is k)
   |t::r=>if r.isEmpty then do return .comp e it (some (←f (ii T x fs scope) t)) is k else none
  else none
 |_=>none
noncomputable def aF:Nat→Tb→Expr→Option IE
 |0,_,_=>none
 |n+1,T,e=>match e with
  | .Constant k _ _=>qK k
  | .Name x _=>gB T x
  | .BinOp a op b _=>do return .bin op (←aF n T a) (←aF n T b)
  | .UnaryOp op a _=>unE (aF n T) op a
  | .BoolOp op es _=>vk (aF n T) op es
  | .Compare a ops bs _=>yE (aF n T) T a ops bs
  | .Subscript a i _=>xq (aF n T) T a i
  | .Attribute a nm pos=>ss (aF n T) T a nm pos
  | .Tuple es _ _=>if bH es then do return .tup (←ej (aF n T) es) else none
  | .List es pos=>if bH es then do return .lst (←ej (aF n T) es) (T.cell pos) else none
  | .IfExp t a b _=>do return .ite (←aF n T t) (←aF n T a) (←aF n T b)
  | .Call g args kws pos=>pI (aF n T) T g args kws pos
  | .ListComp elt gs scope pos=>lcE (aF n) T elt gs scope pos
  |_=>none
noncomputable def nw (T:Tb)(x:Str):Bool:=T.kinds.lookup x==some .local||T.kinds.lookup x==some .cell
noncomputable def bm (T:Tb)(x:Str):Option Nat:=if nw T x then aL T.names x else none
noncomputable def ic (T:Tb)(x:Str)(pos':Pos)(value:Expr):Bool:=match lcP value with
 |some k=>T.kinds.lookup x==some .local&&pos'.line==k.2.line&&!(k.1.names.any fun (n,k)=>n==x&&(k==.local||k==.cell))
 |none=>false
noncomputable def ke (T:Tb)(x:Str)(px:Pos)(y:Str)(py:Pos)(a b:Expr):Bool:=
 T.kinds.lookup x==some .local&&T.kinds.lookup y==some .local&&py.line==px.line&&!(x==y)&&!cC a&&!cC b&&!([a,b].all (foldedForSure 8))&&!([a,b].all (constantsAlone 8))
noncomputable def qd (f:Expr→Option IE)(T:Tb)(x:Str)(px:Pos)(y:Str)(py:Pos)(value:Expr):Option IS:=match pB value with
 |some vs=>two vs>>=fun r=>if ke T x px y py r.1 r.2 then (do return .unp2 (←bm T x) (←bm T y) (←f r.1) (←f r.2)) else none
 |none=>if bt value then none else do return .unpT (←bm T x) (←bm T y) (←f value)
noncomputable def qD (f:Expr→Option IE)(o1:Expr)(n1:Str)(o2:Expr)(n2:Str)(value:Expr):Option IS:=
 pB value>>=fun vs=>two vs>>=fun r=>if bH [r.1,r.2] then (do return .unpA (←f o1) n1 (←f o2) n2 (←f r.1) (←f r.2)) else none
noncomputable def xr (f:Expr→Option IE)(T:Tb)(t value:Expr):Option IS:=
 pB t>>=fun es=>two es>>=fun q=>match bZ q.1 with
  |some q1=>bZ q.2>>=fun q2=>qd f T q1.1 q1.2 q2.1 q2.2 value
  |none=>ed q.1>>=fun q1=>ed q.2>>=fun q2=>qD f q1.1 q1.2.1 q2.1 q2.2.1 value
noncomputable def vC (f:Expr→Option IE)(T:Tb)(t value:Expr):Option IS:=match bZ t with
 |some (x,p')=>if bt value then (if ic T x p' value then do return .asgC (←bm T x) (←f value) else none) else do return .asg (←bm T x) (←f value)
 |none=>match ed t with
  |some (o,nm,_)=>if bt value then none else do return .asgA (←f o) nm (←f value)
  |none=>xr f T t value
noncomputable def asg2 (f:Expr→Option IE)(T:Tb)(t1 t2 value:Expr):Option IS:=do
 let (y,_) ←bZ t2
 if bt value then none else match bZ t1 with
  |some (x,_)=>do return .asg2 (←bm T x) (←bm T y) (←f value)
  |none=>do
   let (o,nm,_) ←ed t1
   return .asgA2 (←f o) nm (←bm T y) (←f value)
noncomputable def yF (f:Expr→Option IE)(T:Tb)(ts:List Expr)(value:Expr):Option IS:=match ts with
 | [t]=>vC f T t value
 | [t1,t2]=>asg2 f T t1 t2 value
 |_=>none
noncomputable def yj (f:Expr→Option IE)(g:List Stmt→Option (List IS))(T:Tb)(t it:Expr)(a b:List Stmt):Option IS:=do
 let (x,_) ←bZ t
 if b.isEmpty&&eA it then do return .for_ (←bm T x) (←f it) (←g a) else none
noncomputable def vA (f:Expr→Option IE)(ts:List Expr):Option IS:=
 one ts>>=fun t=>yp t>>=fun q=>do return .del_ (←f q.1) (←f q.2)
noncomputable def xZ (f:Expr→Option IE):Option Expr→Option IS
 |none=>some (.ret none)
 |some e=>do return .ret (some (←f e))
mutual
noncomputable def vl:Nat→Tb→Stmt→Option IS
 |0,_,_=>none
 |n+1,T,st=>match st with
  | .Assign ts value _=>yF (aF n T) T ts value
  | .If t a b _=>do return .if_ (←aF n T t) (←bF n T a) (←bF n T b)
  | .While t a b _=>do return .while_ (←aF n T t) (←bF n T a) (←bF n T b)
  | .For t it a b _=>yj (aF n T) (bF n T) T t it a b
  | .Return e _=>xZ (aF n T) e
  | .Delete ts _=>vA (aF n T) ts
  | .Assert t m _=>if m.isNone then do return .assert (←aF n T t) else none
  | .Expr e _=>if bt e then none else do return .expr (←aF n T e)
  | .Continue _=>some .cont
  | .Break _=>some .brk
  |_=>none
noncomputable def bF:Nat→Tb→List Stmt→Option (List IS)
 |0,_,_=>none
 |_+1,_,[]=>some []
 |n+1,T,st::r=>do return (←vl n T st)::(←bF n T r)
end
noncomputable abbrev Sl:=List (Option V)
noncomputable def aM (l:Sl)(i:Nat):Option V:=match l[i]? with
 |some o=>o
 |none=>none
structure Pm where
 C:Addr
 attr:Str→Bool
 fn:Addr→Spec
 isFn:Addr→Bool
 init:Addr
 td:Addr
 tr:Nat→Nat
def eT (c c':aa):Prop:=∀k∈dom c,k∈dom c'
noncomputable def asD:V→Option D
 | .d x=>some x
 |_=>none
noncomputable def j0:List V→Option (List D)
 | []=>some []
 | .d x::r=>(j0 r).map (x::·)
 |_::_=>none
def yU (P:Pm)(c:aa)(a:Addr)(vs:List V)(K:V→aa→Prop):Prop:=P.isFn a=true∧P.fn a vs c (fun v c'=>eT c c'∧K v c')
def xT (c:aa)(j:Nat)(vs:List V)(K:V→aa→Prop):Prop:=eP (ae c j) fun id g=>id="list.append"∧v1 vs fun v=>onD v fun d=>cz (ae c g) fun xs=>xs.length≤big∧K (.d .none) (cset c g (.list (xs++[d])))
def eg (P:Pm)(c:aa)(k:Option Nat)(u:V)(vs:List V)(K:V→aa→Prop):Prop:=match u with
 | .bi b=>biK c k b vs K
 | .val w=>aw (we w) fun a=>yU P c a vs K
 | .obj j=>xT c j vs K
 |_=>False
def nh (c:aa)(u:V)(m:Mn)(vs:List V)(K:V→aa→Prop):Prop:=match u with
 | .d x=>sD x fun x=>m.isS=true∧m3 m x vs c K
 | .obj k=>m.isLi=true∧cz (ae c k) fun xs=>nx m k xs vs c K
 | .mt e=>m=.end_∧vs=[]∧K (.d (.int e)) c
 |_=>False
noncomputable def ye:Mn→Bool
 | .end_=>true
 |_=>false
def dM (c:aa)(u:V)(m:Mn):Prop:=match u with
 | .d x=>sD x fun _=>m.isS=true
 | .obj k=>m.isLi=true∧cz (ae c k) fun _=>True
 | .mt _=>ye m=true
 |_=>False
def gy (P:Pm)(c:aa)(u:V)(K:List (Str×V)→Prop):Prop:=gF u fun k=>er (ae c k) fun C dk=>C=P.C∧xf (ae c dk) K
def yT (rE:IE→Sl→aa→(V→aa→Prop)→Prop)(rT:IE→Sl→aa→(Bool→aa→Prop)→Prop)(elt:IE)(l:Sl)(c:aa)(Y:V→aa→Prop)(N:aa→Prop):Option IE→Prop
 |none=>rE elt l c Y
 |some t=>rT t l c fun r c2=>(r=true→rE elt l c2 Y)∧(r=false→N c2)
def lc (rE:IE→Sl→aa→(V→aa→Prop)→Prop)(rT:IE→Sl→aa→(Bool→aa→Prop)→Prop)(elt:IE)(test:Option IE)(fr:Sl)(kk:Nat)(K:V→aa→Prop)(v:V)(c1:aa):Prop:=
 fo v∧∃xs,cx v=some xs∧xs.length≤big∧kk∉dom c1∧∃I:Nat→List D→aa→Prop,I 0 [] c1∧
  (∀i d acc c',xs[i]?=some d→I i acc c'→kk∉dom c'∧
   yT rE rT elt (some (.d d)::fr) (c'++[(kk,.list acc)]) (fun v c3=>∃d' c4,v=.d d'∧c3=c4++[(kk,.list acc)]∧kk∉dom c4∧I (i+1) (acc++[d']) c4) (fun c2=>∃c4,c2=c4++[(kk,.list acc)]∧kk∉dom c4∧I (i+1) acc c4) test)∧
  (∀acc c',I xs.length acc c'→kk∉dom c'∧bY (c'++[(kk,.list acc)]) c' c'∧K (.d (.lst acc)) c')
theorem mI {rE:IE→Sl→aa→(V→aa→Prop)→Prop}{rT:IE→Sl→aa→(Bool→aa→Prop)→Prop}{elt:IE}{test:Option IE}{fr:Sl}{kk:Nat}{K K':V→aa→Prop}{v:V}{c1:aa}(h:lc rE rT elt test fr kk K v c1)(hK:∀v c,K v c→K' v c):lc rE rT elt test fr kk K' v c1:=by
 obtain⟨a1,xs,a2,a3,a4,I,a5,a6,a7⟩:=h
 exact⟨a1,xs,a2,a3,a4,I,a5,a6,fun acc c q=>⟨(a7 acc c q).1,(a7 acc c q).2.1,hK _ _ (a7 acc c q).2.2⟩⟩
def wE1 (P:Pm)(rE:IE→Sl→aa→(V→aa→Prop)→Prop)(rT:IE→Sl→aa→(Bool→aa→Prop)→Prop)(rEs:List IE→Sl→aa→(List V→aa→Prop)→Prop)(e:IE)(l:Sl)(c:aa)(K:V→aa→Prop):Prop:=
 match e with
  | .c d=>K (.d d) c
  | .v i=>aw (aM l i) fun v=>K v c
  | .g u=>K u c
  | .bin op a b=>rE a l c fun u c1=>rE b l c1 fun v c2=>hF c2 op u v fun d=>K (.d d) c2
  | .cmp op a b=>rE a l c fun u c1=>rE b l c1 fun v c2=>e5 c2 op u v fun r=>K (.d (.bool r)) c2
  | .not a=>rE a l c fun u c1=>bJ c1 u fun r=>K (.d (.bool !r)) c1
  | .and a b=>rE a l c fun u c1=>bJ c1 u fun r=>(r=false→K u c1)∧(r=true→rE b l c1 K)
  | .or a b=>rE a l c fun u c1=>bJ c1 u fun r=>(r=true→K u c1)∧(r=false→rE b l c1 K)
  | .item a i=>rE a l c fun u c1=>rE i l c1 fun v c2=>ef c2 u v fun d=>K (.d d) c2
  | .slice a lo hi=>rE a l c fun u c1=>rE lo l c1 fun v c2=>rE hi l c2 fun w c3=>iW c3 u v w fun d=>K (.d d) c3
  | .attr a nm=>rE a l c fun u c1=>P.attr nm=true∧gy P c1 u fun fs=>aw (look fs nm) fun v=>iP v=true∧K v c1
  | .bnd a k=>rE a l c fun u c1=>gF u fun j=>cz (ae c1 j) fun _=>k∉dom c1∧K (.obj k) (c1++[(k,.bound "list.append" j)])
  | .tup es=>rEs es l c fun vs c1=>aw (j0 vs) fun ds=>ds.length≤big∧K (.d (.tup ds)) c1
  | .lst es k=>rEs es l c fun vs c1=>aw (j0 vs) fun ds=>ds.length≤big∧cf c1 k ds K
  | .call f es k=>rE f l c fun u c1=>rEs es l c1 fun vs c2=>eg P c2 k u vs K
  | .meth o m es=>rE o l c fun u c1=>dM c1 u m∧rEs es l c1 fun vs c2=>nh c2 u m vs K
  | .umeth o f nm es=>rE o l c fun u c1=>(gy P c1 u fun fs=>look fs nm=none)∧rEs es l c1 fun vs c2=>P.isFn f=true∧P.fn f (u::vs) c2 (fun v c3=>eT c2 c3∧K v c3)
  | .make C es _ _=>C=P.C∧rEs es l c fun vs c1=>∃k dk,k∉dom c1∧dk∉dom c1∧k≠dk∧P.fn P.init (.obj k::vs) (c1++[(dk,.ns [])]++[(k,.inst C dk)]) (fun v c2=>v=.d .none∧eT (c1++[(dk,.ns [])]++[(k,.inst C dk)]) c2∧K (.obj k) c2)
  | .repl o y z=>rE o l c fun u c1=>fw u fun x=>x.length≤big∧z.length≤14∧(y==z)=false∧K (.d (.str (Txt.replace x y z))) c1
  | .trans o d=>rE o l c fun u c1=>fw u fun x=>d=P.td∧(∀ch∈x.cps.toList,ch<128)∧x.length≤big∧K (.d (.str ⟨x.cps.map P.tr⟩)) c1
  | .comp elt iter test frees kk=>rE iter l c (lc rE rT elt test (frees.map (aM l)) kk K)
  | .ite t a b=>rT t l c fun r c1=>(r=true→rE a l c1 K)∧(r=false→rE b l c1 K)
def wT1 (rE:IE→Sl→aa→(V→aa→Prop)→Prop)(rT:IE→Sl→aa→(Bool→aa→Prop)→Prop)(e:IE)(l:Sl)(c:aa)(K:Bool→aa→Prop):Prop:=
 match e with
  | .cmp op a b=>rE a l c fun u c1=>rE b l c1 fun v c2=>e5 c2 op u v fun r=>K r c2
  | .not a=>rT a l c fun r c1=>K (!r) c1
  | .and a b=>rT a l c fun r c1=>(r=false→K false c1)∧(r=true→rT b l c1 K)
  | .or a b=>rT a l c fun r c1=>(r=true→K true c1)∧(r=false→rT b l c1 K)
  | .c ..=>False
  | .ite ..=>False
  |e=>rE e l c fun u c1=>bJ c1 u fun r=>K r c1
mutual
def wpE (P:Pm):Nat→IE→Sl→aa→(V→aa→Prop)→Prop
 |0,_,_,_,_=>False
 |n+1,e,l,c,K=>wE1 P (wpE P n) (wpT P n) (gT P n) e l c K
def wpT (P:Pm):Nat→IE→Sl→aa→(Bool→aa→Prop)→Prop
 |0,_,_,_,_=>False
 |n+1,e,l,c,K=>wT1 (wpE P n) (wpT P n) e l c K
def gT (P:Pm):Nat→List IE→Sl→aa→(List V→aa→Prop)→Prop
 |0,_,_,c,K=>False
 |n+1,es,l,c,K=>match es with
  | []=>K [] c
  |e::r=>wpE P n e l c fun v c1=>gT P n r l c1 fun vs c2=>K (v::vs) c2
end
structure Sg' where
 l:Sl
 c:aa
def slW (l:Sl)(c c':aa):Nat→Sl→Prop
 |_,[]=>True
 |i,none::r=>slW l c c' (i+1) r
 |i,some v'::r=>(∃v,aM l i=some v∧vW c c' v v')∧slW l c c' (i+1) r
structure Wk (pr:List Nat)(σ τ:Sg'):Prop where
 l:slW σ.l σ.c τ.c 0 τ.l
 len:τ.l.length=σ.l.length
 c:bY σ.c τ.c τ.c
 pr:∀k∈pr,k∈dom τ.c
def a8 (P:Pm)(c:aa)(u:V)(nm:Str)(v:V)(K:aa→Prop):Prop:=gF u fun k=>er (ae c k) fun C dk=>C=P.C∧P.attr nm=true∧xf (ae c dk) fun fs=>fs.length≤1000∧K (cset c dk (.ns (put fs nm v)))
def l2 {α:Type}(xs:List α)(K:α→α→Prop):Prop:=match xs with
 | []=>False
 |x::r=>(match r with
  | []=>False
  |y::r=>(match r with
   | []=>K x y
   |_::_=>False))
theorem xv {α:Type}{xs:List α}{K:α→α→Prop}(h:l2 xs K):∃x y,xs=[x,y]∧K x y:=by
 cases xs with
 |nil=>exact h.elim
 |cons x r=>cases r with
  |nil=>exact h.elim
  |cons y r=>cases r with
   |nil=>exact⟨x,y,rfl,h⟩
   |cons _ _=>exact h.elim
def qh (u:V)(K:D→D→Prop):Prop:=onD u fun x=>match x with
 | .tup xs=>l2 xs K
 |_=>False
def ur (c:aa)(u v:V)(K:aa→Prop):Prop:=gF u fun k=>fN v fun i=>i=-1∧cz (ae c k) fun xs=>xs≠[]∧xs.length≤big∧K (cset c k (.list xs.dropLast))
def wS1 (P:Pm)(pr:List Nat)(rE:IE→Sl→aa→(V→aa→Prop)→Prop)(rT:IE→Sl→aa→(Bool→aa→Prop)→Prop)(rB:List IS→Sg'→(F→Sg'→Prop)→Prop)(st:IS)(σ:Sg')(K:F→Sg'→Prop):Prop:=
 match st with
  | .asg i e=>rE e σ.l σ.c fun v c1=>K .next ⟨σ.l.set i (some v),c1⟩
  | .asgC i e=>rE e σ.l σ.c fun v c1=>K .next ⟨σ.l.set i (some v),c1⟩
  | .asg2 i j e=>rE e σ.l σ.c fun v c1=>K .next ⟨(σ.l.set i (some v)).set j (some v),c1⟩
  | .asgA o nm e=>rE e σ.l σ.c fun v c1=>rE o σ.l c1 fun u c2=>a8 P c2 u nm v fun c3=>K .next ⟨σ.l,c3⟩
  | .asgA2 o nm j e=>rE e σ.l σ.c fun v c1=>rE o σ.l c1 fun u c2=>a8 P c2 u nm v fun c3=>K .next ⟨σ.l.set j (some v),c3⟩
  | .unp2 i j a b=>rE a σ.l σ.c fun u c1=>rE b σ.l c1 fun v c2=>(∃x y,u=.d x∧v=.d y)∧K .next ⟨(σ.l.set j (some v)).set i (some u),c2⟩
  | .unpT i j e=>rE e σ.l σ.c fun u c1=>qh u fun x y=>K .next ⟨(σ.l.set i (some (.d x))).set j (some (.d y)),c1⟩
  | .unpA o1 n1 o2 n2 a b=>rE a σ.l σ.c fun u c1=>rE b σ.l c1 fun v c2=>dd u v fun x y=>rE o1 σ.l c2 fun u1 c3=>a8 P c3 u1 n1 (.d x) fun c4=>rE o2 σ.l c4 fun u2 c5=>a8 P c5 u2 n2 (.d y) fun c6=>K .next ⟨σ.l,c6⟩
  | .del_ a i=>rE a σ.l σ.c fun u c1=>rE i σ.l c1 fun v c2=>ur c2 u v fun c3=>K .next ⟨σ.l,c3⟩
  | .if_ t a b=>rT t σ.l σ.c fun r c1=>(r=true→rB a ⟨σ.l,c1⟩ K)∧(r=false→rB b ⟨σ.l,c1⟩ K)
  | .while_ t a b=>∃(I:Nat→Sg'→Prop) (k:Nat),I k σ∧∀k τ,I k τ→rT t τ.l τ.c fun r c1=>
    (r=true→rB a ⟨τ.l,c1⟩ fun f υ=>match f with
     | .next | .cont=>∃k' υ',k'<k∧Wk pr υ υ'∧I k' υ'
     | .brk=>K .next υ
     | .ret v=>K (.ret v) υ)∧(r=false→rB b ⟨τ.l,c1⟩ K)
  | .for_ i it a=>rE it σ.l σ.c fun v c1=>fo v∧∃xs,cx v=some xs∧∃I:Nat→Sg'→Prop,I 0 ⟨σ.l,c1⟩∧
    (∀j d τ,xs[j]?=some d→I j τ→i<τ.l.length∧rB a ⟨τ.l.set i (some (.d d)),τ.c⟩ fun f υ=>match f with
     | .next | .cont=>∃υ',Wk pr υ υ'∧I (j+1) υ'
     | .brk=>K .next υ
     | .ret v=>K (.ret v) υ)∧∀τ,I xs.length τ→K .next τ
  | .ret none=>K (.ret (.d .none)) σ
  | .ret (some e)=>rE e σ.l σ.c fun v c1=>K (.ret v) ⟨σ.l,c1⟩
  | .assert t=>rT t σ.l σ.c fun r c1=>r=true∧K .next ⟨σ.l,c1⟩
  | .expr e=>rE e σ.l σ.c fun v c1=>K .next ⟨σ.l,c1⟩
  | .cont=>K .cont σ
  | .brk=>K .brk σ
mutual
def wpS (P:Pm)(pr:List Nat):Nat→IS→Sg'→(F→Sg'→Prop)→Prop
 |0,_,_,_=>False
 |n+1,st,σ,K=>wS1 P pr (wpE P n) (wpT P n) (wpB P pr n) st σ K
def wpB (P:Pm)(pr:List Nat):Nat→List IS→Sg'→(F→Sg'→Prop)→Prop
 |0,_,_,_=>False
 |n+1,b,σ,K=>match b with
  | []=>K .next σ
  |st::r=>wpS P pr n st σ fun f τ=>match f with | .next=>wpB P pr n r τ K|f=>K f τ
end
noncomputable def ad:List Str→Sl→Loc
 |x::xs,some v::l=>(x,v)::ad xs l
 |_::xs,none::l=>ad xs l
 |_,_=>[]
theorem dQ {names:List Str}:∀(l:Sl) (x:Str),x∉names→look (ad names l) x=none:=by
 induction names with
 |nil=>intro l x _;cases l<;>rfl
 |cons y ys ih=>
  intro l x h
  have h1:y≠x:=fun e=>h (e▸.head _)
  have h2:x∉ys:=fun e=>h (.tail _ e)
  cases l with
  |nil=>rfl
  |cons o l=>
   cases o with
   |none=>exact ih l x h2
   |some v=>show (if y=x then _ else _)=_;rw[if_neg h1];exact ih l x h2
theorem lY {names:List Str}:∀{x:Str} {i:Nat},aL names x=some i→x∈names∧i<names.length:=by
 induction names with
 |nil=>intro x i h;contradiction
 |cons y ys ih=>
  intro x i h
  dsimp only[aL] at h
  by_cases e:y=x
  ·rw[if_pos e] at h;(injection h with h;subst h);exact⟨e▸.head _,by simp⟩
  ·rw[if_neg e] at h
   obtain⟨j,hj,rfl⟩:=Option.map_eq_some_iff.mp h
   obtain⟨h1,h2⟩:=ih hj
   exact⟨.tail _ h1,by simp;exact h2⟩
theorem fM {names:List Str}:∀{x:Str},aL names x=none→x∉names:=by
 induction names with
 |nil=>intro x _ h;simp at h
 |cons y ys ih=>
  intro x h hm
  dsimp only[aL] at h
  by_cases e:y=x
  ·rw[if_pos e] at h;contradiction
  ·rw[if_neg e] at h
   rcases List.mem_cons.mp hm with q|q
   ·exact e q.symm
   ·exact ih (Option.map_eq_none_iff.mp h) q
theorem cv {names:List Str}(nd:names.Nodup):∀(l:Sl) {x:Str} {i:Nat},aL names x=some i→look (ad names l) x=aM l i:=by
 induction names with
 |nil=>intro l x i h;contradiction
 |cons y ys ih=>
  intro l x i h
  obtain⟨hn,nd'⟩:=List.nodup_cons.mp nd
  dsimp only[aL] at h
  by_cases e:y=x
  ·rw[if_pos e] at h;(injection h with h;subst h)
   cases l with
   |nil=>rfl
   |cons o l=>
    cases o with
    |none=>show look (ad ys l) x=none;exact dQ l x (e▸hn)
    |some v=>show (if y=x then _ else _)=_;rw[if_pos e];rfl
  ·rw[if_neg e] at h
   obtain⟨j,hj,rfl⟩:=Option.map_eq_some_iff.mp h
   cases l with
   |nil=>rfl
   |cons o l=>
    have:=ih nd' l hj
    cases o with
    |none=>exact this
    |some v=>show (if y=x then _ else _)=_;rw[if_neg e];exact this
theorem rC (l:Sl)(i j:Nat)(v:Option V)(h:i<l.length):aM (l.set i v) j=if j=i then v else aM l j:=by
 unfold aM
 rw[List.getElem?_set]
 by_cases e:i=j
 ·subst e;simp[h]
 ·rw[if_neg e,if_neg (fun q=>e q.symm)]
theorem mw {names:List Str}:∀{x y:Str} {i:Nat},aL names x=some i→aL names y=some i→x=y:=by
 induction names with
 |nil=>intro x y i h;contradiction
 |cons z zs ih=>
  intro x y i h1 h2
  dsimp only[aL] at h1 h2
  by_cases e1:z=x<;>by_cases e2:z=y
  ·exact e1.symm.trans e2
  ·rw[if_pos e1] at h1;rw[if_neg e2] at h2;(injection h1 with h1;subst h1)
   obtain⟨j,_,q⟩:=Option.map_eq_some_iff.mp h2;contradiction
  ·rw[if_neg e1] at h1;rw[if_pos e2] at h2;(injection h2 with h2;subst h2)
   obtain⟨j,_,q⟩:=Option.map_eq_some_iff.mp h1;contradiction
  ·rw[if_neg e1] at h1;rw[if_neg e2] at h2
   obtain⟨j,hj,rfl⟩:=Option.map_eq_some_iff.mp h1
   obtain⟨j',hj',q⟩:=Option.map_eq_some_iff.mp h2
   (injection q with q;subst q);exact ih hj hj'
theorem gq {names:List Str}(nd:names.Nodup){l:Sl}(hl:l.length=names.length){x:Str}{i:Nat}(h:aL names x=some i)(v:V)(y:Str) :
  look (ad names (l.set i (some v))) y=look (put (ad names l) x v) y:=by
 rw[ah]
 obtain⟨hx,hi⟩:=lY h
 cases hy:aL names y with
 |none=>
  have hn:=fM hy
  rw[dQ _ _ hn,dQ _ _ hn,if_neg (fun (e:y=x)=>hn (e▸hx))]
 |some j=>
  rw[cv nd _ hy,cv nd _ hy,rC _ _ _ _ (by rw[hl];exact hi)]
  by_cases e:y=x
  ·subst e;rw[hy] at h;(injection h with h;subst h);rw[if_pos rfl,if_pos rfl]
  ·rw[if_neg e,if_neg (fun (q:j=i)=>e (mw (q▸hy) h))]
theorem Fst.look {hb h:Heap}{pr:List Nat}{env:Env}{l l':Loc}{c:aa}{α:Al}(F:Fst hb pr env l c α h)(e:∀x v,look l' x=some v→Mine.look l x=some v):Fst hb pr env l' c α h:=
 ⟨F.toCst,F.ns,F.cel,fun x v q=>F.loc x v (e x v q),F.fr⟩
theorem OkE.look {M:Model}{A:Around}{hb:Heap}{pr:List Nat}{env:Env}{l l':Loc}{c:aa}{β γ:Type}{I:aa→Al→Heap→β→γ→Prop}{t:Sem γ}{K:β→aa→Prop}(e:∀x,Mine.look l' x=Mine.look l x)
  (h:OkE M A hb pr env I l c t K):OkE M A hb pr env I l' c t K:=
 fun α s Q hs F hq=>h α s Q hs (F.look fun x v q=>by rw[e];exact q) fun b c' α' g h' tk ht k f le i=>hq b c' α' g h' tk ht k (f.look fun x v q=>by rw[←e];exact q) le i
theorem OkE.mono {M:Model}{A:Around}{hb:Heap}{pr:List Nat}{env:Env}{l:Loc}{c:aa}{β γ:Type}{I:aa→Al→Heap→β→γ→Prop}{t:Sem γ}{K K':β→aa→Prop}
  (h:OkE M A hb pr env I l c t K) (hK:∀b c',K b c'→K' b c'):OkE M A hb pr env I l c t K':=
 fun α s Q hs F hq=>h α s Q hs F fun b c' α' g h' tk ht k f le i=>hq b c' α' g h' tk ht (hK b c' k) f le i
def dG (prog:Program)(w:World)(hb:Heap)(x:Str)(v:V):Prop:=
 ∃g,(∀c α h,IsV c α h v g)∧∀(env:Env) (A:Around) (s:Shared) (Q:Value→Shared→Prop),EnvOk env→env.globals=mainGlobals→env.builtins=builtinsNs→env.kindOf x=some .globalImplicit→
  (∀b o,hb.get? b=some o→s.heap.get? b=some o)→Q g s→wpAny (model prog w) A (loadName env x) Q no s
structure Cx0 (prog:Program)(w:World)(hb:Heap)(K:Frag)(T:Tb)(P:Pm)(dep:Nat):Prop where
 kin:K.In hb
 glob:∀x v,T.G x=some v→dG prog w hb x v
 cls:ClsOk K P.C
 attr:∀nm,P.attr nm=true→findIn K (.ref P.C) nm=some none
 meth:∀nm f,T.meth nm=some f→findIn K (.ref P.C) nm=some (some (.ref f))∧typeIn K (.ref f)=some (.type "function")
 fn:∀a,P.isFn a=true→(∃k,Looks (model prog w) hb (keeperOf (.ref a)) k)∧FnOk prog w hb dep a (P.fn a)
 makes:makesIn K P.C=true
 ini:findIn K (.ref P.C) "__init__"=some (some (.ref P.init))∧typeIn K (.ref P.init)=some (.type "function")
 inif:FnOk prog w hb dep P.init (P.fn P.init)
 keep:keepIn K (.ref P.C)=true
 tab:∃C',TabOk K P.td C' P.tr
structure CxE (env:Env)(T:Tb):Prop where
 eo:EnvOk env
 gl:env.globals=mainGlobals
 bl:env.builtins=builtinsNs
 kg:∀x,T.kinds.lookup x=some .globalImplicit→env.kindOf x=some .globalImplicit
 kl:∀x,T.kinds.lookup x=some .local→env.kindOf x=some .local
 kc:∀x,T.kinds.lookup x=some .cell→env.kindOf x=some .cell∧∃b,env.cells.lookup x=some b
 nd:T.names.Nodup
section
variable {prog:Program}{w:World}{A:Around}{hb:Heap}{pr:List Nat}{env:Env}{T:Tb}{P:Pm}{K₀:Frag}{dep:Nat}
theorem jL {x:Str}(h:gU x=true):(x==("__debug__":Str))=false∧(x==("__classdict__":Str))=false:=by
 unfold gU at h
 simp only[Bool.and_eq_true,Bool.not_eq_true'] at h
 exact h
theorem hX {T:Tb}{x:Str}{e:IE}(h:gB T x=some e):gU x=true∧((∃i,aL T.names x=some i∧e=.v i)∨∃v,T.kinds.lookup x=some .globalImplicit∧T.G x=some v∧e=.g v):=by
 obtain⟨hn,h⟩:=ifO h
 refine⟨hn,?_⟩
 cases q:aL T.names x with
 |some i=>rw[q] at h;exact .inl ⟨i,rfl,(Option.some.inj h).symm⟩
 |none=>
  rw[q] at h
  obtain⟨hk,h⟩:=ifO h
  obtain⟨v,hv,e⟩:=Option.map_eq_some_iff.mp h
  exact .inr ⟨v,hk,hv,e.symm⟩
theorem fQ (X:Cx0 prog w hb K₀ T P dep)(E:CxE env T){x:Str}{p:Pos}{e:IE}(h:gB T x=some e){n:Nat}{l:Sl}{c:aa}{K:V→aa→Prop}(hw:wpE P n e l c K) :
  OkE (model prog w) A hb pr env IsV (ad T.names l) c (eval (.Name x p) env) K:=by
 obtain⟨hn,h⟩:=hX h
 obtain⟨n1,n2⟩:=jL hn
 cases n with
 |zero=>exact False.elim hw
 |succ n=>
  rcases h with ⟨i,hi,rfl⟩|⟨v,hk,hv,rfl⟩
  ·obtain⟨v,hv,hw⟩:=ax (f:=fun v=>K v c) (o:=aM l i) hw
   exact fun α s Q hs F hq=>wpAny_Name (uA E.eo F (by rw[cv E.nd _ hi];exact hv) n2 fun g i=>hq v c α g s.heap s.toks hs hw F (.refl ..) i) n1
  ·obtain⟨g,ig,ld⟩:=X.glob x v hv
   exact fun α s Q hs F hq=>wpAny_Name (ld env A s Q E.eo E.gl E.bl (E.kg x hk) F.base (hq v c α g s.heap s.toks hs hw F (.refl ..) (ig _ _ _))) n1
theorem ni {c:aa}{α:Al}{h:Heap}{vs:List V}{ds:List D}{ws:List Value}(e:j0 vs=some ds)(i:IsVs c α h vs ws):IsDs h (aE c α) ds ws:=by
 induction i generalizing ds with
 |nil=>exact Option.some.inj e▸.nil
 | @cons v w vs ws i r ih=>
  cases v with
  |d x=>
   obtain⟨ds',h1,rfl⟩:=Option.map_eq_some_iff.mp e
   exact .cons i (ih h1)
  |_=>contradiction
theorem cK {α β γ:Type}{a:Option α}{b:Option β}{f:α→β→γ}{r:γ}(h:(do return f (←a) (←b))=some r):∃x y,a=some x∧b=some y∧r=f x y:=by
 cases a with
 |none=>contradiction
 |some x=>cases b with
  |none=>contradiction
  |some y=>(injection h with h;subst h);exact⟨x,y,rfl,rfl,rfl⟩
theorem dF {α γ:Type}{a:Option α}{f:α→γ}{r:γ}(h:(do return f (←a))=some r):∃x,a=some x∧r=f x:=by
 cases a with
 |none=>contradiction
 |some x=>(injection h with h;subst h);exact⟨x,rfl,rfl⟩
theorem e0 {α β δ γ:Type}{a:Option α}{b:Option β}{d:Option δ}{f:α→β→δ→γ}{r:γ}(h:(do return f (←a) (←b) (←d))=some r):∃x y z,a=some x∧b=some y∧d=some z∧r=f x y z:=by
 cases a with
 |none=>contradiction
 |some x=>cases b with
  |none=>contradiction
  |some y=>cases d with
   |none=>contradiction
   |some z=>(injection h with h;subst h);exact⟨x,y,z,rfl,rfl,rfl,rfl⟩
end
section
variable {prog:Program}{w:World}{A:Around}{hb:Heap}{pr:List Nat}{env:Env}{T:Tb}{P:Pm}{K₀:Frag}{dep:Nat}
theorem sf {l:Loc}{c:aa}{K:V→aa→Prop}{d:D}{k:Const}{n:Nat}{p:Pos}(hd:(match k with | .int i=>d=.int i | .str x=>d=.str x | .bool b=>d=.bool b | .none=>d=.none|_=>False))(h:K (.d d) c) :
  OkE (model prog w) A hb pr env IsV l c (eval (.Constant k n p) env) K:=by
 refine OkE.mk fun α s Q hs F hq=>?_
 cases k with
 |int i=>(subst hd);exact wpAny_Constant_int (hq _ c α _ s.heap _ h F (.refl ..) (.int _ _))
 |str x=>(subst hd);exact wpAny_Constant_str (hq _ c α _ s.heap _ h F (.refl ..) (.str _ _))
 |bool b=>(subst hd);exact wpAny_pure (hq _ c α _ s.heap s.toks h F (.refl ..) (.bool _))
 |none=>(subst hd);exact wpAny_pure (hq _ c α _ s.heap s.toks h F (.refl ..) .none)
 |_=>exact hd.elim
theorem jY (X:Cx0 prog w hb K₀ T P dep)(R:Room (dep+1) A){l:Loc}{c:aa}{k:Option Nat}{u:V}{vs:List V}{K:V→aa→Prop}(h:eg P c k u vs K){f:Value}{ws:List Value}{α:Al}{s:Shared}(hs:1≤s.toks)
  (F:Fst hb pr env l c α s.heap) (hf:IsV c α s.heap u f) (iv:IsVs c α s.heap vs ws) {Q:Value→Shared→Prop}
  (hq:∀v c'' α'' g h'' tk,1≤tk→K v c''→Fst hb pr env l c'' α'' h''→Le c α s.heap c'' α'' h''→IsV c'' α'' h'' v g→Q g {s with heap:=h'',toks:=tk}):wpAny (model prog w) A (call f ws) Q no s:=by
 refine au hs ?_
 cases u with
 |bi b=>
  obtain rfl:f=_:=hf
  exact xO R.handled F h iv fun v c' α' g h' tk hK F' L' i ht=>hq v c' α' g h' tk ht hK F' L' i
 |val w'=>
  obtain⟨a,ha,hfn,hP⟩:=ax h
  obtain rfl:=jg ha
  obtain rfl:f=_:=hf
  obtain⟨_,FO⟩:=X.fn a hfn
  refine wpAny_call ?_
  refine FO A (R.less (Nat.le_succ _)) vs ws c α s _ _ hs ⟨F.base,F.cell,F.fresh,F.inj,fun _ hk=>by cases hk⟩ iv hP fun v c' α' g h' tk hK C' L' i=>?_
  intro ht
  have C'':Cst hb pr c' α' h':=⟨C'.base,C'.cell,C'.fresh,C'.inj,fun k hk=>hK.1 k (F.prs k hk)⟩
  exact hq v c' α' g h' tk ht hK.2 (F.le L' C'') L' i
 |obj j=>
  obtain⟨id,g,hj,rfl,p1⟩:=fK h
  obtain⟨v,rfl,p2⟩:=gG p1
  obtain⟨d,rfl,p3⟩:=cL p2
  obtain⟨xs,hg,h1,h2⟩:=cH p3
  obtain⟨w',rfl,i⟩:=iv.one
  obtain⟨rfl,hjm⟩:=hf
  obtain⟨hb',hgm⟩:=F.toCst.cell j _ hj
  obtain⟨us,ep,gk,rk⟩:=F.toCst.cell g _ hg
  refine mc (xs:=us.toArray) hb' gk (by rw[List.size_toArray,←rk.length];exact aJ h1) fun h8 hl8 hs8=>?_
  intro ht
  obtain⟨F8,L8⟩:=F.set hgm (o:=.list (xs++[d])) hs8 (fun L=>by
   obtain⟨ep8,g8⟩:=hl8
   exact⟨us++[w'],ep8,by rw[g8];simp,(IsDs.append (.cons (L.isD i) .nil) (L.isDs rk))⟩)
  exact hq _ _ _ _ _ s.toks ht h2 F8 L8 .none
 |_=>exact h.elim
theorem iR (X:Cx0 prog w hb K₀ T P dep){c:aa}{u:V}{f:Value}{α:Al}{h:Heap}(C:Cst hb pr c α h)(hf:IsV c α h u f)(hu:(∃b,u=.bi b)∨(∃a,u=.val (.ref a)∧P.isFn a=true)∨∃j g,u=.obj j∧ae c j=some (.bound "list.append" g)) :
  ∃k,Looks (model prog w) h (keeperOf f) k:=by
 rcases hu with ⟨b,rfl⟩|⟨a,rfl,ha⟩|⟨j,g,rfl,hj⟩
 ·(subst hf);exact⟨.machine,by cases b<;>exact Looks.of_pure rfl⟩
 ·(subst hf)
  obtain⟨⟨k,hk⟩,_⟩:=X.fn a ha
  exact⟨k,hk.keeps C.base⟩
 ·obtain⟨rfl,_⟩:=hf
  obtain⟨hb',_⟩:=C.cell j _ hj
  exact⟨.machine,jE hb'⟩
def pQ (P:Pm)(c:aa)(u:V):Prop:=(∃b,u=.bi b)∨(∃a,u=.val (.ref a)∧P.isFn a=true)∨∃j g,u=.obj j∧ae c j=some (.bound "list.append" g)
theorem f9 {c:aa}{k:Option Nat}{u:V}{vs:List V}{K:V→aa→Prop}(h:eg P c k u vs K):pQ P c u:=by
 cases u with
 |bi b=>exact .inl ⟨_,rfl⟩
 |val w=>
  obtain⟨a,ha,h⟩:=ax h
  exact .inr (.inl ⟨a,congrArg V.val (jg ha),h.1⟩)
 |obj j=>
  obtain⟨id,g,hj,rfl,h⟩:=fK h
  exact .inr (.inr ⟨_,_,rfl,hj⟩)
 |_=>exact h.elim
end
section
variable {prog:Program}{w:World}{A:Around}{hb:Heap}{pr:List Nat}{env:Env}{T:Tb}{P:Pm}{K₀:Frag}{dep:Nat}{l:Loc}{c:aa}
abbrev Ev (prog:Program) (w:World) (A:Around) (hb:Heap) (pr:List Nat) (env:Env) (l:Loc) (c:aa) (e:Expr) (K:V→aa→Prop):Prop:=OkE (model prog w) A hb pr env IsV l c (eval e env) K
abbrev Tst (prog:Program) (w:World) (A:Around) (hb:Heap) (pr:List Nat) (env:Env) (l:Loc) (c:aa) (e:Expr) (K:Bool→aa→Prop):Prop:=OkE (model prog w) A hb pr env okB l c (isTrue e env (eval e env)) K
theorem yM {a b:Expr}{op:Operator}{p:Pos}{K:V→aa→Prop}(h:Ev prog w A hb pr env l c a fun u c1=>Ev prog w A hb pr env l c1 b fun v c2=>hF c2 op u v fun d=>K (.d d) c2):Ev prog w A hb pr env l c (.BinOp a op b p) K:=by
 intro α s Q hs F hq
 refine wpAny_BinOp (h α s _ hs F fun u c1 α1 g1 h1 t1 ht1 k1 F1 L1 i1=>?_)
 refine k1 α1 _ _ ht1 F1 fun v c2 α2 g2 h2 t2 ht2 k2 F2 L2 i2=>?_
 refine au (s:={s with heap:=h2,toks:=t2}) ht2 (xk (s:={s with heap:=h2,toks:=t2}) F2 k2 (L2.isV i1) i2 fun d g h' tk hK F' L' i ht=>?_)
 exact hq _ c2 α2 g h' tk ht hK F' ((L1.trans L2).trans L') i
theorem eZ {op:CmpOp}{e:Expr}(h:fk e=true):behindInMarks op e=false:=by
 cases e<;>first|rfl|exact absurd h Bool.false_ne_true
theorem xH (R:Room (dep+1) A){a b:Expr}{op:CmpOp}{p:Pos}(hb':fk b=true){K:V→aa→Prop}(h:Ev prog w A hb pr env l c a fun u c1=>Ev prog w A hb pr env l c1 b fun v c2=>e5 c2 op u v fun r=>K (.d (.bool r)) c2) :
  Ev prog w A hb pr env l c (.Compare a [op] [b] p) K:=by
 intro α s Q hs F hq
 refine wpAny_Compare1 (h α s _ hs F fun u c1 α1 g1 h1 t1 ht1 k1 F1 L1 i1=>?_) (eZ hb')
 refine k1 α1 _ _ ht1 F1 fun v c2 α2 g2 h2 t2 ht2 k2 F2 L2 i2=>?_
 exact qz (s:={s with heap:=h2,toks:=t2}) F2.toCst R.hu k2 (L2.isV i1) i2 fun r hK=>hq _ c2 α2 _ h2 t2 ht2 hK F2 (L1.trans L2) (.bool _)
theorem wV (R:Room (dep+1) A){a b:Expr}{op:CmpOp}{p:Pos}(hb':fk b=true){K:Bool→aa→Prop}(h:Ev prog w A hb pr env l c a fun u c1=>Ev prog w A hb pr env l c1 b fun v c2=>e5 c2 op u v fun r=>K r c2) :
  Tst prog w A hb pr env l c (.Compare a [op] [b] p) K:=by
 intro α s Q hs F hq
 refine wpAny_isTrue_Compare1 (h α s _ hs F fun u c1 α1 g1 h1 t1 ht1 k1 F1 L1 i1=>?_) (eZ hb')
 refine k1 α1 _ _ ht1 F1 fun v c2 α2 g2 h2 t2 ht2 k2 F2 L2 i2=>?_
 exact qz (s:={s with heap:=h2,toks:=t2}) F2.toCst R.hu k2 (L2.isV i1) i2 fun r hK=>wpAny_truthy_bool (hq _ c2 α2 _ h2 t2 ht2 hK F2 (L1.trans L2) rfl)
theorem xN {a:Expr}{p:Pos}{K:V→aa→Prop}(h:Ev prog w A hb pr env l c a fun u c1=>bJ c1 u fun r=>K (.d (.bool !r)) c1):Ev prog w A hb pr env l c (.UnaryOp .Not a p) K:=by
 intro α s Q hs F hq
 refine PyProof.Rows.UnaryOp_ (h α s _ hs F fun u c1 α1 g1 h1 t1 ht1 k1 F1 L1 i1=>?_)
 refine not_of (au (s:={s with heap:=h1,toks:=t1}) ht1 (eO (s:={s with heap:=h1,toks:=t1}) F1.toCst k1 i1 fun r tk hK ht=>?_))
 exact hq _ c1 α1 _ h1 tk ht hK F1 L1 (.bool _)
theorem wg {a:Expr}{p:Pos}{K:Bool→aa→Prop}(h:Tst prog w A hb pr env l c a fun r c1=>K (!r) c1):Tst prog w A hb pr env l c (.UnaryOp .Not a p) K:=by
 intro α s Q hs F hq
 refine isTrue_not (h α s _ hs F fun r c1 α1 g1 h1 t1 ht1 k1 F1 L1 i1=>?_)
 (subst i1)
 exact hq _ c1 α1 _ h1 t1 ht1 k1 F1 L1 rfl
theorem y4 {i:Int}{k:Nat}{p q:Pos}{K:V→aa→Prop}(h:K (.d (.int (-i))) c):Ev prog w A hb pr env l c (.UnaryOp .USub (.Constant (.int i) k q) p) K:=by
 refine OkE.mk fun α s Q hs F hq=>?_
 refine PyProof.Rows.UnaryOp_ (wpAny_Constant_int ?_)
 exact PySem.P.neg_int (hq _ c α _ s.heap _ h F (.refl ..) (.int _ _))
theorem nY {M:Model}{E:Value→Shared→Prop}{s:Shared}{op:BoolOp}{a b:Expr}{r:List Expr}{p:Pos}{Q:Value→Shared→Prop}
  (h:wpAny M A (eval a env) (fun v s₁=>wpAny M A (truthy v) (fun t s₂=>match op,t with | .And,false | .Or,true=>Q v s₂|_,_=>wpAny M A (boolOp p op (evalEach (b::r) env)) Q E s₂) E s₁) E s):wpAny M A (eval (.BoolOp op (a::b::r) p) env) Q E s:=by
 show wpAny M A (do let v ←eval a env;standAt p;let t ←holding [v] (truthy v);match op,t with | .And,false | .Or,true=>pure v|_,_=>boolOp p op (evalEach (b::r) env)) Q E s
 refine wpAny_bind (wpAny_mono h (fun v s₁ h₁=>wpAny_bind (wpAny_standAt (wpAny_bind (wpAny_holding (wpAny_mono h₁ (fun t s₂ h₂=>?_) fun _ _ x=>x))))) fun _ _ x=>x)
 cases op<;>cases t<;>first|exact wpAny_pure h₂|exact h₂
theorem yc {a b:Expr}{r:List Expr}{p:Pos}{K:V→aa→Prop}(h:Ev prog w A hb pr env l c a fun u c1=>bJ c1 u fun t=>(t=false→K u c1)∧(t=true→OkE (model prog w) A hb pr env IsV l c1 (boolOp p .And (evalEach (b::r) env)) K)) :
  Ev prog w A hb pr env l c (.BoolOp .And (a::b::r) p) K:=by
 intro α s Q hs F hq
 refine nY (h α s _ hs F fun u c1 α1 g1 h1 t1 ht1 k1 F1 L1 i1=>?_)
 refine au (s:={s with heap:=h1,toks:=t1}) ht1 (eO (s:={s with heap:=h1,toks:=t1}) F1.toCst k1 i1 fun t tk hK ht=>?_)
 cases t with
 |false=>exact hq u c1 α1 g1 h1 tk ht (hK.1 rfl) F1 L1 i1
 |true=>exact hK.2 rfl α1 {s with heap:=h1,toks:=tk} Q ht F1 fun v c2 α2 g2 h2 t2 ht2 k2 F2 L2 i2=>hq v c2 α2 g2 h2 t2 ht2 k2 F2 (L1.trans L2) i2
theorem zd {a b:Expr}{r:List Expr}{p:Pos}{K:V→aa→Prop}(h:Ev prog w A hb pr env l c a fun u c1=>bJ c1 u fun t=>(t=true→K u c1)∧(t=false→OkE (model prog w) A hb pr env IsV l c1 (boolOp p .Or (evalEach (b::r) env)) K)) :
  Ev prog w A hb pr env l c (.BoolOp .Or (a::b::r) p) K:=by
 intro α s Q hs F hq
 refine nY (h α s _ hs F fun u c1 α1 g1 h1 t1 ht1 k1 F1 L1 i1=>?_)
 refine au (s:={s with heap:=h1,toks:=t1}) ht1 (eO (s:={s with heap:=h1,toks:=t1}) F1.toCst k1 i1 fun t tk hK ht=>?_)
 cases t with
 |true=>exact hq u c1 α1 g1 h1 tk ht (hK.1 rfl) F1 L1 i1
 |false=>exact hK.2 rfl α1 {s with heap:=h1,toks:=tk} Q ht F1 fun v c2 α2 g2 h2 t2 ht2 k2 F2 L2 i2=>hq v c2 α2 g2 h2 t2 ht2 k2 F2 (L1.trans L2) i2
theorem qv {a:Expr}{r:List Expr}{p:Pos}{whole:Sem Value}{K:Bool→aa→Prop}(h:Tst prog w A hb pr env l c a fun t c1=>(t=false→K false c1)∧(t=true→OkE (model prog w) A hb pr env okB l c1 (isTrue (.BoolOp .And r p) env whole) K)) :
  OkE (model prog w) A hb pr env okB l c (isTrue (.BoolOp .And (a::r) p) env whole) K:=by
 intro α s Q hs F hq
 refine isTrue_and (h α s _ hs F fun t c1 α1 g1 h1 t1 ht1 k1 F1 L1 i1=>?_)
 cases i1
 cases t with
 |false=>exact hq false c1 α1 _ h1 t1 ht1 (k1.1 rfl) F1 L1 rfl
 |true=>exact k1.2 rfl α1 _ Q ht1 F1 fun v c2 α2 g2 h2 t2 ht2 k2 F2 L2 i2=>hq v c2 α2 g2 h2 t2 ht2 k2 F2 (L1.trans L2) i2
theorem u4 {a:Expr}{r:List Expr}{p:Pos}{whole:Sem Value}{K:Bool→aa→Prop}(h:Tst prog w A hb pr env l c a fun t c1=>(t=true→K true c1)∧(t=false→OkE (model prog w) A hb pr env okB l c1 (isTrue (.BoolOp .Or r p) env whole) K)) :
  OkE (model prog w) A hb pr env okB l c (isTrue (.BoolOp .Or (a::r) p) env whole) K:=by
 intro α s Q hs F hq
 refine isTrue_or (h α s _ hs F fun t c1 α1 g1 h1 t1 ht1 k1 F1 L1 i1=>?_)
 cases i1
 cases t with
 |true=>exact hq true c1 α1 _ h1 t1 ht1 (k1.1 rfl) F1 L1 rfl
 |false=>exact k1.2 rfl α1 _ Q ht1 F1 fun v c2 α2 g2 h2 t2 ht2 k2 F2 L2 i2=>hq v c2 α2 g2 h2 t2 ht2 k2 F2 (L1.trans L2) i2
theorem rH {p:Pos}{whole:Sem Value}{K:Bool→aa→Prop}(h:K true c):OkE (model prog w) A hb pr env okB l c (isTrue (.BoolOp .And [] p) env whole) K:=
 fun α s Q hs F hq=>isTrue_and_nil (hq true c α true s.heap s.toks hs h F (.refl ..) rfl)
theorem tm {p:Pos}{whole:Sem Value}{K:Bool→aa→Prop}(h:K false c):OkE (model prog w) A hb pr env okB l c (isTrue (.BoolOp .Or [] p) env whole) K:=
 fun α s Q hs F hq=>isTrue_or_nil (hq false c α false s.heap s.toks hs h F (.refl ..) rfl)
theorem qY {e:Expr}{K:Bool→aa→Prop}(he:isTrue e env (eval e env)=(do let v ←eval e env;standAt e.pos;holding [v] (truthy v)))(h:Ev prog w A hb pr env l c e fun u c1=>bJ c1 u fun r=>K r c1):Tst prog w A hb pr env l c e K:=by
 intro α s Q hs F hq
 refine isTrue_plain (h α s _ hs F fun u c1 α1 g1 h1 t1 ht1 k1 F1 L1 i1=>?_) he
 refine au (s:={s with heap:=h1,toks:=t1}) ht1 (eO (s:={s with heap:=h1,toks:=t1}) F1.toCst k1 i1 fun t tk hK ht=>?_)
 exact hq _ c1 α1 _ h1 tk ht hK F1 L1 rfl
theorem wY {a i:Expr}{p:Pos}(hi:cX i=true){K:V→aa→Prop}(h:Ev prog w A hb pr env l c a fun u c1=>Ev prog w A hb pr env l c1 i fun v c2=>ef c2 u v fun d=>K (.d d) c2):Ev prog w A hb pr env l c (.Subscript a i p) K:=by
 intro α s Q hs F hq
 refine Subscript_ (h α s _ hs F fun u c1 α1 g1 h1 t1 ht1 k1 F1 L1 i1=>?_)
 refine k1 α1 _ _ ht1 F1 fun v c2 α2 g2 h2 t2 ht2 k2 F2 L2 i2=>?_
 refine au (s:={s with heap:=h2,toks:=t2}) ht2 (s6 (s:={s with heap:=h2,toks:=t2}) F2.toCst hi k2 (L2.isV i1) i2 fun d g tk hK id ht=>?_)
 exact hq _ c2 α2 g h2 tk ht hK F2 (L1.trans L2) id
theorem uM {a:Expr}{lo hi:Option Expr}{p q:Pos}{K:V→aa→Prop}(h:Ev prog w A hb pr env l c a fun u c1=>OkE (model prog w) A hb pr env IsV l c1 (evalPart lo env) fun v c2=>OkE (model prog w) A hb pr env IsV l c2 (evalPart hi env) fun x c3=>iW c3 u v x fun d=>K (.d d) c3) :
  Ev prog w A hb pr env l c (.Subscript a (.Slice lo hi none q) p) K:=by
 intro α s Q hs F hq
 refine Subscript_ (h α s _ hs F fun u c1 α1 g1 h1 t1 ht1 k1 F1 L1 i1=>?_)
 refine wpAny_Slice (k1 α1 _ _ ht1 F1 fun v c2 α2 g2 h2 t2 ht2 k2 F2 L2 i2=>?_)
 refine k2 α2 _ _ ht2 F2 fun x c3 α3 g3 h3 t3 ht3 k3 F3 L3 i3=>?_
 refine evalPart_none_step ?_
 refine au (s:={s with heap:=h3.push _,toks:=t3}) ht3 (qN (s:={s with heap:=h3,toks:=t3}) (lo:=a) (hi:=a) F3 k3 (L3.isV (L2.isV i1)) (L3.isV i2) i3 fun d g h' tk hK F' L' id ht=>?_)
 exact hq _ c3 α3 g h' tk ht hK F' (((L1.trans L2).trans L3).trans L') id
theorem qC {es:List Expr}{k:Nat}{p:Pos}(hst:bH es=true){K:V→aa→Prop}(h:OkArgs prog w A hb pr env l es c fun vs c1=>aw (j0 vs) fun ds=>ds.length≤big∧K (.d (.tup ds)) c1):Ev prog w A hb pr env l c (.Tuple es k p) K:=by
 intro α s Q hs F hq
 refine Tuple_ ?_
 rw[cF env p hst]
 refine fW h α s _ hs F fun vs c1 α1 ws h1 t1 ht1 k1 F1 L1 i1=>?_
 obtain⟨ds,e,k1⟩:=ax k1
 have id:=ni e i1
 refine wpAny_newObj_type ?_ (by show ws.toArray.size≤sizeLine;rw[List.size_toArray,←id.length];exact aJ k1.1)
 obtain⟨F',L'⟩:=F1.push (bc "tuple" ws 0)
 exact hq _ c1 α1 _ _ t1 ht1 k1.2 F' (L1.trans L') (.tup (Heap.get?_push_size _ rfl) (a9 F1.toCst) (L'.isDs id))
theorem yZ {es:List Expr}{k:Option Nat}{p:Pos}(hst:bH es=true){K:V→aa→Prop}(h:OkArgs prog w A hb pr env l es c fun vs c1=>aw (j0 vs) fun ds=>ds.length≤big∧cf c1 k ds K):Ev prog w A hb pr env l c (.List es p) K:=by
 intro α s Q hs F hq
 refine List_ ?_
 rw[cF env p hst]
 refine fW h α s _ hs F fun vs c1 α1 ws h1 t1 ht1 k1 F1 L1 i1=>?_
 obtain⟨ds,e,k1⟩:=ax k1
 have id:=ni e i1
 refine wpAny_newObj_type ?_ (by show ws.toArray.size≤sizeLine;rw[List.size_toArray,←id.length];exact aJ k1.1)
 refine gI (s:={s with heap:=h1,toks:=t1}) (ep:=0) (K:=fun v c'=>K v c') (Q:=fun g s'=>1≤s'.toks→Q g s') F1 k1.2 id (fun _ _ e=>Heap.get?_push_of_some _ e) (Heap.get?_push_size _ rfl) (fun v c' α' g h' tk hK F' L' i ht=>?_) t1 ht1
 exact hq v c' α' g h' tk ht hK F' (L1.trans L') i
theorem ve {M:Model}{E:Value→Shared→Prop}{s:Shared}{a:Expr}{nm:Str}{p:Pos}(ha:bj a=true){Q:Value→Shared→Prop}(h:wpAny (model prog w) A (eval a env) (fun o s₁=>wpAny (model prog w) A (getAttr o nm true) Q E s₁) E s):wpAny (model prog w) A (eval (.Attribute a nm p) env) Q E s:=by
 have e:eval (.Attribute a nm p) env=(do
   let o ←attributeBase a nm env (eval a env)
   standAt p.atName
   let r ←holding [o] (getAttr o nm true)
   letTemporaryGo a o r
   pure r):=rfl
 rw[e]
 exact wpAny_bind (nM ha (wpAny_mono h (fun o s₁ h₁=>wpAny_bind (wpAny_standAt (wpAny_bind (wpAny_holding (wpAny_mono h₁ (fun r s₂ h₂=>wpAny_bind (wpAny_letTemporaryGo (wpAny_pure h₂))) fun _ _ x=>x))))) fun _ _ x=>x))
theorem lu {u:V}{Kf:List (Str×V)→Prop}(h:gy P c u Kf):∃k dk fs,u=.obj k∧ae c k=some (.inst P.C dk)∧ae c dk=some (.ns fs)∧Kf fs:=by
 obtain⟨k,e,h⟩:=d0 h
 obtain⟨C,dk,hk,rfl,h⟩:=f0 h
 obtain⟨fs,hd,h⟩:=kt h
 exact⟨k,dk,fs,e,hk,hd,h⟩
theorem xo (X:Cx0 prog w hb K₀ T P dep){a:Expr}{nm:Str}{p:Pos}(ha:bj a=true){K:V→aa→Prop}(h:Ev prog w A hb pr env l c a fun u c1=>P.attr nm=true∧gy P c1 u fun fs=>aw (look fs nm) fun v=>iP v=true∧K v c1) :
  Ev prog w A hb pr env l c (.Attribute a nm p) K:=by
 intro α s Q hs F hq
 refine ve (M:=model prog w) ha (h α s _ hs F fun u c1 α1 g1 h1 t1 ht1 k1 F1 L1 i1=>?_)
 obtain⟨hn,k1⟩:=k1
 obtain⟨k,dk,fs,rfl,hk,hdk,hv⟩:=lu k1
 obtain⟨v,e,hv⟩:=ax hv
 ·obtain⟨rfl,_⟩:=i1
  refine au (s:={s with heap:=h1,toks:=t1}) ht1 (tU (s:={s with heap:=h1,toks:=t1}) F1 X.kin hk hdk X.cls (X.attr nm hn) e hv.1 fun g tk i ht=>?_)
  exact hq v c1 α1 g h1 tk ht hv.2 F1 L1 i
theorem xA {a:Expr}{k:Nat}{p:Pos}(ha:bj a=true){K:V→aa→Prop}(h:Ev prog w A hb pr env l c a fun u c1=>gF u fun j=>cz (ae c1 j) fun _=>k∉dom c1∧K (.obj k) (c1++[(k,.bound "list.append" j)])):Ev prog w A hb pr env l c (.Attribute a Mn.append.nm p) K:=by
 intro α s Q hs F hq
 refine ve (M:=model prog w) ha (h α s _ hs F fun u c1 α1 g1 h1 t1 ht1 k1 F1 L1 i1=>?_)
 obtain⟨j,rfl,k1⟩:=d0 k1
 obtain⟨xs,hj,k1⟩:=cH k1
 obtain⟨rfl,hjm⟩:=i1
 obtain⟨us,ep,gk,rk⟩:=F1.toCst.cell j _ hj
 refine j5 gk ?_
 obtain⟨F2,L2⟩:=F1.new k1.1 (j7 "list.append" (α1 j)) (o:=.bound "list.append" j) (fun L=>⟨by rw[Heap.get?_push_size _ rfl,L.agree j hjm],L.dom j hjm⟩)
 exact hq _ _ _ _ _ (t1+1) (Nat.le_succ_of_le ht1) k1.2 F2 (L1.trans L2) ⟨by rw[show upd α1 k h1.objs.size k=h1.objs.size from if_pos rfl],by rw[af];simp⟩
end
section
variable {prog:Program}{w:World}{A:Around}{hb:Heap}{pr:List Nat}{env:Env}{T:Tb}{P:Pm}{K₀:Frag}{dep:Nat}{l:Loc}{c:aa}
theorem OkArgs.mono:∀{args:List Expr} {c:aa} {K K':List V→aa→Prop},OkArgs prog w A hb pr env l args c K→(∀vs c',K vs c'→K' vs c')→OkArgs prog w A hb pr env l args c K'
 | [],_,_,_,h,hK=>hK _ _ h
 |e::r,_,_,_,h,hK=>OkE.mono h fun v c' q=>OkArgs.mono q fun vs c'' k=>hK _ _ k
theorem wD (X:Cx0 prog w hb K₀ T P dep)(R:Room (dep+1) A){x:Str}{p pos:Pos}{args:List Expr}{k:Option Nat}(hst:bH args=true){K:V→aa→Prop}
  (h:Ev prog w A hb pr env l c (.Name x p) fun u c1=>OkArgs prog w A hb pr env l args c1 fun vs c2=>eg P c2 k u vs K):Ev prog w A hb pr env l c (.Call (.Name x p) args [] pos) K:=by
 intro α s Q hs F hq
 refine Call_Name (cF env pos hst) (h α s _ hs F fun u c1 α1 g1 h1 t1 ht1 k1 F1 L1 i1=>?_)
 refine bU (s:={s with heap:=h1,toks:=t1}) (fs:=[]) ht1 F1 .nil (k1.mono fun vs c2 hk α2 s2 ws ht2 F2 L2 iv=>?_) fun v c' α' g h' tk ht hK F' L' i=>hq v c' α' g h' tk ht hK F' (L1.trans L') i
 refine⟨iR X F2.toCst (L2.isV i1) (f9 hk),fun Q hq'=>?_⟩
 exact jY X R hk ht2 F2 (L2.isV i1) iv hq'
theorem bA {M:Model}{h:Heap}(id:String):∃k,Looks M h (keeperOf (.builtin id)) k:=⟨.machine,Looks.of_pure rfl⟩
theorem xu {o:Expr}{m:Mn}{apos pos:Pos}{args:List Expr}(hsup:bj o=true)(hst:bH args=true)(hfew:args.length<30)(hline:(apos.endLine==pos.line)=true){K:V→aa→Prop}
  (h:Ev prog w A hb pr env l c o fun u c1=>dM c1 u m∧OkArgs prog w A hb pr env l args c1 fun vs c2=>nh c2 u m vs K):Ev prog w A hb pr env l c (.Call (.Attribute o m.nm apos) args [] pos) K:=by
 intro α s Q hs F hq
 refine dW hsup hst hfew hline (h α s _ hs F fun u c1 α1 g1 h1 t1 ht1 k1 F1 L1 i1=>?_)
 obtain⟨hm,k1⟩:=k1
 cases u with
 |d x=>
  obtain⟨x,e,hm⟩:=cy (u:=.d x) hm
  rw[e] at i1 k1
  have i1':=i1
  obtain⟨t,rfl⟩:=IsD.inv i1'
  refine qo hm ?_
  refine bU (s:={s with heap:=h1,toks:=t1}) (fs:=[.d (.str x)]) ht1 F1 (.cons i1 .nil) (k1.mono fun vs c2 hk α2 s2 ws ht2 F2 L2 iv=>?_) fun v c' α' g h' tk ht hK F' L' i=>hq v c' α' g h' tk ht hK F' (L1.trans L') i
  refine⟨bA _,fun Q hq'=>?_⟩
  obtain⟨w0,ws',rfl,i0,ir⟩:=iv.inv
  obtain⟨t',rfl⟩:=IsD.inv i0
  exact au ht2 (mj F2 hk.2 ir fun v c' α' g h' tk hK F' L' i ht=>hq' v c' α' g h' tk ht hK F' L' i)
 |obj k=>
  obtain⟨hm,hk⟩:=hm
  obtain⟨xs,hx,_⟩:=cH hk
  obtain⟨rfl,hkm⟩:=i1
  obtain⟨us,ep,gk,rk⟩:=F1.toCst.cell k _ hx
  refine qZ hm gk ?_
  refine bU (s:={s with heap:=h1,toks:=t1}) (fs:=[.obj k]) ht1 F1 (.cons ⟨rfl,hkm⟩ .nil) (k1.mono fun vs c2 hk2 α2 s2 ws ht2 F2 L2 iv=>?_) fun v c' α' g h' tk ht hK F' L' i=>hq v c' α' g h' tk ht hK F' (L1.trans L') i
  refine⟨bA _,fun Q hq'=>?_⟩
  obtain⟨w0,ws',rfl,i0,ir⟩:=iv.inv
  obtain⟨rfl,_⟩:=i0
  obtain⟨ys,hy,hk2⟩:=cH hk2.2
  exact au ht2 (lN F2 hy hk2 ir fun v c' α' g h' tk hK F' L' i ht=>hq' v c' α' g h' tk ht hK F' L' i)
 |mt e=>
  obtain⟨r,rfl,im⟩:=i1
  have em:m=.end_:=by cases m<;>first|rfl|exact absurd hm Bool.false_ne_true
  subst em
  refine qm im ?_
  refine bU (s:={s with heap:=h1,toks:=t1}) (fs:=[.mt e]) ht1 F1 (.cons ⟨r,rfl,im⟩ .nil) (k1.mono fun vs c2 hk α2 s2 ws ht2 F2 L2 iv=>?_) fun v c' α' g h' tk ht hK F' L' i=>hq v c' α' g h' tk ht hK F' (L1.trans L') i
  refine⟨bA _,fun Q hq'=>?_⟩
  obtain⟨_,rfl,hk⟩:=hk
  obtain⟨w',rfl,i0⟩:=iv.one
  obtain⟨r2,rfl,im2⟩:=i0
  exact au ht2 (wj im2 fun t tk ht=>hq' _ c2 α2 _ s2.heap tk ht hk F2 (Le.refl ..) (.int _ _))
 |_=>exact hm.elim
theorem tR (X:Cx0 prog w hb K₀ T P dep)(R:Room (dep+1) A){o:Expr}{nm:Str}{f:Addr}(hf:T.meth nm=some f){apos pos:Pos}{args:List Expr}(hsup:bj o=true)(hst:bH args=true)(hfew:args.length<30)(hline:(apos.endLine==pos.line)=true){K:V→aa→Prop}
  (h:Ev prog w A hb pr env l c o fun u c1=>(gy P c1 u fun fs=>look fs nm=none)∧OkArgs prog w A hb pr env l args c1 fun vs c2=>P.isFn f=true∧P.fn f (u::vs) c2 (fun v c3=>eT c2 c3∧K v c3)):Ev prog w A hb pr env l c (.Call (.Attribute o nm apos) args [] pos) K:=by
 intro α s Q hs F hq
 refine dW hsup hst hfew hline (h α s _ hs F fun u c1 α1 g1 h1 t1 ht1 k1 F1 L1 i1=>?_)
 obtain⟨hi,k1⟩:=k1
 obtain⟨k,dk,fs,rfl,hk,hdk,hv⟩:=lu hi
 obtain⟨rfl,hkm⟩:=i1
 obtain⟨m1,m2⟩:=X.meth nm f hf
 refine tv (s:={s with heap:=h1,toks:=t1}) F1 X.kin hk hdk X.cls m1 m2 hv ?_
 refine bU (s:={s with heap:=h1,toks:=t1}) (fs:=[.obj k]) ht1 F1 (.cons ⟨rfl,hkm⟩ .nil) (k1.mono fun vs c2 hk2 α2 s2 ws ht2 F2 L2 iv=>?_) fun v c' α' g h' tk ht hK F' L' i=>hq v c' α' g h' tk ht hK F' (L1.trans L') i
 refine⟨iR X (u:=.val (.ref f)) F2.toCst rfl (.inr (.inl ⟨f,rfl,hk2.1⟩)),fun Q hq'=>?_⟩
 exact jY X R (u:=.val (.ref f)) (k:=none) (vs:=.obj k::vs) hk2 ht2 F2 rfl iv hq'
theorem wL {o:Expr}{y z:Str}{apos pos:Pos}{ky kz:Nat}{py pz:Pos}(hsup:bj o=true)(hline:(apos.endLine==pos.line)=true){K:V→aa→Prop}
  (h:Ev prog w A hb pr env l c o fun u c1=>fw u fun x=>x.length≤big∧z.length≤14∧(y==z)=false∧K (.d (.str (Txt.replace x y z))) c1):Ev prog w A hb pr env l c (.Call (.Attribute o (Str.ofString "replace") apos) [.Constant (.str y) ky py,.Constant (.str z) kz pz] [] pos) K:=by
 intro α s Q hs F hq
 refine dW hsup rfl (by simp) hline (h α s _ hs F fun u c1 α1 g1 h1 t1 ht1 k1 F1 L1 i1=>?_)
 obtain⟨x,rfl,hx,hz,hyz,hK⟩:=cy k1
 ·obtain⟨t,rfl⟩:=IsD.inv i1
  refine GM.replace ?_
  refine du rfl (Calls.evalArgs_plain (Calls.spliced_cons (wpAny_mkText (Calls.spliced_cons (wpAny_mkText (Calls.spliced_nil ?_))))))
  refine⟨bA _,?_⟩
  refine au (s:={s with heap:=h1,toks:=t1+1+1}) (by show 1≤t1+1+1;exact Om.o21) ?_
  refine SC.replaceW (u:=t1) (v:=t1+1) (Nat.ne_of_gt ht1) (Nat.succ_ne_zero t1) (Nat.ne_of_lt (Nat.lt_succ_self t1)) hyz hx hz (fun t' k ht=>?_)
  exact hq _ c1 α1 _ h1 k ht hK F1 L1 (.str _ _)
theorem jo {M:Model}{E:Value→Shared→Prop}{s:Shared}{x:Str}{t:Tok}{pl:Sem Bool}{Q:Value×List Value→Shared→Prop}(h:Q (.builtin "str.translate",[.str x t]) s):wpAny M A (getMethod (.str x t) "translate" pl) Q E s:=by
 with_reducible exact GM.of (.str x t) (typeIs_str _ _ _) PySem.F.slot_str_translate PySem.F.type_str_translate GM.noRef h
theorem uf (X:Cx0 prog w hb K₀ T P dep){o:Expr}{d:Addr}{x:Str}{p apos pos:Pos}(hsup:bj o=true)(hline:(apos.endLine==pos.line)=true){K:V→aa→Prop}
  (hd:∀c1 (K':V→aa→Prop),K' (.val (.ref d)) c1→Ev prog w A hb pr env l c1 (.Name x p) K')
  (h:Ev prog w A hb pr env l c o fun u c1=>fw u fun x=>d=P.td∧(∀ch∈x.cps.toList,ch<128)∧x.length≤big∧K (.d (.str ⟨x.cps.map P.tr⟩)) c1):Ev prog w A hb pr env l c (.Call (.Attribute o (Str.ofString "translate") apos) [.Name x p] [] pos) K:=by
 intro α s Q hs F hq
 refine dW hsup rfl (by simp) hline (h α s _ hs F fun u c1 α1 g1 h1 t1 ht1 k1 F1 L1 i1=>?_)
 obtain⟨x',rfl,rfl,hch,hx,hK⟩:=cy k1
 ·obtain⟨t,rfl⟩:=IsD.inv i1
  refine jo ?_
  refine du rfl (Calls.evalArgs_plain (Calls.spliced_cons (hd c1 (fun v c'=>v=.val (.ref P.td)∧c'=c1) ⟨rfl,rfl⟩ α1 _ _ ht1 F1 fun v c2 α2 g2 h2 t2 ht2 k2 F2 L2 i2=>Calls.spliced_nil ?_)))
  obtain⟨rfl,rfl⟩:=k2
  (subst i2)
  refine⟨bA _,?_⟩
  obtain⟨C',TO⟩:=X.tab
  refine au (s:={s with heap:=h2,toks:=t2}) ht2 ?_
  refine jh (s:={s with heap:=h2,toks:=t2}) TO (X.kin.keeps F2.base) hch hx (fun t' tk ht=>?_)
  exact hq _ c2 α2 _ h2 tk ht hK F2 (L1.trans L2) (.str _ _)
end
theorem jK {it:Expr}{env:Env}(h:eA it=true)(v:Value):foldedSetIterable it env v=pure v:=by
 cases it<;>first|rfl|exact absurd h Bool.false_ne_true
section
variable {prog:Program}{w:World}{A:Around}{hb:Heap}{pr:List Nat}{env:Env}{T:Tb}{P:Pm}{K₀:Frag}{dep:Nat}{l:Loc}{c:aa}
theorem Room.under {C:Addr}{vals:List Value}(R:Room (dep+1) A):Room dep (A.under (.builtin "type.__call__" ⟨.ref C::vals,[]⟩)):=by
 refine⟨R.handled,?_,?_⟩
 ·have h1:(A.under (.builtin "type.__call__" ⟨.ref C::vals,[]⟩)).depth=A.depth+1:=rfl
  have:=R.depth;rw[h1];exact Om.o8 this
 ·have h1:(A.under (.builtin "type.__call__" ⟨.ref C::vals,[]⟩)).units=A.units+1:=rfl
  have:=R.units;rw[h1];exact Om.o22 this
theorem vx (X:Cx0 prog w hb K₀ T P dep)(R:Room (dep+1) A){x:Str}{p pos:Pos}{args:List Expr}(hst:bH args=true){K:V→aa→Prop}
  (hx:∀c1 (K':V→aa→Prop),K' (.val (.ref P.C)) c1→Ev prog w A hb pr env l c1 (.Name x p) K')
  (h:OkArgs prog w A hb pr env l args c fun vs c1=>∃k dk,k∉dom c1∧dk∉dom c1∧k≠dk∧P.fn P.init (.obj k::vs) (c1++[(dk,.ns [])]++[(k,.inst P.C dk)]) (fun v c2=>v=.d .none∧eT (c1++[(dk,.ns [])]++[(k,.inst P.C dk)]) c2∧K (.obj k) c2)) :
  Ev prog w A hb pr env l c (.Call (.Name x p) args [] pos) K:=by
 intro α s Q hs F hq
 refine Call_Name (cF env pos hst) (hx c (fun v c'=>v=.val (.ref P.C)∧c'=c) ⟨rfl,rfl⟩ α s _ hs F fun u c1 α1 g1 h1 t1 ht1 k1 F1 L1 i1=>?_)
 obtain⟨rfl,rfl⟩:=k1
 (subst i1)
 refine bU (s:={s with heap:=h1,toks:=t1}) (fs:=[]) ht1 F1 .nil (h.mono fun vs c2 hk α2 s2 ws ht2 F2 L2 iv=>?_) fun v c' α' g h' tk ht hK F' L' i=>hq v c' α' g h' tk ht hK F' (L1.trans L') i
 obtain⟨kk,_,hkk⟩:=looks_keep (M:=model prog w) X.keep (X.kin.keeps F2.base)
 refine⟨⟨kk,hkk⟩,fun Q hq'=>?_⟩
 obtain⟨k,dk,hk1,hk2,hne,hfn⟩:=hk
 obtain⟨F3,L3⟩:=F2.new hk2 emptyDict (o:=.ns []) (fun L=>⟨emptyDict,#[],0,Heap.get?_push_size _ rfl,rfl,fun e he=>by simp at he,rfl,fun x=>rfl⟩)
 have hk1':k∉dom (c2++[(dk,.ns [])]):=by rw[af];simp[hk1,hne]
 have hdk:dk∈dom (c2++[(dk,O.ns [])]):=by rw[af];simp
 have adk:upd α2 dk s2.heap.objs.size dk=s2.heap.objs.size:=if_pos rfl
 obtain⟨F4,L4⟩:=F3.new hk1' (instObj P.C s2.heap.objs.size) (o:=.inst P.C dk) (fun L=>⟨by rw[L.agree dk hdk,adk,Heap.get?_push_size _ rfl],L.dom dk hdk⟩)
 have ak:upd (upd α2 dk s2.heap.objs.size) k (s2.heap.push emptyDict).objs.size k=s2.heap.objs.size+1:=by rw[show upd (upd α2 dk s2.heap.objs.size) k (s2.heap.push emptyDict).objs.size k=(s2.heap.push emptyDict).objs.size from if_pos rfl,Heap.size_push]
 refine au ht2 (wpAny_call ?_)
 have R':=R.under (C:=P.C) (vals:=ws)
 have ik:IsV (c2++[(dk,.ns [])]++[(k,.inst P.C dk)]) (upd (upd α2 dk s2.heap.objs.size) k (s2.heap.push emptyDict).objs.size) ((s2.heap.push emptyDict).push (instObj P.C s2.heap.objs.size)) (.obj k) (.ref (s2.heap.objs.size+1)):=⟨by rw[ak],by rw[af];simp⟩
 obtain⟨hp,g,d,tk,os⟩:=s2
 refine make_core (makes_of (X.kin.keeps F2.base) X.makes) (looks_findIn (X.kin.keeps F2.base) X.ini.1) (fun self=>bind_fn (X.kin.keeps F2.base) self X.ini.2) (.inl rfl) ?_
 refine X.inif _ R' (.obj k::vs) (.ref (hp.objs.size+1)::ws) _ _ ⟨(hp.push emptyDict).push (instObj P.C hp.objs.size),g,d,tk,os⟩ _ _ ht2 ⟨F4.base,F4.cell,F4.fresh,F4.inj,fun _ q=>by cases q⟩ (.cons ik ((L3.trans L4).isVs iv)) hfn fun v c' α' gg h' tk' hK C' L' i=>?_
 obtain⟨rfl,hdom,hK⟩:=hK
 cases i
 refine⟨rfl,fun ht=>?_⟩
 have C'':Cst hb pr c' α' h':=⟨C'.base,C'.cell,C'.fresh,C'.inj,fun j hj=>hdom j (F4.prs j hj)⟩
 exact hq' (.obj k) c' α' _ h' tk' ht hK (F4.le L' C'') ((L3.trans L4).trans L') (L'.isV ik)
theorem vZ (E:CxE env T)(R:Room (dep+1) A){elt iter:Expr}{ifs:List Expr}{x:Str}{px pos:Pos}{scope:Scope}{kk:Nat}(SO:ScopeOk scope x env)(hfold:eA iter=true){K:V→aa→Prop}
  (hi:Ev prog w A hb pr env l c iter fun v c1=>mW prog w A hb pr env l x elt ifs scope kk v c1 K):Ev prog w A hb pr env l c (.ListComp elt [⟨.Name x px,iter,ifs,0⟩] scope pos) K:=by
 intro α s Q hs F hq
 have hf:∀v,foldedSetIterable iter env v=pure v:=jK hfold
 show wpAny _ _ (comprehension _ scope env _ (newList []) false (eval iter env) none) _ _ _
 refine iJ E.eo R.handled SO hs F hf hi fun v c' α' g h' tk C ht hK F' L' i nf no nb hC hm=>?_
 obtain⟨m,hm⟩:=hm
 refine⟨m,hm,fun h'' hs''=>?_⟩
 have nz:∀o,dw o=true→h'.get? C≠some o:=fun o hz e=>by
  obtain⟨o',es,ep,ho,hd,_⟩:=hm
  rw[ho] at e;cases e;unfold dw at hz;rw[hd] at hz;cases hz
 exact hq v c' α' g h'' tk ht hK (F'.but nz (bB hs'') no nf nb) ⟨L'.dom,L'.agree,fun b o e n=>bB hs'' b o (fun q=>by rw[q,hC] at e;contradiction) (L'.kept b o e n),L'.grow⟩ (fR nz (bB hs'') i)
theorem oS (E:CxE env T)(R:Room (dep+1) A){elt iter:Expr}{ifs:List Expr}{x y:Str}{px py pos spos:Pos}{scope:Scope}{kk:Nat}(SO:ScopeOk scope x env)(hfold:eA iter=true)(hy:env.kindOf y=some .local)
  (hsw:swapsWith (.ListComp elt [⟨.Name x px,iter,ifs,0⟩] scope pos) (some (.Name y py)) spos.line env=pure true) {K:F→Sg→Prop}
  (hi:Ev prog w A hb pr env l c iter fun v c1=>mW prog w A hb pr env l x elt ifs scope kk v c1 (fun v c'=>K .next ⟨put l y v,c'⟩)) :
  OkS (model prog w) A hb pr env ⟨l,c⟩ (exec (.Assign [.Name y py] (.ListComp elt [⟨.Name x px,iter,ifs,0⟩] scope pos) spos) env) K:=by
 intro α s Q hs F hq
 have hf:∀v,foldedSetIterable iter env v=pure v:=jK hfold
 rw[exec_Assign_Name_used _ _ _ _ hsw]
 refine wpAny_bind (wpAny_standAt (wpAny_bind ?_))
 show wpAny _ A (do let _ ←comprehension (.ListComp elt [⟨.Name x px,iter,ifs,0⟩] scope pos) scope env _ (newList []) false (eval iter env) (some (assign (.Name y py) env))) _ _ s
 refine wpAny_bind (wpAny_mono (iJ (Q':=fun _ s'=>Q .next s') E.eo R.handled SO hs F hf hi fun v c' α' g h' tk C ht hK F' L' i nf no nb hC hm=>?_) (fun _ s' hq=>wpAny_pure (wpAny_pure hq)) fun _ _ e=>e)
 show wpAny _ A (assign (.Name y py) env g) _ _ _
 refine wpAny_assign_Name (au (s:={s with heap:=h',toks:=tk}) ht (dj (s:={s with heap:=h',toks:=tk}) E.eo F' hy i fun h2 tk2 F2 hs2 ht2=>?_))
 obtain⟨m,hm⟩:=hm
 have hCL:C≠env.locals:=fun q=>nf (.inl q)
 have hm2:h2.Ns C m:=hm.sameBut hs2 hCL
 refine⟨m,hm2,fun h3 hs3=>?_⟩
 have nz:∀o,dw o=true→h2.get? C≠some o:=fun o hz e=>by
  obtain⟨o',es,ep,ho,hd,_⟩:=hm2
  rw[ho] at e;cases e;unfold dw at hz;rw[hd] at hz;cases hz
 refine hq .next ⟨put l y v,c'⟩ α' .next h3 tk2 ht2 hK (F2.but nz (bB hs3) no nf nb) ?_ rfl
 have LS:LeS pr env c α s.heap c' α' h':=L'.leS F.toCst
 refine⟨LS.agree,fun b o e nfr n=>bB hs3 b o (fun q=>by rw[q,hC] at e;contradiction) (bB hs2 b o (fun q=>nfr (.inl q)) (LS.kept b o e nfr n)),LS.grow⟩
end
theorem cJ {env:Env}{k₀:NameKind}(hk₀:k₀≠.free):∀{names:List (Str×NameKind)} {x:Str},names.lookup x=some k₀→
  (names.map fun (n,k)=>if (k==NameKind.free&&env.scope.kind==.function&&env.kindOf n==some .cell) then (n,NameKind.cell) else (n,k)).lookup x=some k₀
 | [],_,h=>by simp at h
 | (n,k)::r,x,h=>by
  have ih:=@cJ env k₀ hk₀ r x
  show List.lookup x ((if (k==NameKind.free&&env.scope.kind==.function&&env.kindOf n==some .cell)=true then (n,NameKind.cell) else (n,k))::_)=_
  cases hx:x==n with
  |true=>
   simp only[List.lookup_cons,hx] at h
   cases h
   have:(k₀==NameKind.free)=false:=by cases k₀<;>first|rfl|exact absurd rfl hk₀
   simp[List.lookup_cons,hx,this]
  |false=>
   simp only[List.lookup_cons,hx] at h
   by_cases hc:(k==NameKind.free&&env.scope.kind==.function&&env.kindOf n==some .cell)=true
   ·rw[if_pos hc];simp only[List.lookup_cons,hx];exact ih h
   ·rw[if_neg hc];simp only[List.lookup_cons,hx];exact ih h
theorem f8 {names:List Str}:∀{fs:List Str} {is:List Nat},fs.mapM (aL names)=some is→fs.length=is.length∧∀(j:Nat) y,fs[j]?=some y→∃i,is[j]?=some i∧aL names y=some i
 | [],is,h=>by simp at h;subst h;exact⟨rfl,fun j y e=>by simp at e⟩
 |f::fs,is,h=>by
  rw[List.mapM_cons] at h
  cases hf:aL names f with
  |none=>rw[hf] at h;cases h
  |some i=>
   cases hr:fs.mapM (aL names) with
   |none=>rw[hf,hr] at h;cases h
   |some is'=>
    rw[hf,hr] at h;cases h
    obtain⟨h1,h2⟩:=f8 hr
    refine⟨by simp[h1],fun j y e=>?_⟩
    cases j with
    |zero=>(injection e with e;subst e);exact⟨i,rfl,hf⟩
    |succ j=>exact h2 j y e
section
variable {prog:Program}{w:World}{hb:Heap}{P:Pm}{K₀:Frag}{dep:Nat}
theorem gJ {env:Env}{T:Tb}(E:CxE env T){x:Str}{scope:Scope}(hs:dR T x scope=true){fs:List Str}(hfs:fs=(scope.names.filter fun p=>p.2==.free).map (·.1)) :
  ScopeOk scope x env∧(x::fs).Nodup∧(∀y∈fs,scope.names.lookup y=some .free)∧∀cl C,EnvOk (compEnvC scope cl C env)→CxE (compEnvC scope cl C env) {T with names:=x::fs,kinds:=scope.names}:=by
 unfold dR at hs
 simp only[Bool.and_eq_true,List.all_eq_true] at hs
 obtain⟨⟨⟨⟨⟨h1,h2⟩,h3⟩,h4⟩,h5⟩,h6⟩:=hs
 have hnd:(x::fs).Nodup:=by rw[hfs];exact of_decide_eq_true h6
 have hk:scope.kind=.function:=beq_iff_eq.mp h2
 refine⟨⟨fun y hy=>by simpa using h1 y hy,hk,fun y hy e=>?_,beq_iff_eq.mp h4,fun y hy=>?_⟩,hnd,fun y hy=>?_,fun cl C EO=>⟨EO,E.gl,E.bl,fun y e=>cJ (by decide) e,fun y e=>lookup_relabel_local e,fun y e=>?_,hnd⟩⟩
 ·have:=h3 y hy
  simpa [e] using this
 ·have:=h5 (y,.free) hy
  simp only[bne_self_eq_false,Bool.false_or,Bool.and_eq_true] at this
  exact E.kc y (beq_iff_eq.mp this.1)
 ·rw[hfs] at hy
  obtain⟨p,hp,rfl⟩:=List.mem_map.mp hy
  obtain⟨hp,hq⟩:=List.mem_filter.mp hp
  have:=h5 p hp
  rw[beq_iff_eq.mp hq] at this
  simp only[bne_self_eq_false,Bool.false_or,Bool.and_eq_true] at this
  exact beq_iff_eq.mp this.2
 ·have:=h1 _ (mem_of_lookup e)
  contradiction
def SE (prog:Program)(w:World)(hb:Heap)(P:Pm)(T:Tb)(env:Env)(A:Around)(pr:List Nat)(e:Expr)(ie:IE):Prop:=
 (∀n l c K,wpE P n ie l c K→Ev prog w A hb pr env (ad T.names l) c e K)∧(∀n l c K,wpT P n ie l c K→Tst prog w A hb pr env (ad T.names l) c e K)
def pR (prog:Program)(w:World)(hb:Heap)(P:Pm)(K₀:Frag)(dep m:Nat):Prop:=
 ∀(T:Tb) (env:Env) (A:Around) (pr:List Nat),Cx0 prog w hb K₀ T P dep→CxE env T→Room (dep+1) A→∀e ie,aF m T e=some ie→SE prog w hb P T env A pr e ie
section
variable {T:Tb}{env:Env}{A:Around}{pr:List Nat}{f:Expr→Option IE}(hf:∀a ia,f a=some ia→SE prog w hb P T env A pr a ia)
include hf
theorem d8:∀{es:List Expr} {ies:List IE},ej f es=some ies→∀n l c K,gT P n ies l c K→OkArgs prog w A hb pr env (ad T.names l) es c K:=by
 intro es
 induction es with
 |nil=>
  intro ies h n l c K hw
  (injection h with h;subst h)
  cases n with
  |zero=>exact hw.elim
  |succ n=>exact hw
 |cons e r ih=>
  intro ies h n l c K hw
  obtain⟨x,y,h1,h2,rfl⟩:=cK h
  cases n with
  |zero=>exact hw.elim
  |succ n=>
   exact OkE.mono ((hf e x h1).1 n l c _ hw) fun v c1 k=>ih h2 n l c1 _ k
theorem qR {o:Option Expr}{ie:IE}(h:vM f o=some ie)(n:Nat)(l:Sl)(c:aa)(K:V→aa→Prop)(hw:wpE P n ie l c K):OkE (model prog w) A hb pr env IsV (ad T.names l) c (evalPart o env) K:=by
 cases o with
 |none=>
  (injection h with h;subst h)
  cases n with
  |zero=>exact hw.elim
  |succ n=>
   exact fun α s Q hs F hq=>evalPart_none_step (hq _ c α _ s.heap s.toks hs hw F (.refl ..) .none)
 |some e=>
  have:=(hf e ie h).1 n l c K hw
  exact fun α s Q hs F hq=>evalPart_some_step (this α s Q hs F hq)
end
end
theorem fh {β:Type}{q:Str×β→Bool}:∀(l:List (Str×β)) (x:Str),(∀v,q (x,v)=true)→look (l.filter q) x=look l x
 | [],_,_=>rfl
 | (y,u)::r,x,h=>by
  rw[List.filter_cons]
  by_cases e:y=x
  ·subst e;rw[if_pos (h u)];dsimp only[look];simp
  ·by_cases hy:q (y,u)=true
   ·rw[if_pos hy];dsimp only[look];rw[if_neg e,if_neg e];exact fh r x h
   ·rw[if_neg hy];dsimp only[look];rw[if_neg e];exact fh r x h
theorem mh {names:List Str}:∀{x:Str} {i:Nat},aL names x=some i→names[i]?=some x:=by
 induction names with
 |nil=>intro x i h;contradiction
 |cons y ys ih=>
  intro x i h
  dsimp only[aL] at h
  by_cases e:y=x
  ·rw[if_pos e] at h;(injection h with h;subst h);rw[e];rfl
  ·rw[if_neg e] at h
   cases hs:aL ys x with
   |none=>rw[hs] at h;contradiction
   |some j=>rw[hs] at h;(injection h with h;subst h);exact ih hs
theorem oq {names:List Str}{y:Str}(h:y∈names):∃i,aL names y=some i:=by
 cases e:aL names y with
 |none=>exact absurd h (fM e)
 |some i=>exact⟨i,rfl⟩
theorem pG {T:Tb}(nd:T.names.Nodup){x:Str}{scope:Scope}{fs:List Str}{is:List Nat}(hfs:fs=(scope.names.filter fun p=>p.2==.free).map (·.1))(his:fs.mapM (aL T.names)=some is)(hnd:(x::fs).Nodup)(hfree:∀y∈fs,scope.names.lookup y=some .free)(l:Sl)(d:D)(y:Str) :
  look (ad (x::fs) (some (.d d)::is.map (aM l))) y=look (put (cb scope (ad T.names l)) x (.d d)) y:=by
 simp only[ah]
 show look ((x,V.d d)::ad fs (is.map (aM l))) y=_
 dsimp only[look]
 by_cases e:x=y
 ·subst e;simp
 rw[if_neg e,if_neg (fun q=>e q.symm)]
 by_cases hy:y∈fs
 ·obtain⟨j,hj⟩:=oq hy
  rw[cv (List.nodup_cons.mp hnd).2 _ hj]
  obtain⟨hlen,hm⟩:=f8 his
  obtain⟨i,h1,h2⟩:=hm j y (mh hj)
  unfold cb
  rw[fh _ _ (fun v=>by rw[hfree y hy];rfl),cv nd l h2]
  show (match (is.map (aM l))[j]? with|some o=>o|none=>none)=_
  rw[List.getElem?_map,h1]
  rfl
 ·rw[dQ _ _ hy]
  cases e':look (cb scope (ad T.names l)) y with
  |none=>rfl
  |some v=>
   obtain⟨_,h2⟩:=eY e'
   exact absurd (by rw[hfs];exact List.mem_map.mpr ⟨(y,.free),List.mem_filter.mpr ⟨mem_of_lookup h2,rfl⟩,rfl⟩) hy
section
variable {prog:Program}{w:World}{hb:Heap}{P:Pm}{K₀:Frag}{dep:Nat}
theorem Cx0.names {T:Tb}(X:Cx0 prog w hb K₀ T P dep)(ns:List Str)(ks:List (Str×NameKind)):Cx0 prog w hb K₀ {T with names:=ns,kinds:=ks} P dep:=
 ⟨X.kin,X.glob,X.cls,X.attr,X.meth,X.fn,X.makes,X.ini,X.inif,X.keep,X.tab⟩
theorem forIn_nil {M:Model}{A:Around}{pr:List Nat}{env:Env}{l:Loc}{c:aa}{f:Expr→Bool→Sem (ForInStep Bool)}{K:Bool→aa→Prop}(h:K true c) :
  OkE M A hb pr env okB l c (forIn ([]:List Expr) true f) K:=
 fun α s Q hs F hq=>wpAny_pure (hq true c α true s.heap s.toks hs h F (.refl ..) rfl)
theorem oZ {M:Model}{A:Around}{pr:List Nat}{env env':Env}{l:Loc}{c:aa}{t:Expr}{K:Bool→aa→Prop}(h:OkE M A hb pr env okB l c (isTrue t env' (eval t env')) K) :
  OkE M A hb pr env okB l c (forIn [t] true fun c r=>if r=true then do let ok ←isTrue c env' (eval c env');pure (ForInStep.yield ok) else pure (ForInStep.yield r)) K:=by
 have e:(forIn [t] true fun c r=>if r=true then do let ok ←isTrue c env' (eval c env');pure (ForInStep.yield ok) else pure (ForInStep.yield r):Sem Bool)=(do let ok ←isTrue t env' (eval t env');pure ok):=by
  simp
 simp only[e]
 intro α s Q hs F hq
 exact h α s Q hs F hq
theorem ft {m:Nat}(ihE:pR prog w hb P K₀ dep m){T:Tb}{env:Env}{A:Around}{pr:List Nat}(X:Cx0 prog w hb K₀ T P dep)(E:CxE env T)(R:Room (dep+1) A)
  {x:Str} {scope:Scope} (hs:dR T x scope=true) {fs:List Str} {is:List Nat} (hf:eQ T x scope=some (fs,is)) {elt:Expr} {ifs:List Expr} {ie:IE} {it:Option IE}
  (he:aF m {T with names:=x::fs,kinds:=scope.names} elt=some ie) (ht:(ifs=[]∧it=none)∨∃t jt,ifs=[t]∧aF m {T with names:=x::fs,kinds:=scope.names} t=some jt∧it=some jt)
  {n:Nat} {l:Sl} {kk:Nat} {v:V} {c1:aa} {K:V→aa→Prop}
  (hw:lc (wpE P n) (wpT P n) ie it (is.map (aM l)) kk K v c1) :
  mW prog w A hb pr env (ad T.names l) x elt ifs scope kk v c1 K:=by
 have hfs:fs=(scope.names.filter fun p=>p.2==.free).map (·.1)∧fs.mapM (aL T.names)=some is:=by
  unfold eQ at hf
  dsimp only at hf
  cases q:((scope.names.filter fun p=>p.2==.free).map (·.1)).mapM (aL T.names) with
  |none=>rw[q] at hf;contradiction
  |some is'=>rw[q] at hf;(injection hf with hf;injection hf with hf hf_;subst hf hf_);exact⟨rfl,q⟩
 obtain⟨SO,hnd,hfree,hE⟩:=gJ E hs hfs.1
 obtain⟨h1,xs,h2,h3,h4,I,h5,h6,h7⟩:=hw
 refine⟨h1,xs,h2,h3,h4,I,h5,fun i d acc c' hd hI=>?_,h7⟩
 obtain⟨h8,h9⟩:=h6 i d acc c' hd hI
 refine⟨h8,fun cl C EO=>?_⟩
 have X':=X.names (x::fs) scope.names
 have E':=hE cl C EO
 have lk:=fun y=>(pG E.nd hfs.1 hfs.2 hnd hfree l d y).symm
 have hel:=fun c2 K' h=>OkE.look lk ((ihE _ _ A pr X' E' R elt ie he).1 n (some (.d d)::is.map (aM l)) c2 K' h)
 rcases ht with ⟨rfl,rfl⟩|⟨t,jt,rfl,ht,rfl⟩
 ·refine forIn_nil ⟨fun _=>?_,fun q=>by cases q⟩
  exact hel _ _ h9
 ·refine oZ (OkE.look lk (OkE.mono ((ihE _ _ A pr X' E' R t jt ht).2 n _ _ _ h9) fun r c2 k=>⟨fun q=>hel _ _ (k.1 q),k.2⟩))
end
section
variable {prog:Program}{w:World}{hb:Heap}{P:Pm}{K₀:Frag}{dep:Nat}
theorem n8 {e:IE}(he:(match e with | .cmp .. | .not .. | .and .. | .or .. | .c .. | .ite ..=>false|_=>true)=true){n:Nat}{l:Sl}{c:aa}{K:Bool→aa→Prop}(h:wpT P n e l c K) :
  ∃n,wpE P n e l c fun u c1=>bJ c1 u fun r=>K r c1:=by
 cases n with
 |zero=>exact False.elim h
 |succ n=>cases e<;>first | (simp at he;done) | (exact⟨n,h⟩)
theorem eC {T:Tb}{env:Env}{A:Around}{pr:List Nat}{e:Expr}{ie:IE}(he:∀env',isTrue e env' (eval e env')=(do let v ←eval e env';standAt e.pos;holding [v] (truthy v)))
  (hi:(match ie with | .cmp .. | .not .. | .and .. | .or .. | .c .. | .ite ..=>false|_=>true)=true)
  (h:∀n l c K,wpE P (n+1) ie l c K→Ev prog w A hb pr env (ad T.names l) c e K) :
  SE prog w hb P T env A pr e ie:=by
 have h':∀n l c K,wpE P n ie l c K→Ev prog w A hb pr env (ad T.names l) c e K:=fun n l c K k=>by
  cases n with
  |zero=>exact False.elim k
  |succ n=>exact h n l c K k
 refine⟨h',fun n l c K k=>?_⟩
 obtain⟨m,k⟩:=n8 hi k
 exact qY (he env) (h' m l c _ k)
theorem u8 {T:Tb}{env:Env}{A:Around}{pr:List Nat}{e:Expr}{d:D}
  (h:∀l c (K:V→aa→Prop),K (.d d) c→Ev prog w A hb pr env l c e K) :
  SE prog w hb P T env A pr e (.c d):=by
 refine⟨fun n l c K k=>?_,fun n l c K k=>?_⟩
 ·cases n with
  |zero=>exact False.elim k
  |succ n=>exact h _ c K k
 ·cases n with
  |zero=>exact False.elim k
  |succ n=>exact False.elim k
theorem aX {α β:Type}{a:Option α}{f:α→Option β}{r:β}(h:(a>>=f)=some r):∃x,a=some x∧f x=some r:=by
 cases a with
 |none=>contradiction
 |some x=>exact⟨x,rfl,h⟩
theorem vf {α β δ ε γ:Type}{a:Option α}{b:Option β}{d:Option δ}{e:Option ε}{f:α→β→δ→ε→γ}{r:γ}(h:(do return f (←a) (←b) (←d) (←e))=some r):∃x y z u,a=some x∧b=some y∧d=some z∧e=some u∧r=f x y z u:=by
 obtain⟨x,hx,h⟩:=aX h
 obtain⟨y,hy,h⟩:=aX h
 obtain⟨z,hz,h⟩:=aX h
 obtain⟨u,hu,h⟩:=aX h
 exact⟨x,y,z,u,hx,hy,hz,hu,(Option.some.inj h).symm⟩
theorem uu {nm:Str}{m:Mn}(h:wm nm=some m):nm=m.nm:=eq_of_beq (List.find?_some (p:=fun m:Mn=>nm==m.nm) h)
theorem ff {c:aa}{v:V}{K K':Bool→Prop}(h:oR c v K)(hK:∀r,K r→K' r):oR c v K':=by
 unfold oR at h ⊢
 cases q:bW c v with
 |none=>rw[q] at h;exact h.elim
 |some p=>rw[q] at h;exact⟨h.1,hK _ h.2⟩
theorem fD {c:aa}{v:V}{K K':Bool→Prop}(h:bJ c v K)(hK:∀r,K r→K' r):bJ c v K':=by
 cases v with
 |d x=>cases x with
  |str x=>exact⟨h.1,hK _ h.2⟩
  |tup xs=>exact ff (c:=c) (v:=.d (.tup xs)) (K:=K) h hK
  |lst xs=>exact ff (c:=c) (v:=.d (.lst xs)) (K:=K) h hK
  |_=>exact hK _ h
 |mt e=>exact hK _ h
 |obj k=>exact ff (c:=c) (v:=.obj k) (K:=K) h hK
 |_=>exact h.elim
section
variable {A:Around}{pr:List Nat}{env:Env}{names:List Str}
theorem zp {a b:Expr}{r:List Expr}{p:Pos}{ia ib:IE}(ha:∀n l c K,wpE P n ia l c K→Ev prog w A hb pr env (ad names l) c a K)
  (hb':∀n l c K,wpE P n ib l c K→OkE (model prog w) A hb pr env IsV (ad names l) c (boolOp p .And (evalEach (b::r) env)) K) (n:Nat) (l:Sl) (c:aa) (K:V→aa→Prop) (k:wpE P n (.and ia ib) l c K) :
  Ev prog w A hb pr env (ad names l) c (.BoolOp .And (a::b::r) p) K:=by
 cases n with
 |zero=>exact False.elim k
 |succ n=>
  exact yc (OkE.mono (ha _ _ _ _ k) fun u c1 k1=>fD k1 fun r k2=>⟨k2.1,fun q=>hb' _ _ _ _ (k2.2 q)⟩)
theorem orV {a b:Expr}{r:List Expr}{p:Pos}{ia ib:IE}(ha:∀n l c K,wpE P n ia l c K→Ev prog w A hb pr env (ad names l) c a K)
  (hb':∀n l c K,wpE P n ib l c K→OkE (model prog w) A hb pr env IsV (ad names l) c (boolOp p .Or (evalEach (b::r) env)) K) (n:Nat) (l:Sl) (c:aa) (K:V→aa→Prop) (k:wpE P n (.or ia ib) l c K) :
  Ev prog w A hb pr env (ad names l) c (.BoolOp .Or (a::b::r) p) K:=by
 cases n with
 |zero=>exact False.elim k
 |succ n=>
  exact zd (OkE.mono (ha _ _ _ _ k) fun u c1 k1=>fD k1 fun r k2=>⟨k2.1,fun q=>hb' _ _ _ _ (k2.2 q)⟩)
theorem zy {a b:Expr}{r:List Expr}{p:Pos}{ia ib:IE}(ha:∀n l c K,wpT P n ia l c K→Tst prog w A hb pr env (ad names l) c a K)
  (hb':∀whole n l c K,wpT P n ib l c K→OkE (model prog w) A hb pr env okB (ad names l) c (isTrue (.BoolOp .And (b::r) p) env whole) K) (whole:Sem Value) (n:Nat) (l:Sl) (c:aa) (K:Bool→aa→Prop) (k:wpT P n (.and ia ib) l c K) :
  OkE (model prog w) A hb pr env okB (ad names l) c (isTrue (.BoolOp .And (a::b::r) p) env whole) K:=by
 cases n with
 |zero=>exact False.elim k
 |succ n=>
  exact qv (OkE.mono (ha _ _ _ _ k) fun r c1 k1=>⟨k1.1,fun q=>hb' _ _ _ _ _ (k1.2 q)⟩)
theorem orT {a b:Expr}{r:List Expr}{p:Pos}{ia ib:IE}(ha:∀n l c K,wpT P n ia l c K→Tst prog w A hb pr env (ad names l) c a K)
  (hb':∀whole n l c K,wpT P n ib l c K→OkE (model prog w) A hb pr env okB (ad names l) c (isTrue (.BoolOp .Or (b::r) p) env whole) K) (whole:Sem Value) (n:Nat) (l:Sl) (c:aa) (K:Bool→aa→Prop) (k:wpT P n (.or ia ib) l c K) :
  OkE (model prog w) A hb pr env okB (ad names l) c (isTrue (.BoolOp .Or (a::b::r) p) env whole) K:=by
 cases n with
 |zero=>exact False.elim k
 |succ n=>
  exact u4 (OkE.mono (ha _ _ _ _ k) fun r c1 k1=>⟨k1.1,fun q=>hb' _ _ _ _ _ (k1.2 q)⟩)
theorem zO {a:Expr}{p:Pos}{ia:IE}(ha:∀n l c K,wpT P n ia l c K→Tst prog w A hb pr env (ad names l) c a K)(whole:Sem Value)(n:Nat)(l:Sl)(c:aa)(K:Bool→aa→Prop)(k:wpT P n ia l c K) :
  OkE (model prog w) A hb pr env okB (ad names l) c (isTrue (.BoolOp .And [a] p) env whole) K:=
 qv (OkE.mono (ha _ _ _ _ k) fun r c2 k2=>⟨fun q=>by rw[q] at k2;exact k2,fun q=>rH (by rw[q] at k2;exact k2)⟩)
theorem orL {a:Expr}{p:Pos}{ia:IE}(ha:∀n l c K,wpT P n ia l c K→Tst prog w A hb pr env (ad names l) c a K)(whole:Sem Value)(n:Nat)(l:Sl)(c:aa)(K:Bool→aa→Prop)(k:wpT P n ia l c K) :
  OkE (model prog w) A hb pr env okB (ad names l) c (isTrue (.BoolOp .Or [a] p) env whole) K:=
 u4 (OkE.mono (ha _ _ _ _ k) fun r c2 k2=>⟨fun q=>by rw[q] at k2;exact k2,fun q=>tm (by rw[q] at k2;exact k2)⟩)
end
theorem jn {es:List Expr}{q:Expr×Expr}(h:two es=some q):es=[q.1,q.2]:=by
 match es,h with
 | [a,b],h=>cases h;rfl
theorem rj {es:List Expr}{q:Expr}(h:one es=some q):es=[q]:=by
 match es,h with
 | [a],h=>cases h;rfl
theorem nJ {e:Expr}{x:Str}(h:pn e=some x):∃n p,e=.Constant (.str x) n p:=by
 unfold pn at h
 cases q:fX e with
 |none=>rw[q] at h;cases h
 |some k=>
  rw[q] at h
  obtain⟨n,p,rfl⟩:=hM q
  cases k<;>first | (cases h;exact⟨n,p,rfl⟩)|cases h
section
variable {T:Tb}{env:Env}{A:Around}{pr:List Nat}{f:Expr→Option IE}(hf:∀a ia,f a=some ia→SE prog w hb P T env A pr a ia)
theorem qu {k:Const}{n:Nat}{p:Pos}{ie:IE}(h:qK k=some ie):SE prog w hb P T env A pr (.Constant k n p) ie:=by
 cases k<;>first | (cases h;exact u8 fun l c K k=>sf rfl k)|cases h
theorem t7 (X:Cx0 prog w hb K₀ T P dep)(E:CxE env T){x:Str}{p:Pos}{ie:IE}(h:gB T x=some ie):SE prog w hb P T env A pr (.Name x p) ie:=by
 refine eC (T:=T) (fun _=>rfl) ?_ fun n l c K k=>fQ X E h k
 rcases (hX h).2 with ⟨i,_,rfl⟩|⟨v,_,_,rfl⟩<;>rfl
theorem wn {a:Expr}{p:Pos}{ie:IE}(h:vV a=some ie):SE prog w hb P T env A pr (.UnaryOp .USub a p) ie:=by
 unfold vV at h
 cases q:fX a with
 |none=>rw[q] at h;cases h
 |some k=>
  rw[q] at h
  obtain⟨n,p,rfl⟩:=hM q
  cases k<;>first | (cases h;exact u8 fun l c K k=>y4 k)|cases h
include hf
theorem xm {a b:Expr}{op:Operator}{p:Pos}{ie:IE}(h:(do return IE.bin op (←f a) (←f b))=some ie):SE prog w hb P T env A pr (.BinOp a op b p) ie:=by
 obtain⟨x,y,h1,h2,rfl⟩:=cK h
 refine eC (T:=T) (fun _=>rfl) rfl fun n l c K k=>?_
 exact yM (OkE.mono ((hf _ _ h1).1 _ _ _ _ k) fun u c1 k1=>(hf _ _ h2).1 _ _ _ _ k1)
theorem x8 {op:UnaryOp}{a:Expr}{p:Pos}{ie:IE}(h:unE f op a=some ie):SE prog w hb P T env A pr (.UnaryOp op a p) ie:=by
 cases op with
 |Not=>
  obtain⟨x,h1,rfl⟩:=dF h
  refine⟨fun n l c K k=>?_,fun n l c K k=>?_⟩
  ·cases n with
   |zero=>exact False.elim k
   |succ n=>exact xN ((hf _ _ h1).1 _ _ _ _ k)
  ·cases n with
   |zero=>exact False.elim k
   |succ n=>exact wg ((hf _ _ h1).2 _ _ _ _ k)
 |USub=>exact wn h
 |_=>contradiction
theorem yn {p:Pos}(op:BoolOp):∀(r:List Expr) (a:Expr) {ie:IE},mS f op (a::r)=some ie→
  (∀n l c K,wpE P n ie l c K→OkE (model prog w) A hb pr env IsV (ad T.names l) c (boolOp p op (evalEach (a::r) env)) K)∧
  (∀whole n l c K,wpT P n ie l c K→OkE (model prog w) A hb pr env okB (ad T.names l) c (isTrue (.BoolOp op (a::r) p) env whole) K):=by
 intro r
 induction r with
 |nil=>
  intro a ie h
  have h:f a=some ie:=h
  cases op with
  |And=>exact⟨(hf _ _ h).1,zO (hf _ _ h).2⟩
  |Or=>exact⟨(hf _ _ h).1,orL (hf _ _ h).2⟩
 |cons b r ih=>
  intro a ie h
  cases op with
  |And=>
   obtain⟨x,y,h1,h2,rfl⟩:=cK (f:=fun x y=>IE.and x y) h
   exact⟨zp (p:=p) (hf _ _ h1).1 (ih b h2).1,zy (hf _ _ h1).2 (ih b h2).2⟩
  |Or=>
   obtain⟨x,y,h1,h2,rfl⟩:=cK (f:=fun x y=>IE.or x y) h
   exact⟨orV (p:=p) (hf _ _ h1).1 (ih b h2).1,orT (hf _ _ h1).2 (ih b h2).2⟩
theorem tb {op:BoolOp}{es:List Expr}{p:Pos}{ie:IE}(h:vk f op es=some ie):SE prog w hb P T env A pr (.BoolOp op es p) ie:=by
 match es,h with
 |a::b::r,h=>
  have q:=yn (p:=p) hf op (b::r) a h
  exact⟨q.1,q.2 _⟩
theorem vO (X:Cx0 prog w hb K₀ T P dep)(R:Room (dep+1) A){a:Expr}{ops:List CmpOp}{bs:List Expr}{p:Pos}{ie:IE}(h:yE f T a ops bs=some ie):SE prog w hb P T env A pr (.Compare a ops bs p) ie:=by
 match ops,bs,h with
 | [op],[b],h=>
  have h:(if fk b then (do return .cmp op (←f a) (←f b)) else none)=some ie:=h
  obtain⟨hset,h⟩:=ifO h
  obtain⟨x,y,h1,h2,rfl⟩:=cK h
  refine⟨fun n l c K k=>?_,fun n l c K k=>?_⟩
  ·cases n with
   |zero=>exact False.elim k
   |succ n=>exact xH R hset (OkE.mono ((hf _ _ h1).1 _ _ _ _ k) fun u c1 k1=>(hf _ _ h2).1 _ _ _ _ k1)
  ·cases n with
   |zero=>exact False.elim k
   |succ n=>exact wV R hset (OkE.mono ((hf _ _ h1).1 _ _ _ _ k) fun u c1 k1=>(hf _ _ h2).1 _ _ _ _ k1)
theorem wZ (X:Cx0 prog w hb K₀ T P dep){a i:Expr}{p:Pos}{ie:IE}(h:xq f T a i=some ie):SE prog w hb P T env A pr (.Subscript a i p) ie:=by
 unfold xq at h
 by_cases hn:cX i=true
 ·rw[if_pos hn] at h
  obtain⟨x,y,h1,h2,rfl⟩:=cK h
  refine eC (T:=T) (fun _=>rfl) rfl fun n l c K k=>?_
  exact wY hn (OkE.mono ((hf _ _ h1).1 _ _ _ _ k) fun u c1 k1=>(hf _ _ h2).1 _ _ _ _ k1)
 ·rw[if_neg hn] at h
  cases hs:ml i with
  |none=>rw[hs] at h;contradiction
  |some q=>
   obtain⟨lo,hi,st⟩:=q
   rw[hs] at h
   obtain⟨p,rfl⟩:=ol hs
   cases st with
   |some e=>contradiction
   |none=>
    obtain⟨x,y,z,h1,h2,h3,rfl⟩:=e0 h
    refine eC (T:=T) (fun _=>rfl) rfl fun n l c K k=>?_
    exact uM (OkE.mono ((hf _ _ h1).1 _ _ _ _ k) fun u c1 k1=>OkE.mono (qR hf h2 _ _ _ _ k1) fun v c2 k2=>qR hf h3 _ _ _ _ k2)
theorem ui (X:Cx0 prog w hb K₀ T P dep){a:Expr}{nm:Str}{p:Pos}{ie:IE}(h:ss f T a nm p=some ie):SE prog w hb P T env A pr (.Attribute a nm p) ie:=by
 unfold ss at h
 obtain⟨hsup,h⟩:=ifO h
 by_cases hnm:nm=Mn.append.nm
 ·rw[if_pos hnm] at h
  obtain⟨x,y,h1,h2,rfl⟩:=cK h
  refine eC (T:=T) (fun _=>rfl) rfl fun n l c K k=>?_
  rw[hnm]
  exact xA hsup ((hf _ _ h1).1 _ _ _ _ k)
 ·rw[if_neg hnm] at h
  obtain⟨x,h1,rfl⟩:=dF h
  refine eC (T:=T) (fun _=>rfl) rfl fun n l c K k=>?_
  exact xo X hsup ((hf _ _ h1).1 _ _ _ _ k)
theorem wB {es:List Expr}{k:Nat}{p:Pos}{ie:IE}(h:(if bH es then (do return IE.tup (←ej f es)) else none)=some ie):SE prog w hb P T env A pr (.Tuple es k p) ie:=by
 obtain⟨hst,h⟩:=ifO h
 obtain⟨x,h1,rfl⟩:=dF h
 refine eC (T:=T) (fun _=>rfl) rfl fun n l c K k=>?_
 exact qC hst (d8 hf h1 _ _ _ _ k)
theorem wG {es:List Expr}{p:Pos}{ie:IE}(h:(if bH es then (do return IE.lst (←ej f es) (T.cell p)) else none)=some ie):SE prog w hb P T env A pr (.List es p) ie:=by
 obtain⟨hst,h⟩:=ifO h
 obtain⟨x,h1,rfl⟩:=dF h
 refine eC (T:=T) (fun _=>rfl) rfl fun n l c K k=>?_
 exact yZ hst (d8 hf h1 _ _ _ _ k)
theorem th {o a b:Expr}{y z:Str}{apos pos:Pos}(hsup:bj o=true)(hline:(apos.endLine==pos.line)=true)(ha:pn a=some y)(hb':pn b=some z){x:IE}(h1:f o=some x):SE prog w hb P T env A pr (.Call (.Attribute o (Str.ofString "replace") apos) [a,b] [] pos) (.repl x y z):=by
 obtain⟨n1,p1,rfl⟩:=nJ ha
 obtain⟨n2,p2,rfl⟩:=nJ hb'
 refine eC (T:=T) (fun _=>rfl) rfl fun n l c K k=>?_
 exact wL hsup hline ((hf _ _ h1).1 _ _ _ _ k)
theorem s7 (X:Cx0 prog w hb K₀ T P dep)(E:CxE env T)(R:Room (dep+1) A){o:Expr}{nm:Str}{args:List Expr}{apos pos:Pos}(hsup:bj o=true)(hst:bH args=true)(hfew:args.length<30)(hline:(apos.endLine==pos.line)=true){ie:IE}(h:rN f T o nm args=some ie) :
  SE prog w hb P T env A pr (.Call (.Attribute o nm apos) args [] pos) ie:=by
 unfold rN at h
 by_cases hr:nm=Str.ofString "replace"
 ·rw[if_pos hr] at h
  subst hr
  obtain⟨q,hq,h⟩:=aX h
  obtain⟨y,hy,h⟩:=aX h
  obtain⟨z,hz,h⟩:=aX h
  obtain⟨x,h1,rfl⟩:=dF h
  rw[jn hq]
  exact th hf hsup hline hy hz h1
 rw[if_neg hr] at h
 by_cases ht:nm=Str.ofString "translate"
 ·rw[if_pos ht] at h
  subst ht
  obtain⟨a,ha,h⟩:=aX h
  obtain⟨q,hq,h⟩:=aX h
  rw[rj ha,bv hq]
  obtain⟨n',hname,h⟩:=aX h
  obtain⟨d,hd,h⟩:=aX h
  obtain⟨x,h1,rfl⟩:=dF h
  rw[ny hd] at hname
  exact eC (T:=T) (fun _=>rfl) rfl fun n l c K k=>uf X hsup hline (fun c1 K' k'=>fQ X E hname (n:=1) k') ((hf _ _ h1).1 _ _ _ _ k)
 rw[if_neg ht] at h
 cases hm:wm nm with
 |some m=>
  rw[hm] at h
  obtain⟨x,y,h1,h2,rfl⟩:=cK (f:=fun a b=>IE.meth a m b) h
  refine eC (T:=T) (fun _=>rfl) rfl fun n l c K k=>?_
  rw[uu hm]
  exact xu hsup hst hfew hline (OkE.mono ((hf _ _ h1).1 _ _ _ _ k) fun u c1 k1=>⟨k1.1,d8 hf h2 _ _ _ _ k1.2⟩)
 |none=>
  rw[hm] at h
  obtain⟨x,y,z,h1,h2,h3,rfl⟩:=e0 (f:=fun a b d=>IE.umeth a b nm d) h
  refine eC (T:=T) (fun _=>rfl) rfl fun n l c K k=>?_
  exact tR X R h2 hsup hst hfew hline (OkE.mono ((hf _ _ h1).1 _ _ _ _ k) fun u c1 k1=>⟨k1.1,d8 hf h3 _ _ _ _ k1.2⟩)
theorem xM (X:Cx0 prog w hb K₀ T P dep)(E:CxE env T)(R:Room (dep+1) A){x:Str}{p pos:Pos}{args:List Expr}(hst:bH args=true){ie:IE}(h:fnE f T x args pos=some ie):SE prog w hb P T env A pr (.Call (.Name x p) args [] pos) ie:=by
 unfold fnE at h
 cases hm:T.mak x pos with
 |some q=>
  obtain⟨C,k,dk⟩:=q
  rw[hm] at h
  obtain⟨n',hname,h⟩:=aX h
  obtain⟨C',hd,h⟩:=aX h
  obtain⟨rfl,h⟩:=ifO h
  obtain⟨y,h1,rfl⟩:=dF h
  rw[ny hd] at hname
  refine eC (T:=T) (fun _=>rfl) rfl fun n l c K k=>?_
  obtain⟨rfl,k⟩:=(k:C'=P.C∧_)
  exact vx X R hst (fun c1 K' k'=>fQ X E hname (n:=1) k') (d8 hf h1 _ _ _ _ k)
 |none=>
  rw[hm] at h
  obtain⟨y,z,h1,h2,rfl⟩:=cK (f:=fun a b=>IE.call a b (T.cell pos)) h
  refine eC (T:=T) (fun _=>rfl) rfl fun n l c K k=>?_
  exact wD X R hst (OkE.mono (fQ X E h1 k) fun u c1 k1=>d8 hf h2 _ _ _ _ k1)
theorem sP (X:Cx0 prog w hb K₀ T P dep)(E:CxE env T)(R:Room (dep+1) A){g:Expr}{args:List Expr}{kws:List Keyword}{pos:Pos}{ie:IE}(h:pI f T g args kws pos=some ie):SE prog w hb P T env A pr (.Call g args kws pos) ie:=by
 unfold pI at h
 obtain⟨hc,h⟩:=ifO h
 obtain⟨hk,hst⟩:=Bool.and_eq_true_iff.mp hc
 rw[List.isEmpty_iff.mp hk]
 cases hq:ed g with
 |some q=>
  obtain⟨o,nm,apos⟩:=q
  rw[hq] at h
  rw[dB hq]
  obtain⟨hc,h⟩:=ifO h
  obtain⟨hc,hline⟩:=Bool.and_eq_true_iff.mp hc
  obtain⟨hsup,hfew⟩:=Bool.and_eq_true_iff.mp hc
  exact s7 hf X E R hsup hst (of_decide_eq_true hfew) hline h
 |none=>
  rw[hq] at h
  cases hn:bZ g with
  |none=>rw[hn] at h;contradiction
  |some q=>
   rw[hn] at h
   rw[bv hn]
   exact xM hf X E R hst h
end
inductive LcO (f:Tb→Expr→Option IE)(T:Tb)(elt:Expr)(gs:List Comprehension)(scope:Scope)(ie:IE):Prop
 |mk (x:Str) (px:Pos) (iter:Expr) (ifs:List Expr) (fs:List Str) (is:List Nat) (k:Nat) (e it:IE) (jt:Option IE) (g:gs=[⟨.Name x px,iter,ifs,0⟩]) (s:dR T x scope=true) (o:eA iter=true) (r:eQ T x scope=some (fs,is)) (e1:f (ii T x fs scope) elt=some e) (e2:f T iter=some it)
   (j:(ifs=[]∧jt=none)∨∃t j,ifs=[t]∧f (ii T x fs scope) t=some j∧jt=some j) (z:ie=.comp e it jt is k)
theorem wp {f:Tb→Expr→Option IE}{T:Tb}{elt iter:Expr}{ifs:List Expr}{scope:Scope}{ie:IE}{q:Str×Pos}{r:List Str×List Nat}{k:Nat}{e it:IE}(hs:dR T q.1 scope=true)(hfold:eA iter=true)(hr:eQ T q.1 scope=some r)(he:f (ii T q.1 r.1 scope) elt=some e)(hit:f T iter=some it)
  (h:(match ifs with | []=>some (IE.comp e it none r.2 k)|t::ts=>if ts.isEmpty then (do return IE.comp e it (some (←f (ii T q.1 r.1 scope) t)) r.2 k) else none)=some ie):LcO f T elt [⟨.Name q.1 q.2,iter,ifs,0⟩] scope ie:=by
 cases ifs with
 |nil=>exact⟨q.1,q.2,iter,[],r.1,r.2,k,e,it,none,rfl,hs,hfold,hr,he,hit,.inl ⟨rfl,rfl⟩,(Option.some.inj h).symm⟩
 |cons t ts=>
  obtain⟨hte,h⟩:=ifO h
  obtain⟨j,hj,rfl⟩:=dF h
  have:ts=[]:=List.isEmpty_iff.mp hte
  subst this
  exact⟨q.1,q.2,iter,[t],r.1,r.2,k,e,it,some j,rfl,hs,hfold,hr,he,hit,.inr ⟨t,j,rfl,hj,rfl⟩,rfl⟩
theorem mU {f:Tb→Expr→Option IE}{T:Tb}{elt:Expr}{gs:List Comprehension}{scope:Scope}{pos:Pos}{ie:IE}(h:lcE f T elt gs scope pos=some ie):LcO f T elt gs scope ie:=by
 match gs,h with
 | [g],h=>
  obtain⟨tg,iter,ifs,asy⟩:=g
  obtain⟨q,hq,h⟩:=aX h
  obtain⟨hc,h⟩:=ifO h
  obtain⟨hc,_⟩:=Bool.and_eq_true_iff.mp hc
  obtain⟨hc,hfold⟩:=Bool.and_eq_true_iff.mp hc
  obtain⟨hasy,hs⟩:=Bool.and_eq_true_iff.mp hc
  obtain⟨r,hr,h⟩:=aX h
  obtain⟨k,hk,h⟩:=aX h
  obtain⟨e,he,h⟩:=aX h
  obtain⟨it,hit,h⟩:=aX h
  rw[(beq_iff_eq.mp hasy:asy=0),(bv hq:tg=_)]
  exact wp hs hfold hr he hit h
theorem xQ {m:Nat}(ihE:pR prog w hb P K₀ dep m){T:Tb}{env:Env}{A:Around}{pr:List Nat}(X:Cx0 prog w hb K₀ T P dep)(E:CxE env T)(R:Room (dep+1) A){elt:Expr}{gs:List Comprehension}{scope:Scope}{pos:Pos}{ie:IE}(h:lcE (aF m) T elt gs scope pos=some ie) :
  SE prog w hb P T env A pr (.ListComp elt gs scope pos) ie:=by
 obtain⟨x,px,iter,ifs,fs,is,k,e,it,jt,rfl,hs,hfold,hr,he,hit,hj,rfl⟩:=mU h
 obtain⟨SO,_⟩:=gJ E hs rfl
 exact eC (T:=T) (fun _=>rfl) rfl fun n l c K kk=>vZ E R SO hfold (OkE.mono ((ihE T env A pr X E R iter it hit).1 _ _ _ _ kk) fun v c1 k1=>ft ihE X E R hs hr he hj k1)
theorem xi {T:Tb}{env:Env}{A:Around}{pr:List Nat}{f:Expr→Option IE}(hf:∀a ia,f a=some ia→SE prog w hb P T env A pr a ia){t a b:Expr}{p:Pos}{ie:IE}(h:(do return IE.ite (←f t) (←f a) (←f b))=some ie):SE prog w hb P T env A pr (.IfExp t a b p) ie:=by
 obtain⟨x,y,z,h1,h2,h3,rfl⟩:=e0 (f:=fun a b d=>IE.ite a b d) h
 refine⟨fun n l c K k=>?_,fun n l c K k=>?_⟩
 ·cases n with
  |zero=>exact False.elim k
  |succ n=>
   intro α s Q hs F hq
   refine wpAny_IfExp ((hf _ _ h1).2 _ _ _ _ k α s _ hs F fun r c1 α1 g h1' t1 ht1 k1 F1 L1 i1=>?_)
   cases i1
   cases r with
   |true=>exact (hf _ _ h2).1 _ _ _ _ (k1.1 rfl) α1 _ Q ht1 F1 fun v c2 α2 g h' tk ht k2 F2 L2 i=>hq v c2 α2 g h' tk ht k2 F2 (L1.trans L2) i
   |false=>exact (hf _ _ h3).1 _ _ _ _ (k1.2 rfl) α1 _ Q ht1 F1 fun v c2 α2 g h' tk ht k2 F2 L2 i=>hq v c2 α2 g h' tk ht k2 F2 (L1.trans L2) i
 ·cases n with
  |zero=>exact False.elim k
  |succ n=>exact False.elim k
theorem oz {m:Nat}(ihE:pR prog w hb P K₀ dep m):pR prog w hb P K₀ dep (m+1):=by
 intro T env A pr X E R e ie h
 have hf:=fun a ia (ha:aF m T a=some ia)=>ihE T env A pr X E R a ia ha
 cases e with
 |Constant k n p=>exact qu h
 |Name x p=>exact t7 X E h
 |BinOp a op b p=>exact xm hf h
 |UnaryOp op a p=>exact x8 hf h
 |BoolOp op es p=>exact tb hf h
 |Compare a ops bs p=>exact vO hf X R h
 |Subscript a i p=>exact wZ hf X h
 |Attribute a nm p=>exact ui hf X h
 |Tuple es k p=>exact wB hf h
 |List es p=>exact wG hf h
 |IfExp t a b p=>exact xi hf h
 |Call g args kws p=>exact sP hf X E R h
 |ListComp elt gs scope p=>exact xQ ihE X E R h
 |_=>contradiction
theorem snd (m:Nat):pR prog w hb P K₀ dep m:=by
 induction m with
 |zero=>exact fun T env A pr X E R e ie h=>nomatch h
 |succ m ih=>exact oz ih
end
section
variable {M:Model}{A:Around}{hb:Heap}{pr:List Nat}{env:Env}
theorem OkS.look {l l':Loc}{c:aa}{t:Sem Flow}{K:F→Sg→Prop}(e:∀x,Mine.look l' x=Mine.look l x)(h:OkS M A hb pr env ⟨l',c⟩ t K):OkS M A hb pr env ⟨l,c⟩ t K:=
 fun α s Q hs F hq=>h α s Q hs (F.look fun x v q=>by rw[←e];exact q) hq
theorem OkS.mono {σ:Sg}{t:Sem Flow}{K K':F→Sg→Prop}(h:OkS M A hb pr env σ t K)(hK:∀f τ,K f τ→K' f τ):OkS M A hb pr env σ t K':=
 fun α s Q hs F hq=>h α s Q hs F fun f τ α' g h' tk ht k=>hq f τ α' g h' tk ht (hK f τ k)
end
def KS (names:List Str)(K:F→Sg'→Prop):F→Sg→Prop:=fun f τ=>∃σ:Sg',σ.l.length=names.length∧τ=⟨ad names σ.l,σ.c⟩∧K f σ
theorem mG {names:List Str}(nd:names.Nodup):∀{j:Nat} {x:Str},names[j]?=some x→aL names x=some j:=by
 induction names with
 |nil=>intro j x h;simp at h
 |cons y ys ih=>
  intro j x h
  obtain⟨h1,h2⟩:=List.nodup_cons.mp nd
  dsimp only[aL]
  cases j with
  |zero=>simp at h;rw[if_pos h]
  |succ j=>
   simp at h
   have:y≠x:=fun e=>h1 (e▸List.mem_of_getElem? h)
   rw[if_neg this,ih h2 h];rfl
theorem jz {names:List Str}(nd:names.Nodup){l:Sl}{c c':aa}:∀(ns:List Str) (r:Sl) (i:Nat),(∀j x,ns[j]?=some x→names[i+j]?=some x)→slW l c c' i r→mr (ad names l) c c' (ad ns r)
 | [],r,i,_,_=>by cases r<;>trivial
 |n::ns,[],i,_,_=>by show mr _ _ _ [];trivial
 |n::ns,none::r,i,h,hw=>by
  show mr _ _ _ (ad ns r)
  exact jz nd ns r (i+1) (fun j x e=>by have:=h (j+1) x e;rw[show i+1+j=i+(j+1) by exact Om.o23];exact this) hw
 |n::ns,some v::r,i,h,hw=>by
  show (∃v',look (ad names l) n=some v'∧vW c c' v' v)∧mr _ _ _ (ad ns r)
  refine⟨?_,jz nd ns r (i+1) (fun j x e=>by have:=h (j+1) x e;rw[show i+1+j=i+(j+1) by exact Om.o23];exact this) hw.2⟩
  obtain⟨v',h1,h2⟩:=hw.1
  exact⟨v',by rw[cv nd l (mG nd (h 0 n rfl))];exact h1,h2⟩
theorem Wk.weak {names:List Str}(nd:names.Nodup){pr:List Nat}{σ τ:Sg'}(h:Wk pr σ τ):Weak pr ⟨ad names σ.l,σ.c⟩ ⟨ad names τ.l,τ.c⟩:=
 ⟨jz nd names τ.l 0 (fun j x e=>by rw[Nat.zero_add];exact e) h.l,h.c,h.pr⟩
section
variable {prog:Program}{w:World}{hb:Heap}{P:Pm}{K₀:Frag}{dep:Nat}
def ul (prog:Program)(w:World)(hb:Heap)(P:Pm)(K₀:Frag)(dep m:Nat):Prop:=
 ∀(T:Tb) (env:Env) (A:Around) (pr:List Nat),Cx0 prog w hb K₀ T P dep→CxE env T→Room (dep+1) A→
  ∀st ist,vl m T st=some ist→∀n (σ:Sg') K,σ.l.length=T.names.length→wpS P pr n ist σ K→OkS (model prog w) A hb pr env ⟨ad T.names σ.l,σ.c⟩ (exec st env) (KS T.names K)
def lZ (prog:Program)(w:World)(hb:Heap)(P:Pm)(K₀:Frag)(dep m:Nat):Prop:=
 ∀(T:Tb) (env:Env) (A:Around) (pr:List Nat),Cx0 prog w hb K₀ T P dep→CxE env T→Room (dep+1) A→
  ∀b ib,bF m T b=some ib→∀n (σ:Sg') K,σ.l.length=T.names.length→wpB P pr n ib σ K→OkS (model prog w) A hb pr env ⟨ad T.names σ.l,σ.c⟩ (execs b env) (KS T.names K)
theorem oj {m:Nat}(ihS:ul prog w hb P K₀ dep m)(ihB:lZ prog w hb P K₀ dep m):lZ prog w hb P K₀ dep (m+1):=by
 intro T env A pr X E R b ib h n σ K hl hw
 cases b with
 |nil=>
  (injection h with h;subst h)
  cases n with
  |zero=>exact False.elim hw
  |succ n=>
   exact fun α s Q hs F hq=>wpAny_execs_nil (hq .next _ α _ s.heap s.toks hs ⟨σ,hl,rfl,hw⟩ F (.refl ..) rfl)
 |cons st r=>
  obtain⟨x,y,h1,h2,rfl⟩:=cK h
  cases n with
  |zero=>exact False.elim hw
  |succ n=>
   intro α s Q hs F hq
   refine wpAny_execs_cons (ihS T env A pr X E R st x h1 n σ _ hl hw α s _ hs F fun f τ α1 g h1' tk ht k F1 L1 i=>?_)
   obtain⟨σ',hl',rfl,k⟩:=k
   cases f with
   |next=>
    (subst i)
    exact ihB T env A pr X E R r y h2 n σ' K hl' k α1 _ Q ht F1 fun f υ α2 g h2 tk2 ht2 k2 F2 L2 i2=>hq f υ α2 g h2 tk2 ht2 k2 F2 (L1.trans L2 fun b hf=>(F2.fr b hf).2) i2
   |brk=>(subst i);exact hq .brk _ α1 _ h1' tk ht ⟨σ',hl',rfl,k⟩ F1 L1 rfl
   |cont=>(subst i);exact hq .cont _ α1 _ h1' tk ht ⟨σ',hl',rfl,k⟩ F1 L1 rfl
   |ret v=>obtain⟨g',rfl,i⟩:=i;exact hq (.ret v) _ α1 _ h1' tk ht ⟨σ',hl',rfl,k⟩ F1 L1 ⟨g',rfl,i⟩
theorem LeS.isV {env:Env}{pr:List Nat}{l:Loc}{c:aa}{α:Al}{h h':Heap}(L:LeS pr env c α h c α h')(F:Fst hb pr env l c α h){v:V}{g:Value}(i:IsV c α h v g):IsV c α h' v g:=by
 cases v with
 |d x=>exact L.isD F i
 |obj k=>exact i
 |val u=>exact i
 |rng p q=>obtain⟨r,t,u,v,e,g,n⟩:=i;exact⟨r,t,u,v,e,L.kept r _ g (fun f=>aW F f _ rfl g) n,n⟩
 |bi b=>exact i
 |mt e=>obtain⟨r,e,m⟩:=i;exact⟨r,e,m.step (fun b o hz g n=>L.kept b o g (fun f=>aW F f _ hz g) n) (fun _ e=>.inl e)⟩
theorem gO {env:Env}{value:Expr}{t:Option Expr}{n:Nat}(h:bt value=false):swapsWith value t n env=pure false:=by
 cases value<;>first|rfl|exact absurd h (nofun:¬(true=false))
theorem fY {env:Env}{T:Tb}(E:CxE env T){x:Str}{i:Nat}(h:bm T x=some i):ko env x∧aL T.names x=some i:=by
 unfold bm at h
 split at h
 ·rename_i q
  refine⟨?_,h⟩
  unfold nw at q
  simp only[Bool.or_eq_true] at q
  rcases q with q|q
  ·exact .inl (E.kl x (beq_iff_eq.mp q))
  ·exact .inr (E.kc x (beq_iff_eq.mp q))
 ·contradiction
theorem bx {env:Env}{A:Around}{pr:List Nat}{T:Tb}(E:CxE env T){x:Str}{i:Nat}(h:bm T x=some i){l:Sl}(hl:l.length=T.names.length){c:aa}{α:Al}{s:Shared}(hs:1≤s.toks){v:V}{g:Value}(F:Fst hb pr env (ad T.names l) c α s.heap)(iv:IsV c α s.heap v g)
  {Q:Unit→Shared→Prop} (hq:∀h' tk,1≤tk→Fst hb pr env (ad T.names (l.set i (some v))) c α h'→LeS pr env c α s.heap c α h'→IsV c α h' v g→Q () {s with heap:=h',toks:=tk}):wpAny (model prog w) A (storeName env x g) Q no s:=by
 obtain⟨h1,h2⟩:=fY E h
 refine au hs (kF E.eo F h1 iv fun h' tk F' L' ht=>?_)
 have F'':Fst hb pr env (ad T.names (l.set i (some v))) c α h':=F'.look fun y u q=>by rw[←gq E.nd hl h2 v y];exact q
 exact hq h' tk ht F'' L' (L'.isV F iv)
end
section
variable {prog:Program}{w:World}{hb:Heap}{P:Pm}{K₀:Frag}{dep:Nat}{env:Env}{A:Around}{pr:List Nat}{T:Tb}
theorem yG (E:CxE env T){x:Str}{i:Nat}(hi:bm T x=some i){σ:Sg'}(hl:σ.l.length=T.names.length){p pos:Pos}{value:Expr}(hv:bt value=false){K:F→Sg'→Prop}
  (h:Ev prog w A hb pr env (ad T.names σ.l) σ.c value fun v c1=>K .next ⟨σ.l.set i (some v),c1⟩) :
  OkS (model prog w) A hb pr env ⟨ad T.names σ.l,σ.c⟩ (exec (.Assign [.Name x p] value pos) env) (KS T.names K):=by
 intro α s Q hs F hq
 refine wpAny_Assign_Name (h α s _ hs F fun v c1 α1 g h1 t1 ht1 k1 F1 L1 i1=>?_) (gO hv)
 refine bx (s:={s with heap:=h1,toks:=t1}) E hi hl ht1 F1 i1 fun h2 t2 ht2 F2 L2 i2=>?_
 exact hq .next ⟨_,c1⟩ α1 _ h2 t2 ht2 ⟨⟨_,c1⟩,by rw[List.length_set];exact hl,rfl,k1⟩ F2 ((L1.leS F.toCst).trans L2 fun b hf=>(F2.fr b hf).2) rfl
theorem xl (E:CxE env T){x y:Str}{i j:Nat}(hi:bm T x=some i)(hj:bm T y=some j){σ:Sg'}(hl:σ.l.length=T.names.length){p q pos:Pos}{value:Expr}(hv:bt value=false){K:F→Sg'→Prop}
  (h:Ev prog w A hb pr env (ad T.names σ.l) σ.c value fun v c1=>K .next ⟨(σ.l.set i (some v)).set j (some v),c1⟩) :
  OkS (model prog w) A hb pr env ⟨ad T.names σ.l,σ.c⟩ (exec (.Assign [.Name x p,.Name y q] value pos) env) (KS T.names K):=by
 intro α s Q hs F hq
 refine wpAny_Assign_two (h α s _ hs F fun v c1 α1 g h1 t1 ht1 k1 F1 L1 i1=>?_)
 refine wpAny_assign_Name (bx (s:={s with heap:=h1,toks:=t1}) E hi hl ht1 F1 i1 fun h2 t2 ht2 F2 L2 i2=>?_)
 refine wpAny_assign_Name (bx (s:={s with heap:=h2,toks:=t2}) E hj (by rw[List.length_set];exact hl) ht2 F2 i2 fun h3 t3 ht3 F3 L3 i3=>?_)
 exact hq .next ⟨_,c1⟩ α1 _ h3 t3 ht3 ⟨⟨_,c1⟩,by rw[List.length_set,List.length_set];exact hl,rfl,k1⟩ F3 (((L1.leS F.toCst).trans L2 fun b hf=>(F2.fr b hf).2).trans L3 fun b hf=>(F3.fr b hf).2) rfl
theorem cR {c:aa}{u:V}{nm:Str}{v:V}{K:aa→Prop}(h:a8 P c u nm v K):∃k dk fs,u=.obj k∧ae c k=some (.inst P.C dk)∧ae c dk=some (.ns fs)∧P.attr nm=true∧fs.length≤1000∧K (cset c dk (.ns (put fs nm v))):=by
 obtain⟨k,e,h⟩:=d0 h
 obtain⟨C,dk,hk,rfl,h1,h⟩:=f0 h
 obtain⟨fs,hd,h⟩:=kt h
 exact⟨k,dk,fs,e,hk,hd,h1,h⟩
theorem kT {c:aa}{k dk:Nat}{fs:List (Str×V)}{nm:Str}{v:V}{K:aa→Prop}(g1:ae c k=some (.inst P.C dk))(g2:ae c dk=some (.ns fs))(g3:P.attr nm=true)(g4:fs.length≤1000)(h:K (cset c dk (.ns (put fs nm v)))):a8 P c (.obj k) nm v K:=by
 show er (ae c k) _
 rw[g1]
 refine⟨rfl,g3,?_⟩
 rw[g2]
 exact⟨g4,h⟩
theorem wP (X:Cx0 prog w hb K₀ T P dep)(E:CxE env T){o:Expr}{nm:Str}{σ:Sg'}(hl:σ.l.length=T.names.length){p pos:Pos}{value:Expr}(hv:bt value=false){K:F→Sg'→Prop}
  (h:Ev prog w A hb pr env (ad T.names σ.l) σ.c value fun v c1=>Ev prog w A hb pr env (ad T.names σ.l) c1 o fun u c2=>a8 P c2 u nm v fun c3=>K .next ⟨σ.l,c3⟩) :
  OkS (model prog w) A hb pr env ⟨ad T.names σ.l,σ.c⟩ (exec (.Assign [.Attribute o nm p] value pos) env) (KS T.names K):=by
 intro α s Q hs F hq
 refine plainObj_wpAny_Assign_Attribute (h α s _ hs F fun v c1 α1 g h1 t1 ht1 k1 F1 L1 i1=>?_) (gO hv)
 refine k1 α1 _ _ ht1 F1 fun u c2 α2 g2 h2 t2 ht2 k2 F2 L2 i2=>?_
 obtain⟨k,dk,fs,rfl,hk,hdk,hat,hsz,hK⟩:=cR k2
 obtain⟨rfl,_⟩:=i2
 refine au (s:={s with heap:=h2,toks:=t2}) ht2 (ez (s:={s with heap:=h2,toks:=t2}) F2 X.kin hk hdk X.cls (X.attr nm hat) hsz (L2.isV i1) fun h3 t3 F3 L3 ht3=>?_)
 exact hq .next ⟨ad T.names σ.l,cset c2 dk (.ns (put fs nm v))⟩ α2 _ h3 t3 ht3 ⟨⟨σ.l,cset c2 dk (.ns (put fs nm v))⟩,hl,rfl,hK⟩ F3 (((L1.trans L2).trans L3).leS F.toCst) rfl
theorem uE (X:Cx0 prog w hb K₀ T P dep)(E:CxE env T){o:Expr}{nm y:Str}{j:Nat}(hj:bm T y=some j){σ:Sg'}(hl:σ.l.length=T.names.length){p q pos:Pos}{value:Expr}(hv:bt value=false){K:F→Sg'→Prop}
  (h:Ev prog w A hb pr env (ad T.names σ.l) σ.c value fun v c1=>Ev prog w A hb pr env (ad T.names σ.l) c1 o fun u c2=>a8 P c2 u nm v fun c3=>K .next ⟨σ.l.set j (some v),c3⟩) :
  OkS (model prog w) A hb pr env ⟨ad T.names σ.l,σ.c⟩ (exec (.Assign [.Attribute o nm p,.Name y q] value pos) env) (KS T.names K):=by
 intro α s Q hs F hq
 refine wpAny_Assign_two (h α s _ hs F fun v c1 α1 g h1 t1 ht1 k1 F1 L1 i1=>?_)
 show wpAny _ A (do let ov ←holding [g] (eval o env);standAt p.atName;holding [g,ov] (setAttr ov nm g);release [g,ov] []) _ _ _
 refine wpAny_bind (wpAny_holding (k1 α1 _ _ ht1 F1 fun u c2 α2 g2 h2 t2 ht2 k2 F2 L2 i2=>?_))
 obtain⟨k,dk,fs,rfl,hk,hdk,hat,hsz,hK⟩:=cR k2
 obtain⟨rfl,_⟩:=i2
 refine wpAny_bind (wpAny_standAt (wpAny_bind (wpAny_holding (au (s:={s with heap:=h2,toks:=t2}) ht2 (ez (s:={s with heap:=h2,toks:=t2}) F2 X.kin hk hdk X.cls (X.attr nm hat) hsz (L2.isV i1) fun h3 t3 F3 L3 ht3=>?_)))))
 refine wpAny_release ?_
 refine wpAny_assign_Name (bx (s:={s with heap:=h3,toks:=t3}) E hj hl ht3 F3 (L3.isV (L2.isV i1)) fun h4 t4 ht4 F4 L4 i4=>?_)
 exact hq .next ⟨ad T.names (σ.l.set j (some v)),cset c2 dk (.ns (put fs nm v))⟩ α2 _ h4 t4 ht4 ⟨⟨σ.l.set j (some v),cset c2 dk (.ns (put fs nm v))⟩,by rw[List.length_set];exact hl,rfl,hK⟩ F4 ((((L1.trans L2).trans L3).leS F.toCst).trans L4 fun b hf=>(F4.fr b hf).2) rfl
theorem wT (E:CxE env T){σ:Sg'}(hl:σ.l.length=T.names.length){pos:Pos}{e:Expr}(hv:bt e=false){K:F→Sg'→Prop}
  (h:Ev prog w A hb pr env (ad T.names σ.l) σ.c e fun v c1=>K .next ⟨σ.l,c1⟩) :
  OkS (model prog w) A hb pr env ⟨ad T.names σ.l,σ.c⟩ (exec (.Expr e pos) env) (KS T.names K):=by
 intro α s Q hs F hq
 refine wpAny_Expr_any (h α s _ hs F fun v c1 α1 g h1 t1 ht1 k1 F1 L1 i1=>?_) E.eo.inter (gO hv)
 exact hq .next ⟨_,c1⟩ α1 _ h1 t1 ht1 ⟨⟨_,c1⟩,hl,rfl,k1⟩ F1 (L1.leS F.toCst) rfl
theorem zB {σ:Sg'}{t:Expr}{a b:List Stmt}{pos:Pos}{K:F→Sg→Prop}(h:Tst prog w A hb pr env (ad T.names σ.l) σ.c t fun r c1=>(r=true→OkS (model prog w) A hb pr env ⟨ad T.names σ.l,c1⟩ (execs a env) K)∧(r=false→OkS (model prog w) A hb pr env ⟨ad T.names σ.l,c1⟩ (execs b env) K)) :
  OkS (model prog w) A hb pr env ⟨ad T.names σ.l,σ.c⟩ (exec (.If t a b pos) env) K:=by
 intro α s Q hs F hq
 refine wpAny_If (h α s _ hs F fun r c1 α1 g h1 t1 ht1 k1 F1 L1 i1=>?_)
 cases i1
 cases r with
 |true=>
  rw[if_pos rfl]
  exact k1.1 rfl α1 _ Q ht1 F1 fun f τ α2 g2 h2 t2 ht2 k2 F2 L2 i2=>hq f τ α2 g2 h2 t2 ht2 k2 F2 ((L1.leS F.toCst).trans L2 fun b hf=>(F2.fr b hf).2) i2
 |false=>
  rw[if_neg (by decide)]
  exact k1.2 rfl α1 _ Q ht1 F1 fun f τ α2 g2 h2 t2 ht2 k2 F2 L2 i2=>hq f τ α2 g2 h2 t2 ht2 k2 F2 ((L1.leS F.toCst).trans L2 fun b hf=>(F2.fr b hf).2) i2
theorem xE {σ:Sg'}(hl:σ.l.length=T.names.length){e:Expr}{pos:Pos}{K:F→Sg'→Prop}(h:Ev prog w A hb pr env (ad T.names σ.l) σ.c e fun v c1=>K (.ret v) ⟨σ.l,c1⟩) :
  OkS (model prog w) A hb pr env ⟨ad T.names σ.l,σ.c⟩ (exec (.Return (some e) pos) env) (KS T.names K):=by
 intro α s Q hs F hq
 refine wpAny_Return_some (h α s _ hs F fun v c1 α1 g h1 t1 ht1 k1 F1 L1 i1=>?_)
 exact hq (.ret v) ⟨_,c1⟩ α1 _ h1 t1 ht1 ⟨⟨_,c1⟩,hl,rfl,k1⟩ F1 (L1.leS F.toCst) ⟨g,rfl,i1⟩
theorem qL {σ:Sg'}(hl:σ.l.length=T.names.length){t:Expr}{pos:Pos}{K:F→Sg'→Prop}(h:Tst prog w A hb pr env (ad T.names σ.l) σ.c t fun r c1=>r=true∧K .next ⟨σ.l,c1⟩) :
  OkS (model prog w) A hb pr env ⟨ad T.names σ.l,σ.c⟩ (exec (.Assert t none pos) env) (KS T.names K):=by
 intro α s Q hs F hq
 refine wpAny_Assert_holds (h α s _ hs F fun r c1 α1 g h1 t1 ht1 k1 F1 L1 i1=>?_)
 (subst i1)
 exact⟨k1.1,hq .next ⟨_,c1⟩ α1 _ h1 t1 ht1 ⟨⟨_,c1⟩,hl,rfl,k1.2⟩ F1 (L1.leS F.toCst) rfl⟩
end
section
variable {prog:Program}{w:World}{hb:Heap}{P:Pm}{K₀:Frag}{dep:Nat}{env:Env}{A:Around}{pr:List Nat}{T:Tb}
noncomputable def sta (e:Expr):Bool:=match e with
 | .Starred ..=>true
 |_=>false
theorem qx {e:Expr}(q:cC e=false):sta e=false:=by cases e<;>first|rfl|contradiction
theorem uQ {a b:Expr}(ha:cC a=false)(hb:cC b=false):[a,b].any sta=false:=by
 show (sta a||(sta b||false))=false
 rw[qx ha,qx hb];rfl
noncomputable def nmf (env:Env)(n:Nat)(e:Expr):Option Str:=match e with
 | .Name id pos=>if (env.kindOf id==some .local&&pos.line==n)=true then some id else none
 |_=>none
theorem oT {env:Env}{x y:Str}{px py:Pos}(kx:env.kindOf x=some .local)(ky:env.kindOf y=some .local)(h3:(py.line==px.line)=true):[Expr.Name x px,.Name y py].filterMap (nmf env px.line)=[x,y]:=by
 have e1:nmf env px.line (.Name x px)=some x:=if_pos (by rw[kx];simp)
 have e2:nmf env px.line (.Name y py)=some y:=if_pos (by rw[ky,h3];rfl)
 rw[List.filterMap_cons_some e1,List.filterMap_cons_some e2];rfl
theorem rQ (E:CxE env T){x y:Str}{px py tp vp:Pos}{k k':Nat}{a b:Expr}(h:ke T x px y py a b=true) :
  swappedStores [.Tuple [.Name x px,.Name y py] k tp] (.Tuple [a,b] k' vp) env=pure (some [x,y])∧cC a=false∧cC b=false:=by
 unfold ke at h
 obtain⟨h,h8⟩:=(Bool.and_eq_true _ _).mp h
 obtain⟨h,h7⟩:=(Bool.and_eq_true _ _).mp h
 obtain⟨h,h6⟩:=(Bool.and_eq_true _ _).mp h
 obtain⟨h,h5⟩:=(Bool.and_eq_true _ _).mp h
 obtain⟨h,h4⟩:=(Bool.and_eq_true _ _).mp h
 obtain⟨h,h3⟩:=(Bool.and_eq_true _ _).mp h
 obtain⟨h1,h2⟩:=(Bool.and_eq_true _ _).mp h
 have nt:∀{b:Bool},(!b)=true→b=false:=fun {b} q=>by cases b<;>first|rfl|contradiction
 have h4:=nt h4
 have h5:=nt h5
 have h6:=nt h6
 have h7:=nt h7
 have h8:=nt h8
 refine⟨?_,h5,h6⟩
 have hb':env.blockKind=.function:=by unfold Env.blockKind;rw[E.eo.kind];rfl
 have tn:=oT (E.kl x (eq_of_beq h1)) (E.kl y (eq_of_beq h2)) h3
 have hn:([x,y]:List Str).eraseDups.length=2:=by
  have:(y==x)=false:=by rw[beq_eq_false_iff_ne] at h4 ⊢;exact fun e=>h4 e.symm
  simp[List.eraseDups_cons,this]
 refine (if_neg (by rw[hb'];exact fun q=>Bool.false_ne_true q)).trans ((if_neg (by have q:=uQ h5 h6;intro q';exact Bool.false_ne_true (q.symm.trans q'))).trans ?_)
 refine (if_neg (fun q=>?_)).trans ((if_neg (fun q=>Bool.false_ne_true (h7.symm.trans q))).trans ((if_neg (fun q=>Bool.false_ne_true (h8.symm.trans q))).trans ?_))
 ·have q:(([Expr.Name x px,.Name y py].filterMap (nmf env px.line)).length != 2||([Expr.Name x px,.Name y py].filterMap (nmf env px.line)).eraseDups.length != ([Expr.Name x px,.Name y py].filterMap (nmf env px.line)).length)=true:=q
  rw[tn,hn] at q;exact Bool.false_ne_true q
 ·exact congrArg (fun l=>(pure (some l):Sem (Option (List Str)))) tn
theorem wu (E:CxE env T)(R:Room (dep+1) A){x y:Str}{i j:Nat}(hi:bm T x=some i)(hj:bm T y=some j){px py tp vp pos:Pos}{k k':Nat}{a b:Expr}(h2:ke T x px y py a b=true){σ:Sg'}(hl:σ.l.length=T.names.length){K:F→Sg'→Prop}
  (h:Ev prog w A hb pr env (ad T.names σ.l) σ.c a fun u c1=>Ev prog w A hb pr env (ad T.names σ.l) c1 b fun v c2=>(∃x y,u=.d x∧v=.d y)∧K .next ⟨(σ.l.set j (some v)).set i (some u),c2⟩) :
  OkS (model prog w) A hb pr env ⟨ad T.names σ.l,σ.c⟩ (exec (.Assign [.Tuple [.Name x px,.Name y py] k tp] (.Tuple [a,b] k' vp) pos) env) (KS T.names K):=by
 obtain⟨hsw,hsa,hsb⟩:=rQ (k:=k) (k':=k') (tp:=tp) (vp:=vp) E h2
 intro α s Q hs F hq
 have hE:Ev prog w A hb pr env (ad T.names σ.l) σ.c (.Tuple [a,b] k' vp) fun t c2=>∃x y,t=.d (.tup [x,y])∧K .next ⟨(σ.l.set j (some (.d y))).set i (some (.d x)),c2⟩:=by
  refine qC (by simp[bH,hsa,hsb]) ?_
  refine OkE.mono h fun u c1 h1=>OkE.mono h1 fun v c2 h2=>?_
  obtain⟨⟨x,y,rfl,rfl⟩,h2⟩:=h2
  exact⟨(by show 2≤big;decide),x,y,rfl,h2⟩
 refine Assign_Tuple_swapped (hE α s _ hs F fun t c2 α2 g h2 t2 ht2 k2 F2 L2 i2=>?_) rfl hsw
 obtain⟨dx,dy,rfl,hK⟩:=k2
 obtain⟨wx,wy,ta,ep,rfl,hg,ix,iy⟩:=IsD.two i2
 refine unpackItems_tuple (items:=#[wx,wy]) R.handled ⟨_,hg,rfl,_,rfl⟩ fun h3 he=>?_
 have hkeep:∀b o,h2.get? b=some o→h3.get? b=some o:=fun b o e=>he b o (fun q=>by rw[q] at e;exact Nat.lt_irrefl _ (Heap.lt_size e)) e
 obtain⟨F3,L3⟩:=F2.keeps hkeep
 show wpAny _ A (do holding [wx] (bindName env y wy);(do holding [] (bindName env x wx);pure ())) _ _ _
 refine wpAny_bind (wpAny_holding (bindName_ (bx (s:={s with heap:=h3,toks:=t2}) E hj hl ht2 F3 (v:=.d dy) (L3.isD iy) fun h4 t4 ht4 F4 L4 i4=>?_)))
 refine wpAny_bind (wpAny_holding (bindName_ (bx (s:={s with heap:=h4,toks:=t4}) E hi (by rw[List.length_set];exact hl) ht4 F4 (v:=.d dx) (L4.isD F3 (L3.isD ix)) fun h5 t5 ht5 F5 L5 i5=>wpAny_pure ?_)))
 exact hq .next ⟨_,c2⟩ α2 _ h5 t5 ht5 ⟨⟨_,c2⟩,by rw[List.length_set,List.length_set];exact hl,rfl,hK⟩ F5 ((((L2.trans L3).leS F.toCst).trans L4 fun b hf=>(F4.fr b hf).2).trans L5 fun b hf=>(F5.fr b hf).2) rfl
theorem uN {u:V}{K:D→D→Prop}(h:qh u K):∃x y,u=.d (.tup [x,y])∧K x y:=by
 obtain⟨x,rfl,h1⟩:=cL h
 cases x with
 |tup xs=>obtain⟨x,y,rfl,h2⟩:=xv h1;exact⟨x,y,rfl,h2⟩
 |_=>exact h1.elim
theorem wi (E:CxE env T)(R:Room (dep+1) A){x y:Str}{i j:Nat}(hi:bm T x=some i)(hj:bm T y=some j){px py tp pos:Pos}{k:Nat}{value:Expr}(hv:bt value=false)(hnt:pB value=none){σ:Sg'}(hl:σ.l.length=T.names.length){K:F→Sg'→Prop}
  (h:Ev prog w A hb pr env (ad T.names σ.l) σ.c value fun u c1=>qh u fun x y=>K .next ⟨(σ.l.set i (some (.d x))).set j (some (.d y)),c1⟩) :
  OkS (model prog w) A hb pr env ⟨ad T.names σ.l,σ.c⟩ (exec (.Assign [.Tuple [.Name x px,.Name y py] k tp] value pos) env) (KS T.names K):=by
 intro α s Q hs F hq
 have hsw:swappedStores [.Tuple [.Name x px,.Name y py] k tp] value env=pure none:=by
  cases value<;>first|rfl|contradiction
 refine wpAny_Assign_stores (h α s _ hs F fun u c2 α2 g h2 t2 ht2 k2 F2 L2 i2=>?_) (by cases value<;>first|rfl|exact absurd hv (nofun:¬(true=false))) hsw
 obtain⟨dx,dy,rfl,k2⟩:=uN k2
 obtain⟨wx,wy,ta,ep,rfl,hg,ix,iy⟩:=IsD.two i2
 refine wpAny_assign_Tuple (x1:=k) (items:=#[wx,wy]) R.handled ⟨_,hg,rfl,_,rfl⟩ rfl rfl fun h3 he=>?_
 have hkeep:∀b o,h2.get? b=some o→h3.get? b=some o:=fun b o e=>he b o (fun q=>by rw[q] at e;exact Nat.lt_irrefl _ (Heap.lt_size e)) e
 obtain⟨F3,L3⟩:=F2.keeps hkeep
 show wpAny _ A (do holding [wy] (assign (.Name x px) env wx);(do holding [] (assign (.Name y py) env wy);pure ())) _ _ _
 refine wpAny_bind (wpAny_holding (wpAny_assign_Name (bx (s:={s with heap:=h3,toks:=t2}) E hi hl ht2 F3 (v:=.d dx) (L3.isD ix) fun h4 t4 ht4 F4 L4 i4=>?_)))
 refine wpAny_bind (wpAny_holding (wpAny_assign_Name (bx (s:={s with heap:=h4,toks:=t4}) E hj (by rw[List.length_set];exact hl) ht4 F4 (v:=.d dy) (L4.isD F3 (L3.isD iy)) fun h5 t5 ht5 F5 L5 i5=>wpAny_pure ?_)))
 exact hq .next ⟨_,c2⟩ α2 _ h5 t5 ht5 ⟨⟨_,c2⟩,by rw[List.length_set,List.length_set];exact hl,rfl,k2⟩ F5 ((((L2.trans L3).leS F.toCst).trans L4 fun b hf=>(F4.fr b hf).2).trans L5 fun b hf=>(F5.fr b hf).2) rfl
theorem gN (X:Cx0 prog w hb K₀ T P dep){o:Expr}{nm:Str}{p:Pos}{l:Sl}{c:aa}{d:D}{K:aa→Prop}(h:Ev prog w A hb pr env (ad T.names l) c o fun u c2=>a8 P c2 u nm (.d d) K){α:Al}{s:Shared}{g:Value}{Q:Unit→Shared→Prop}(hs:1≤s.toks)
  (F:Fst hb pr env (ad T.names l) c α s.heap) (i:IsD s.heap (aE c α) d g) (hq:∀c' α' h' tk,1≤tk→K c'→Fst hb pr env (ad T.names l) c' α' h'→Le c α s.heap c' α' h'→Q () {s with heap:=h',toks:=tk}) :
  wpAny (model prog w) A (assign (.Attribute o nm p) env g) Q no s:=by
 show wpAny _ A (do let ov ←holding [g] (eval o env);standAt p.atName;holding [g,ov] (setAttr ov nm g);release [g,ov] []) _ _ _
 refine wpAny_bind (wpAny_holding (h α s _ hs F fun u c2 α2 g2 h2 t2 ht2 k2 F2 L2 i2=>?_))
 obtain⟨k,dk,fs,rfl,hk,hdk,hat,hsz,hK⟩:=cR k2
 obtain⟨rfl,_⟩:=i2
 refine wpAny_bind (wpAny_standAt (wpAny_bind (wpAny_holding (au (s:={s with heap:=h2,toks:=t2}) ht2 (ez (s:={s with heap:=h2,toks:=t2}) F2 X.kin hk hdk X.cls (X.attr nm hat) hsz (v:=.d d) (L2.isD i) fun h3 t3 F3 L3 ht3=>?_)))))
 exact wpAny_release (hq _ α2 h3 t3 ht3 hK F3 (L2.trans L3))
theorem vG (X:Cx0 prog w hb K₀ T P dep)(R:Room (dep+1) A){o1 o2:Expr}{n1 n2:Str}{p1 p2 tp vp pos:Pos}{k k':Nat}{a b:Expr}(hst:bH [a,b]=true){σ:Sg'}(hl:σ.l.length=T.names.length){K:F→Sg'→Prop}
  (h:Ev prog w A hb pr env (ad T.names σ.l) σ.c a fun u c1=>Ev prog w A hb pr env (ad T.names σ.l) c1 b fun v c2=>dd u v fun x y=>Ev prog w A hb pr env (ad T.names σ.l) c2 o1 fun u1 c3=>a8 P c3 u1 n1 (.d x) fun c4=>Ev prog w A hb pr env (ad T.names σ.l) c4 o2 fun u2 c5=>a8 P c5 u2 n2 (.d y) fun c6=>K .next ⟨σ.l,c6⟩) :
  OkS (model prog w) A hb pr env ⟨ad T.names σ.l,σ.c⟩ (exec (.Assign [.Tuple [.Attribute o1 n1 p1,.Attribute o2 n2 p2] k tp] (.Tuple [a,b] k' vp) pos) env) (KS T.names K):=by
 intro α s Q hs F hq
 have hE:Ev prog w A hb pr env (ad T.names σ.l) σ.c (.Tuple [a,b] k' vp) fun t c2=>∃x y,t=.d (.tup [x,y])∧Ev prog w A hb pr env (ad T.names σ.l) c2 o1 fun u1 c3=>a8 P c3 u1 n1 (.d x) fun c4=>Ev prog w A hb pr env (ad T.names σ.l) c4 o2 fun u2 c5=>a8 P c5 u2 n2 (.d y) fun c6=>K .next ⟨σ.l,c6⟩:=by
  refine qC hst ?_
  refine OkE.mono h fun u c1 h1=>OkE.mono h1 fun v c2 h2=>?_
  obtain⟨x,y,rfl,rfl,h2⟩:=m7 h2
  exact⟨(by show 2≤big;decide),x,y,rfl,h2⟩
 have hsw:swappedStores [.Tuple [.Attribute o1 n1 p1,.Attribute o2 n2 p2] k tp] (.Tuple [a,b] k' vp) env=pure none:=by
  have hsa:(if (!(([Expr.Attribute o1 n1 p1,.Attribute o2 n2 p2].length==2)||([Expr.Attribute o1 n1 p1,.Attribute o2 n2 p2].length==3))||([a,b].length != [Expr.Attribute o1 n1 p1,.Attribute o2 n2 p2].length)||env.blockKind != .function)=true then (pure none:Sem (Option (List Str))) else if ([a,b].any fun | .Starred ..=>true|_=>false)=true then pure none else pure none)=pure none:=by
   split
   ·rfl
   ·split<;>rfl
  exact hsa
 refine wpAny_Assign_stores (hE α s _ hs F fun u c2 α2 g h2 t2 ht2 k2 F2 L2 i2=>?_) rfl hsw
 obtain⟨dx,dy,rfl,k2⟩:=k2
 obtain⟨wx,wy,ta,ep,rfl,hg,ix,iy⟩:=IsD.two i2
 refine wpAny_assign_Tuple (x1:=k) (items:=#[wx,wy]) R.handled ⟨_,hg,rfl,_,rfl⟩ rfl rfl fun h3 he=>?_
 have hkeep:∀b o,h2.get? b=some o→h3.get? b=some o:=fun b o e=>he b o (fun q=>by rw[q] at e;exact Nat.lt_irrefl _ (Heap.lt_size e)) e
 obtain⟨F3,L3⟩:=F2.keeps hkeep
 show wpAny _ A (do holding [wy] (assign (.Attribute o1 n1 p1) env wx);(do holding [] (assign (.Attribute o2 n2 p2) env wy);pure ())) _ _ _
 refine wpAny_bind (wpAny_holding (gN (s:={s with heap:=h3,toks:=t2}) X k2 ht2 F3 (L3.isD ix) fun c4 α4 h4 t4 ht4 k4 F4 L4=>?_))
 refine wpAny_bind (wpAny_holding (gN (s:={s with heap:=h4,toks:=t4}) X k4 ht4 F4 (L4.isD (L3.isD iy)) fun c6 α6 h6 t6 ht6 k6 F6 L6=>wpAny_pure ?_))
 exact hq .next ⟨_,c6⟩ α6 _ h6 t6 ht6 ⟨⟨_,c6⟩,hl,rfl,k6⟩ F6 ((((L2.trans L3).trans L4).trans L6).leS F.toCst) rfl
theorem sT {c:aa}{u v:V}{K:aa→Prop}(h:ur c u v K):∃k xs,u=.obj k∧v=.d (.int (-1))∧ae c k=some (.list xs)∧xs≠[]∧xs.length≤big∧K (cset c k (.list xs.dropLast)):=by
 obtain⟨k,e,h⟩:=d0 h
 obtain⟨i,e',rfl,h⟩:=b9 h
 obtain⟨xs,hx,h⟩:=cH h
 exact⟨k,xs,e,e',hx,h⟩
theorem yq {o i:Expr}{p pos:Pos}{σ:Sg'}(hl:σ.l.length=T.names.length){K:F→Sg'→Prop}
  (h:Ev prog w A hb pr env (ad T.names σ.l) σ.c o fun u c1=>Ev prog w A hb pr env (ad T.names σ.l) c1 i fun v c2=>ur c2 u v fun c3=>K .next ⟨σ.l,c3⟩) :
  OkS (model prog w) A hb pr env ⟨ad T.names σ.l,σ.c⟩ (exec (.Delete [.Subscript o i p] pos) env) (KS T.names K):=by
 intro α s Q hs F hq
 refine wpAny_Delete (wpAny_deleteEach_cons ?_)
 rw[arm_delete_Subscript]
 refine wpAny_bind (h α s _ hs F fun u c1 α1 g h1 t1 ht1 k1 F1 L1 i1=>?_)
 refine wpAny_bind (wpAny_holding (k1 α1 _ _ ht1 F1 fun v c2 α2 g2 h2 t2 ht2 k2 F2 L2 i2=>?_))
 obtain⟨kk,xs,rfl,rfl,hx,hne,hbig,hK⟩:=sT k2
 ··obtain⟨rfl,hkm⟩:=L2.isV i1
   obtain⟨_,rfl⟩:=IsD.inv i2
   obtain⟨us,ep,gk,rk⟩:=F2.toCst.cell kk _ hx
   have hlen:us.length=xs.length:=rk.length.symm
   have hpos:0<us.length:=by rw[hlen];exact List.length_pos_iff.mpr hne
   refine wpAny_bind (wpAny_standAt (wpAny_bind (wpAny_holding (PySem.P.delItem_list (s:={s with heap:=h2,toks:=t2}) (items:=us.toArray) (k:=us.length-1) gk (by decide) ?_ ?_ ?_))))
   ·rw[List.size_toArray]
    show (if (decide (0≤(if (-1:Int)<0 then -1+(us.length:Int) else -1))&&decide ((if (-1:Int)<0 then -1+(us.length:Int) else -1)<(us.length:Int)))=true then some (if (-1:Int)<0 then -1+(us.length:Int) else -1).toNat else none)=_
    rw[if_pos (show (-1:Int)<0 by decide),decide_eq_true (by exact Om.o28 hpos),decide_eq_true (by exact Om.o27),Bool.and_self,if_pos rfl]
    congr 1;exact Om.o26
   ·refine wpAny_release (wpAny_deleteEach_nil ?_)
    have g8:(h2.update (α2 kk) (Obj.mapSeq fun xs=>xs.eraseIdxIfInBounds (us.length-1))).get? (α2 kk)=some (bc "list" us.dropLast (ep+1)):=by
     rw[Heap.get?_update_self _ gk (by rfl)]
     have e:us.toArray.eraseIdxIfInBounds (us.length-1)=us.dropLast.toArray:=by
      unfold Array.eraseIdxIfInBounds
      rw[dif_pos (by rw[List.size_toArray];exact Om.o25 hpos),List.eraseIdx_toArray,List.eraseIdx_length_sub_one]
     simp[Obj.mapSeq,e];exact Om.o24 hpos
    obtain⟨F8,L8⟩:=F2.set hkm (o:=.list xs.dropLast) (Heap.SameBut.update h2 (α2 kk) (Obj.mapSeq fun xs=>xs.eraseIdxIfInBounds (us.length-1))) (fun L=>⟨us.dropLast,ep+1,g8,by
     have q:=(L.isDs rk).take (us.length-1)
     rw[←List.dropLast_eq_take,hlen,←List.dropLast_eq_take,←hlen] at q;exact q⟩)
    exact hq .next ⟨ad T.names σ.l,cset c2 kk (.list xs.dropLast)⟩ α2 _ _ t2 ht2 ⟨⟨σ.l,cset c2 kk (.list xs.dropLast)⟩,hl,rfl,hK⟩ F8 (((L1.trans L2).trans L8).leS F.toCst) rfl
   ·rw[List.size_toArray,hlen];exact aJ hbig
end
section
variable {prog:Program}{w:World}{hb:Heap}{P:Pm}{K₀:Frag}{dep:Nat}
theorem oM {env:Env}{T:Tb}(E:CxE env T){x:Str}{px:Pos}{elt:Expr}{gs:List Comprehension}{scope:Scope}{pos:Pos}(n:Nat)(h:ic T x px (.ListComp elt gs scope pos)=true) :
  swapsWith (.ListComp elt gs scope pos) (some (.Name x px)) n env=pure true∧env.kindOf x=some .local:=by
 obtain⟨h,h3⟩:=(Bool.and_eq_true _ _).mp h
 obtain⟨h1,h2⟩:=(Bool.and_eq_true _ _).mp h
 have h1:=eq_of_beq h1
 have h3:(scope.names.any fun (n,k)=>n==x&&(k==.local||k==.cell))=false:=by simpa using h3
 have k:=E.kl x h1
 have hb':env.blockKind=.function:=by unfold Env.blockKind;rw[E.eo.kind];rfl
 refine⟨?_,k⟩
 show (pure (env.blockKind==.function&&env.kindOf x==some .local&&px.line==pos.line&&!(scope.names.any fun (n,k)=>n==x&&(k==.local||k==.cell))):Sem Bool)=_
 rw[hb',k,h2,h3]
 simp
theorem OkS.post {M:Model}{A:Around}{pr:List Nat}{env:Env}{σ:Sg}{t:Sem Flow}{K K':F→Sg→Prop}(h:OkS M A hb pr env σ t K)(hK:∀f τ,K f τ→∃l',(∀x,Mine.look l' x=Mine.look τ.l x)∧K' f ⟨l',τ.c⟩):OkS M A hb pr env σ t K':=
 fun α s Q hs F hq=>h α s Q hs F fun f τ α' g h' tk ht k F' L' i=>by
  obtain⟨l',e,k'⟩:=hK f τ k
  exact hq f ⟨l',τ.c⟩ α' g h' tk ht k' (F'.look fun x v q=>by rw[←e];exact q) L' i
theorem qb {T:Tb}{x:Str}{p:Pos}{value:Expr}(h:ic T x p value=true):∃elt gs scope pos,value=.ListComp elt gs scope pos:=by
 unfold ic at h
 cases q:lcP value with
 |none=>rw[q] at h;contradiction
 |some k=>obtain⟨elt,gs,e⟩:=wQ q;exact⟨elt,gs,_,_,e⟩
theorem tS {m:Nat}{T:Tb}{env:Env}{A:Around}{pr:List Nat}(X:Cx0 prog w hb K₀ T P dep)(E:CxE env T)(R:Room (dep+1) A){y:Str}{py spos:Pos}{value:Expr}(hsw:ic T y py value=true){i:Nat}(hi:bm T y=some i){e:IE}(h:aF m T value=some e)
  {n:Nat} {σ:Sg'} (hl:σ.l.length=T.names.length) {K:F→Sg'→Prop} (hw:wpE P n e σ.l σ.c fun v c1=>K .next ⟨σ.l.set i (some v),c1⟩) :
  OkS (model prog w) A hb pr env ⟨ad T.names σ.l,σ.c⟩ (exec (.Assign [.Name y py] value spos) env) (KS T.names K):=by
 obtain⟨elt,gs,scope,pos,rfl⟩:=qb hsw
 cases m with
 |zero=>contradiction
 |succ m=>
  have ihE:=snd (prog:=prog) (w:=w) (hb:=hb) (P:=P) (K₀:=K₀) (dep:=dep) m
  obtain⟨x,px,iter,ifs,fs,is,k,e',it,jt,rfl,hs,hfold,hr,he,hit,hj,rfl⟩:=mU (f:=aF m) h
  obtain⟨hs1,hk⟩:=oM E spos.line hsw
  obtain⟨SO,_⟩:=gJ E hs rfl
  obtain⟨_,hslot⟩:=fY E hi
  refine OkS.post (K:=fun f τ=>∃v c',f=.next∧τ=⟨put (ad T.names σ.l) y v,c'⟩∧K .next ⟨σ.l.set i (some v),c'⟩) ?_ ?_
  ·cases n with
   |zero=>exact False.elim hw
   |succ n=>
    exact oS E R SO hfold hk hs1 (kk:=k) (OkE.mono ((ihE T env A pr X E R iter it hit).1 _ _ _ _ hw) fun v c1 k1=>ft ihE X E R hs hr he hj (n:=n) (mI k1 fun v c q=>⟨v,c,rfl,rfl,q⟩))
  ·rintro f _ ⟨v,c',rfl,rfl,k⟩
   exact⟨ad T.names (σ.l.set i (some v)),fun z=>gq E.nd hl hslot v z,⟨σ.l.set i (some v),c'⟩,by rw[List.length_set];exact hl,rfl,k⟩
def SS (prog:Program)(w:World)(hb:Heap)(P:Pm)(T:Tb)(env:Env)(A:Around)(pr:List Nat)(st:Stmt)(ist:IS):Prop:=
 ∀(n:Nat) (σ:Sg') (K:F→Sg'→Prop),σ.l.length=T.names.length→wpS P pr n ist σ K→OkS (model prog w) A hb pr env ⟨ad T.names σ.l,σ.c⟩ (exec st env) (KS T.names K)
theorem SS.of {T:Tb}{env:Env}{A:Around}{pr:List Nat}{st:Stmt}{ist:IS}(h:∀(n:Nat) (σ:Sg') (K:F→Sg'→Prop),σ.l.length=T.names.length→wpS P pr (n+1) ist σ K→OkS (model prog w) A hb pr env ⟨ad T.names σ.l,σ.c⟩ (exec st env) (KS T.names K)):SS prog w hb P T env A pr st ist:=fun n σ K hl hw=>by
 cases n with
 |zero=>exact False.elim hw
 |succ n=>exact h n σ K hl hw
theorem fS {α:Type}{e:Expr}{a:Option α}{r:α}(h:(if bt e then none else a)=some r):bt e=false∧a=some r:=by
 cases q:bt e with
 |true=>rw[q] at h;contradiction
 |false=>rw[q] at h;exact⟨rfl,h⟩
section
variable {m:Nat}{T:Tb}{env:Env}{A:Around}{pr:List Nat}(X:Cx0 prog w hb K₀ T P dep)(E:CxE env T)(R:Room (dep+1) A)
include X E R
theorem ev' {a:Expr}{ia:IE}(ha:aF m T a=some ia):SE prog w hb P T env A pr a ia:=snd (prog:=prog) (w:=w) (hb:=hb) (P:=P) (K₀:=K₀) (dep:=dep) m T env A pr X E R a ia ha
theorem vw {t1 t2 a b:Expr}{k k':Nat}{p p' pos:Pos}{q1 q2:Str×Pos}(h1:bZ t1=some q1)(h2:bZ t2=some q2){ist:IS}(h:(if ke T q1.1 q1.2 q2.1 q2.2 a b then (do return IS.unp2 (←bm T q1.1) (←bm T q2.1) (←aF m T a) (←aF m T b)) else none)=some ist) :
  SS prog w hb P T env A pr (.Assign [.Tuple [t1,t2] k p] (.Tuple [a,b] k' p') pos) ist:=by
 rw[bv h1,bv h2]
 obtain⟨hsw,h⟩:=ifO h
 obtain⟨i,j,e,f,h1,h2,h3,h4,rfl⟩:=vf h
 refine .of fun n σ K hl hw=>?_
 exact wu E R h1 h2 hsw hl (OkE.mono ((ev' X E R h3).1 _ _ _ _ hw) fun u c1 k1=>(ev' X E R h4).1 _ _ _ _ k1)
theorem t9 {t1 t2 value:Expr}{q1 q2:Str×Pos}{p pos:Pos}{k:Nat}{ist:IS}(hq1:bZ t1=some q1)(hq2:bZ t2=some q2)(h:qd (aF m T) T q1.1 q1.2 q2.1 q2.2 value=some ist):SS prog w hb P T env A pr (.Assign [.Tuple [t1,t2] k p] value pos) ist:=by
 unfold qd at h
 cases hv:pB value with
 |some vs=>
  rw[hv] at h
  obtain⟨r,hr,h6⟩:=aX h
  obtain⟨k',p',rfl⟩:=jR hv
  rw[jn hr]
  exact vw X E R hq1 hq2 h6
 |none=>
  rw[hv] at h
  obtain⟨hc,h⟩:=fS h
  obtain⟨i,j,e,h1,h2,h3,rfl⟩:=e0 (f:=fun a b d=>IS.unpT a b d) h
  rw[bv hq1,bv hq2]
  refine .of fun n σ K hl hw=>?_
  exact wi E R h1 h2 hc hv hl ((ev' X E R h3).1 _ _ _ _ hw)
theorem tV {t1 t2 value:Expr}{q1 q2:Expr×Str×Pos}{p pos:Pos}{k:Nat}{ist:IS}(hq1:ed t1=some q1)(hq2:ed t2=some q2)(h:qD (aF m T) q1.1 q1.2.1 q2.1 q2.2.1 value=some ist):SS prog w hb P T env A pr (.Assign [.Tuple [t1,t2] k p] value pos) ist:=by
 unfold qD at h
 obtain⟨vs,hv,h1⟩:=aX h
 obtain⟨r,hr,h2⟩:=aX h1
 obtain⟨k',p',rfl⟩:=jR hv
 rw[jn hr]
 obtain⟨hst,h2⟩:=ifO h2
 obtain⟨x,y,a,b,e1,e2,e3,e4,rfl⟩:=vf (f:=fun x y a b=>IS.unpA x q1.2.1 y q2.2.1 a b) h2
 rw[dB hq1,dB hq2]
 refine .of fun n σ K hl hw=>?_
 refine vG X R hst hl (OkE.mono ((ev' X E R e3).1 _ _ _ _ hw) fun u c1 k1=>OkE.mono ((ev' X E R e4).1 _ _ _ _ k1) fun v c2 k2=>?_)
 obtain⟨dx,dy,rfl,rfl,k2⟩:=m7 k2
 refine OkE.mono ((ev' X E R e1).1 _ _ _ _ k2) fun u1 c3 k3=>?_
 obtain⟨kk,dk,fs,rfl,g1,g2,g3,g4,g5⟩:=cR k3
 exact kT g1 g2 g3 g4 ((ev' X E R e2).1 _ _ _ _ g5)
theorem uD {t value:Expr}{pos:Pos}{ist:IS}(h:vC (aF m T) T t value=some ist):SS prog w hb P T env A pr (.Assign [t] value pos) ist:=by
 unfold vC at h
 cases hn:bZ t with
 |some q=>
  rw[hn] at h
  rw[bv hn]
  have h:(if bt value then (if ic T q.1 q.2 value then (do return IS.asgC (←bm T q.1) (←aF m T value)) else none) else (do return IS.asg (←bm T q.1) (←aF m T value)))=some ist:=h
  by_cases hc:bt value=true
  ·rw[if_pos hc] at h
   obtain⟨hsw,h⟩:=ifO h
   obtain⟨i,e,h1,h2,rfl⟩:=cK h
   refine .of fun n σ K hl hw=>?_
   exact tS X E R hsw h1 h2 hl hw
  ·rw[if_neg hc] at h
   obtain⟨i,e,h1,h2,rfl⟩:=cK h
   refine .of fun n σ K hl hw=>?_
   exact yG E h1 hl (by simpa using hc) ((ev' X E R h2).1 _ _ _ _ hw)
 |none=>
  rw[hn] at h
  cases ha:ed t with
  |some q=>
   rw[ha] at h
   rw[dB ha]
   obtain⟨hc,h⟩:=fS h
   obtain⟨i,e,h1,h2,rfl⟩:=cK (f:=fun a d=>IS.asgA a _ d) h
   refine .of fun n σ K hl hw=>?_
   exact wP X E hl hc (OkE.mono ((ev' X E R h2).1 _ _ _ _ hw) fun u c1 k1=>(ev' X E R h1).1 _ _ _ _ k1)
  |none=>
   rw[ha] at h
   have h:xr (aF m T) T t value=some ist:=h
   unfold xr at h
   obtain⟨es,hes,h1⟩:=aX h
   obtain⟨q,hq,h2⟩:=aX h1
   clear h h1
   obtain⟨k,p,rfl⟩:=jR hes
   rw[jn hq]
   cases hq1:bZ q.1 with
   |some q1=>
    rw[hq1] at h2
    obtain⟨q2,hq2,h3⟩:=aX h2
    exact t9 X E R hq1 hq2 h3
   |none=>
    rw[hq1] at h2
    obtain⟨q1,hq1,h3⟩:=aX h2
    obtain⟨q2,hq2,h4⟩:=aX h3
    exact tV X E R hq1 hq2 h4
theorem uh {t1 t2 value:Expr}{pos:Pos}{ist:IS}(h:asg2 (aF m T) T t1 t2 value=some ist):SS prog w hb P T env A pr (.Assign [t1,t2] value pos) ist:=by
 obtain⟨q2,hq2,h⟩:=aX h
 rw[bv hq2]
 obtain⟨hc,h⟩:=fS h
 cases hn:bZ t1 with
 |some q=>
  rw[hn] at h
  rw[bv hn]
  obtain⟨i,j,e,h1,h2,h3,rfl⟩:=e0 h
  refine .of fun n σ K hl hw=>?_
  exact xl E h1 h2 hl hc ((ev' X E R h3).1 _ _ _ _ hw)
 |none=>
  rw[hn] at h
  obtain⟨q,hq,h⟩:=aX h
  rw[dB hq]
  obtain⟨i,j,e,h1,h2,h3,rfl⟩:=e0 (f:=fun a b d=>IS.asgA2 a _ b d) h
  refine .of fun n σ K hl hw=>?_
  exact uE X E h2 hl hc (OkE.mono ((ev' X E R h3).1 _ _ _ _ hw) fun u c1 k1=>(ev' X E R h1).1 _ _ _ _ k1)
theorem wb {ts:List Expr}{value:Expr}{pos:Pos}{ist:IS}(h:yF (aF m T) T ts value=some ist):SS prog w hb P T env A pr (.Assign ts value pos) ist:=by
 match ts,h with
 | [t],h=>exact uD X E R h
 | [t1,t2],h=>exact uh X E R h
theorem vN {ts:List Expr}{pos:Pos}{ist:IS}(h:vA (aF m T) ts=some ist):SS prog w hb P T env A pr (.Delete ts pos) ist:=by
 unfold vA at h
 obtain⟨t,ht,h1⟩:=aX h
 obtain⟨q,hq,h2⟩:=aX h1
 obtain⟨a,i,e1,e2,rfl⟩:=cK (f:=fun a b=>IS.del_ a b) h2
 obtain⟨p,rfl⟩:=sx hq
 rw[rj ht]
 refine .of fun n σ K hl hw=>?_
 exact yq hl (OkE.mono ((ev' X E R e1).1 _ _ _ _ hw) fun u c1 k1=>(ev' X E R e2).1 _ _ _ _ k1)
theorem vL {e:Option Expr}{pos:Pos}{ist:IS}(h:xZ (aF m T) e=some ist):SS prog w hb P T env A pr (.Return e pos) ist:=by
 cases e with
 |none=>
  (injection h with h;subst h)
  refine .of fun n σ K hl hw=>?_
  exact fun α s Q hs F hq=>wpAny_Return_none (hq (.ret (.d .none)) _ α _ s.heap s.toks hs ⟨σ,hl,rfl,hw⟩ F (.refl ..) ⟨.none,rfl,.none⟩)
 |some e=>
  obtain⟨e,h1,rfl⟩:=dF h
  refine .of fun n σ K hl hw=>?_
  exact xE hl ((ev' X E R h1).1 _ _ _ _ hw)
theorem oy {t:Expr}{msg:Option Expr}{pos:Pos}{ist:IS}(h:(if msg.isNone then (do return IS.assert (←aF m T t)) else none)=some ist):SS prog w hb P T env A pr (.Assert t msg pos) ist:=by
 obtain⟨hm,h⟩:=ifO h
 rw[Option.isNone_iff_eq_none.mp hm]
 obtain⟨e,h1,rfl⟩:=dF h
 refine .of fun n σ K hl hw=>?_
 exact qL hl ((ev' X E R h1).2 _ _ _ _ hw)
theorem s8 {e:Expr}{pos:Pos}{ist:IS}(h:(if bt e then none else (do return IS.expr (←aF m T e)))=some ist):SS prog w hb P T env A pr (.Expr e pos) ist:=by
 obtain⟨hc,h⟩:=fS h
 obtain⟨e,h1,rfl⟩:=dF h
 refine .of fun n σ K hl hw=>?_
 exact wT E hl hc ((ev' X E R h1).1 _ _ _ _ hw)
theorem yw (ihB:lZ prog w hb P K₀ dep m){t:Expr}{a b:List Stmt}{pos:Pos}{ist:IS}(h:(do return IS.if_ (←aF m T t) (←bF m T a) (←bF m T b))=some ist):SS prog w hb P T env A pr (.If t a b pos) ist:=by
 obtain⟨t,a,b,h1,h2,h3,rfl⟩:=e0 h
 refine .of fun n σ K hl hw=>?_
 refine zB (OkE.mono ((ev' X E R h1).2 _ _ _ _ hw) fun r c1 k1=>⟨fun q=>?_,fun q=>?_⟩)
 ·exact ihB T env A pr X E R _ _ h2 n ⟨σ.l,c1⟩ K hl (k1.1 q)
 ·exact ihB T env A pr X E R _ _ h3 n ⟨σ.l,c1⟩ K hl (k1.2 q)
theorem q8 (ihB:lZ prog w hb P K₀ dep m){t:Expr}{a b:List Stmt}{pos:Pos}{ist:IS}(h:(do return IS.while_ (←aF m T t) (←bF m T a) (←bF m T b))=some ist):SS prog w hb P T env A pr (.While t a b pos) ist:=by
 obtain⟨t,a,b,h1,h2,h3,rfl⟩:=e0 h
 refine .of fun n σ K hl hw=>?_
 obtain⟨I,k,hI,turn⟩:=hw
 refine sn (fun k τ=>∃σ:Sg',σ.l.length=T.names.length∧τ=⟨ad T.names σ.l,σ.c⟩∧I k σ) k ⟨σ,hl,rfl,hI⟩ ?_
 rintro k _ ⟨τ,hlτ,rfl,hIτ⟩
 refine OkE.mono ((ev' X E R h1).2 _ _ _ _ (turn k τ hIτ)) fun r c1 k1=>⟨fun q=>?_,fun q=>?_⟩
 ·refine OkS.mono (ihB T env A pr X E R _ _ h2 n ⟨τ.l,c1⟩ _ hlτ (k1.1 q)) fun f υ kk=>?_
  obtain⟨σ',hl',rfl,kk⟩:=kk
  cases f with
  |next=>obtain⟨k',υ',hk',W,hI'⟩:=kk;exact⟨k',_,hk',W.weak E.nd,υ',by rw[W.len];exact hl',rfl,hI'⟩
  |cont=>obtain⟨k',υ',hk',W,hI'⟩:=kk;exact⟨k',_,hk',W.weak E.nd,υ',by rw[W.len];exact hl',rfl,hI'⟩
  |brk=>exact⟨σ',hl',rfl,kk⟩
  |ret v=>exact⟨σ',hl',rfl,kk⟩
 ·exact ihB T env A pr X E R _ _ h3 n ⟨τ.l,c1⟩ K hlτ (k1.2 q)
theorem vT (ihB:lZ prog w hb P K₀ dep m){t it:Expr}{a b:List Stmt}{pos:Pos}{ist:IS}(h:yj (aF m T) (bF m T) T t it a b=some ist):SS prog w hb P T env A pr (.For t it a b pos) ist:=by
 obtain⟨q,hq,h⟩:=aX h
 rw[bv hq]
 obtain⟨hc,h⟩:=ifO h
 obtain⟨hb',hfold⟩:=Bool.and_eq_true_iff.mp hc
 rw[List.isEmpty_iff.mp hb']
 obtain⟨i,it,a,h1,h2,h3,rfl⟩:=e0 h
 refine .of fun n σ K hl hw=>?_
 obtain⟨hst,hslot⟩:=fY E h1
 refine wt E.eo R.handled hst (jK hfold) (OkE.mono ((ev' X E R h2).1 _ _ _ _ hw) fun v c1 k1=>?_)
 obtain⟨hsm,xs,hxs,I,hI,turn,fin⟩:=k1
 refine⟨hsm,xs,hxs,fun j τ=>∃σ:Sg',σ.l.length=T.names.length∧τ=⟨ad T.names σ.l,σ.c⟩∧I j σ,⟨⟨σ.l,c1⟩,hl,rfl,hI⟩,?_,?_⟩
 ·rintro j d _ hd ⟨τ,hlτ,rfl,hIτ⟩
  obtain⟨hlt,hb'⟩:=turn j d τ hd hIτ
  refine OkS.look (fun y=>gq E.nd hlτ hslot (.d d) y) ?_
  refine OkS.mono (ihB T env A pr X E R _ _ h3 n ⟨τ.l.set i (some (.d d)),τ.c⟩ _ (by rw[List.length_set];exact hlτ) hb') fun f υ kk=>?_
  obtain⟨σ',hl',rfl,kk⟩:=kk
  cases f with
  |next=>obtain⟨υ',W,hI'⟩:=kk;exact⟨_,W.weak E.nd,υ',by rw[W.len];exact hl',rfl,hI'⟩
  |cont=>obtain⟨υ',W,hI'⟩:=kk;exact⟨_,W.weak E.nd,υ',by rw[W.len];exact hl',rfl,hI'⟩
  |brk=>exact⟨σ',hl',rfl,kk⟩
  |ret v=>exact⟨σ',hl',rfl,kk⟩
 ·rintro _ ⟨τ,hlτ,rfl,hIτ⟩
  exact⟨τ,hlτ,rfl,fin τ hIτ⟩
end
theorem on {m:Nat}(ihS:ul prog w hb P K₀ dep m)(ihB:lZ prog w hb P K₀ dep m):ul prog w hb P K₀ dep (m+1):=by
 intro T env A pr X E R st ist h
 cases st with
 |Assign ts value p=>exact wb X E R h
 |If t a b p=>exact yw X E R ihB h
 |While t a b p=>exact q8 X E R ihB h
 |For t it a b p=>exact vT X E R ihB h
 |Return e p=>exact vL X E R h
 |Delete ts p=>exact vN X E R h
 |Assert t msg p=>exact oy X E R h
 |Expr e p=>exact s8 X E R h
 |Continue p=>
  (injection h with h;subst h)
  refine SS.of fun n σ K hl hw=>?_
  exact fun α s Q hs F hq=>wpAny_Continue (hq .cont _ α _ s.heap s.toks hs ⟨σ,hl,rfl,hw⟩ F (.refl ..) rfl)
 |Break p=>
  (injection h with h;subst h)
  refine SS.of fun n σ K hl hw=>?_
  exact fun α s Q hs F hq=>wpAny_Break (hq .brk _ α _ s.heap s.toks hs ⟨σ,hl,rfl,hw⟩ F (.refl ..) rfl)
 |_=>contradiction
theorem yI (m:Nat):ul prog w hb P K₀ dep m∧lZ prog w hb P K₀ dep m:=by
 induction m with
 |zero=>exact⟨fun T env A pr X E R e ie h=>(nomatch h),fun T env A pr X E R e ie h=>(nomatch h)⟩
 |succ m ih=>exact⟨on ih.1 ih.2,oj ih.1 ih.2⟩
end
noncomputable def ee:F→V
 | .ret v=>v
 |_=>.d .none
noncomputable def start (vs:List V)(n:Nat):Sl:=vs.map some++List.replicate n none
theorem fu:∀(ns:List Str) (n:Nat),ad ns (List.replicate n none)=[]
 | [],n=>by cases n<;>rfl
 |_::ns,0=>rfl
 |_::ns,n+1=>fu ns n
theorem kL (ps rest:List Str):∀(vs:List V),vs.length=ps.length→ad (ps++rest) (start vs rest.length)=ps.zip vs:=by
 induction ps with
 |nil=>exact ls0 (P:=fun vs=>ad ([]++rest) (start vs rest.length)=List.zip [] vs) (fu rest rest.length)
 |cons p ps ih=>exact lsS (P:=fun vs=>ad (p::ps++rest) (start vs rest.length)=List.zip (p::ps) vs) fun v vs h=>congrArg ((p,v)::·) (ih vs h)
theorem FnOk.more {prog:Program}{w:World}{hb:Heap}{d d':Nat}{a:Addr}{spec:Spec}(h:FnOk prog w hb d a spec)(hd:d≤d'):FnOk prog w hb d' a spec:=
 fun A r=>h A (r.less hd)
structure FnT (hb:Heap)(a:Addr)(T:Tb)(ib:List IS)(ps rest:List Str)(fd:FuncData)(body:List Stmt)(m:Nat):Prop where
 N:FnAt hb a fd body ps
 kinds:T.kinds=fd.scope.names
 names:T.names=ps++rest
 nd:T.names.Nodup
 cel:∀p∈fd.scope.names,p.2=.cell→∀n,((cellsFrom n fd.scope.names []).lookup p.1).isSome=true
 gl:fd.globals=mainGlobals
 bl:fd.builtins=builtinsNs
 comp:bF m T body=some ib
theorem gV {prog:Program}{w:World}{hb:Heap}{K₀:Frag}{P:Pm}{T:Tb}{dep m:Nat}{a:Addr}{fd:FuncData}{body:List Stmt}{ib:List IS}{ps rest:List Str}(N:FnT hb a T ib ps rest fd body m)(X:Cx0 prog w hb K₀ T P dep){spec:Spec}
  (h:∀(vs:List V) (c:aa) (K:V→aa→Prop),spec vs c K→vs.length=ps.length∧∃n,wpB P (dom c) n ib ⟨start vs rest.length,c⟩
    (fun f τ=>∃v' c',vW τ.c c' (ee f) v'∧bY τ.c c' c'∧(∀k∈dom c,k∈dom c')∧K v' c')) :
  ∀(A:Around),Room (dep+1) A→∀(L:Addr) (vs:List V) (c:aa) (K:V→aa→Prop),spec vs c K→EnvOk (callEnvC fd L a)→vs.length=ps.length∧
   OkS (model prog w) A hb (dom c) (callEnvC fd L a) ⟨ps.zip vs,c⟩ (execs body (callEnvC fd L a))
    (fun f τ=>(∀k∈dom c,k∈dom τ.c)∧K (match f with | .ret v=>v|_=>.d .none) τ.c):=by
 intro A r L vs c K sp EO
 obtain⟨hl,n,hw⟩:=h vs c K sp
 refine⟨hl,?_⟩
 have E:CxE (callEnvC fd L a) T:=by
  refine⟨EO,N.gl,N.bl,fun x e=>?_,fun x e=>?_,fun x e=>?_,N.nd⟩
  ·rw[N.kinds] at e;exact e
  ·rw[N.kinds] at e;exact e
  ·rw[N.kinds] at e
   refine⟨e,Option.isSome_iff_exists.mp (N.cel _ (mem_of_lookup e) rfl _)⟩
 have:=(yI (prog:=prog) (w:=w) (hb:=hb) (P:=P) (K₀:=K₀) (dep:=dep) m).2 T _ A (dom c) X E r body ib N.comp n ⟨start vs rest.length,c⟩ _ (by rw[N.names];simp[start,hl]) hw
 intro α s Q hs Fr hq
 rw[N.names,kL _ _ _ hl] at this
 refine this α s Q hs Fr fun f τ α' g h' tk ht k F' L' i=>?_
 obtain⟨σ,hlσ,rfl,v',c',hv,hc,hd,hK⟩:=k
 have W:Weak (dom c) ⟨ad (ps++rest) σ.l,σ.c⟩ ⟨[],c'⟩:=⟨trivial,hc,hd⟩
 have F2:=W.fst F'
 have L2:=W.leS L'
 have hdom:∀k∈dom c',k∈dom σ.c:=fun k hk=>cA hc k hk
 have hK':∀f':F,ee f'=v'→(∀k∈dom c,k∈dom (⟨[],c'⟩:Sg).c)∧K (match f' with | .ret v=>v|_=>.d .none) c':=fun f' e=>⟨hd,by cases f'<;>(dsimp only[ee] at e;rw[e];exact hK)⟩
 cases f with
 |next=>
  have:v'=.d .none:=by rcases hv with ⟨q,_⟩|⟨k,xs,q,_⟩;exact q;contradiction
  exact hq .next ⟨[],c'⟩ α' g h' tk ht (hK' .next this.symm) F2 L2 i
 |brk=>
  have:v'=.d .none:=by rcases hv with ⟨q,_⟩|⟨k,xs,q,_⟩;exact q;contradiction
  exact hq .brk ⟨[],c'⟩ α' g h' tk ht (hK' .brk this.symm) F2 L2 i
 |cont=>
  have:v'=.d .none:=by rcases hv with ⟨q,_⟩|⟨k,xs,q,_⟩;exact q;contradiction
  exact hq .cont ⟨[],c'⟩ α' g h' tk ht (hK' .cont this.symm) F2 L2 i
 |ret v=>
  obtain⟨g',rfl,ig⟩:=i
  exact hq (.ret v') ⟨[],c'⟩ α' _ h' tk ht (hK' (.ret v') rfl) F2 L2 ⟨g',rfl,nH F'.toCst hdom hv ig⟩
theorem f6 {prog:Program}{w:World}{hb:Heap}{K₀:Frag}{P:Pm}{T:Tb}{dep m:Nat}{a:Addr}{fd:FuncData}{body:List Stmt}{ib:List IS}{ps rest:List Str}(N:FnT hb a T ib ps rest fd body m)(X:Cx0 prog w hb K₀ T P dep){spec:Spec}
  (h:∀(vs:List V) (c:aa) (K:V→aa→Prop),spec vs c K→vs.length=ps.length∧∃n,wpB P (dom c) n ib ⟨start vs rest.length,c⟩
    (fun f τ=>∃v' c',vW τ.c c' (ee f) v'∧bY τ.c c' c'∧(∀k∈dom c,k∈dom c')∧K v' c')) :
  FnOk prog w hb (dep+2) a spec:=xX N.N (gV N X h)
theorem v9 {prog:Program}{w:World}{hb:Heap}{K₀:Frag}{P:Pm}{T:Tb}{dep m:Nat}{a:Addr}{fd:FuncData}{body:List Stmt}{ib:List IS}{x:Str}{ps rest:List Str}(N:FnT hb a T ib (x::ps) rest fd body m)(hl:fd.scope.names.lookup x=some .local)(X:Cx0 prog w hb K₀ T P dep){spec:Spec}
  (h:∀(vs:List V) (c:aa) (K:V→aa→Prop),spec vs c K→vs.length=(x::ps).length∧∃n,wpB P (dom c) n ib ⟨start vs rest.length,c⟩
    (fun f τ=>∃v' c',vW τ.c c' (ee f) v'∧bY τ.c c' c'∧(∀k∈dom c,k∈dom c')∧K v' c')) :
  mR prog w hb (dep+2) a spec:=vX N.N hl (gV N X h)
noncomputable def fq (K:Frag)(a:Addr):Option FuncData:=match K.lookup a with
 |some o=>(match o.data with | .func fd=>some fd|_=>none)
 |none=>none
noncomputable def be (K:Frag)(a:Addr):List Stmt:=match fq K a with
 |some fd=>(match fd.body with | .stmts b=>b|_=>[])
 |none=>[]
noncomputable def eK (K:Frag)(a:Addr):List (Str×NameKind):=match fq K a with
 |some fd=>fd.scope.names
 |none=>[]
noncomputable def rI (K:Frag)(a:Addr):List Str:=match fq K a with
 |some fd=>fd.params.args.map (·.arg)
 |none=>[]
noncomputable def dp (K:Frag)(a:Addr):List Str:=((eK K a).filter fun p=>(p.2==.local||p.2==.cell)&&!(rI K a).contains p.1).map (·.1)
noncomputable def nsOf (K:Frag)(a:Addr):Array DictEntry:=match K.lookup a with
 |some o=>(match o.data with | .dict es _=>es|_=>#[])
 |none=>#[]
noncomputable def zK (K:Frag)(a:Addr)(G:List (Str×V))(cells:List Pos)(mak:Str→Pos→Option (Addr×Nat×Nat))(meth:List (Str×Addr)):Tb where
 names:=rI K a++dp K a
 kinds:=eK K a
 G:=fun x=>G.lookup x
 cell:=fun p=>if cells.any (fun q=>q.line==p.line&&q.col==p.col&&q.endCol==p.endCol) then some (1000*p.line+p.col) else none
 mak:=mak
 meth:=fun x=>meth.lookup x
end Mine
end
section
namespace Mine
open PySem PyProof.Rows PySem.W PySem.StrLaws PySem.Builtin.Str
theorem ci {x:Str}{i c:Nat}(h:(sg x)[i]?=some c):Txt.item x (i:Int)=⟨#[c]⟩:=by
 have hi:i<x.cps.size:=by
  obtain⟨h1,_⟩:=List.getElem?_eq_some_iff.mp h
  simpa [sg] using h1
 unfold Txt.item Txt.charAt
 have e:seqIndex? (i:Int) x.length=some i:=by
  unfold seqIndex?
  have h1:¬((i:Int)<0):=by exact Om.o17
  simp only[h1,if_false]
  have h2:(decide (0≤(i:Int))&&decide ((i:Int)<(x.length:Nat)))=true:=by
   simp[Str.length];exact Om.o39 hi
  rw[if_pos h2];simp
 rw[e]
 have:x.cps[i]?=some c:=by rw[←h];simp[sg]
 simp[this]
theorem oD {x:Str}{c:Nat}(h:(sg x).getLast?=some c):Txt.item x (-1)=⟨#[c]⟩:=by
 have hn:(sg x)≠[]:=fun e=>by rw[e] at h;contradiction
 have hl:0<x.cps.size:=by
  have:=List.length_pos_iff.mpr hn
  simpa [sg] using this
 unfold Txt.item Txt.charAt
 have e:seqIndex? (-1) x.length=some (x.length-1):=by
  unfold seqIndex?
  simp only[show ((-1:Int)<0) from by decide,if_true]
  have h2:(decide (0≤(-1:Int)+(x.length:Nat))&&decide ((-1:Int)+(x.length:Nat)<(x.length:Nat)))=true:=by
   have:(x.length:Nat)=x.cps.size:=rfl
   rw[this]
   simp only[Bool.and_eq_true,decide_eq_true_eq];exact Om.o38 hl
  rw[if_pos h2]
  have:(x.length:Nat)=x.cps.size:=rfl
  congr 1
  rw[this];exact Om.o26
 rw[e]
 have:x.cps[x.length-1]?=some c:=by
  rw[List.getLast?_eq_getElem?] at h
  simpa [sg,Str.length] using h
 simp[this]
theorem ip (x:Str){a b:Nat}(hab:a≤b)(ha:a≤(sg x).length):Txt.slice x (some (a:Int)) (some (b:Int))=⟨(((sg x).drop a).take (b-a)).toArray⟩:=by
 have hlen:(sg x).length=x.length:=by simp[sg,Str.length]
 by_cases hb:b≤x.length
 ·exact sliceText_nat x hab hb
 ·have e:strSliceIndices (some (a:Int)) (some (b:Int)) 1 x.length=strSliceIndices (some (a:Int)) (some ((x.length:Nat):Int)) 1 x.length:=by
   unfold strSliceIndices
   have h1:¬((b:Int)<0):=by exact Om.o17
   have h2:¬(((x.length:Nat):Int)<0):=by exact Om.o17
   dsimp only[h1,h2,if_false,show (1:Int) > 0 from by decide,if_true]
   congr 1
   exact Om.o37 hb
  have e2:Txt.slice x (some (a:Int)) (some (b:Int))=Txt.slice x (some (a:Int)) (some ((x.length:Nat):Int)):=by
   unfold Txt.slice;rw[e]
  rw[e2]
  refine (sliceText_nat x (by rw[←hlen];exact ha) (Nat.le_refl _)).trans ?_
  congr 2
  show ((sg x).drop a).take (x.length-a)=((sg x).drop a).take (b-a)
  rw[List.take_of_length_le (by rw[List.length_drop];exact Om.o36),List.take_of_length_le (by rw[List.length_drop];exact Om.o35 hb)]
theorem fU (s sub:Str)(hi:Nat):∀(l:List Nat) (free:Nat),(∀i∈l,free≤i)→
  (forIn l ((#[]:Array Nat),free) (occBody s sub hi 1)).run.fst=(match l.find? (fun i=>decide (i+sub.length≤hi)&&subAt s sub i) with|some a=>#[a]|none=>#[])
 | [],free,_=>rfl
 |a::l,free,hf=>by
  rw[List.forIn_cons]
  unfold occBody
  have ha:free≤a:=hf a (.head _)
  by_cases hc:a+sub.length≤hi∧subAt s sub a=true
  ·rw[if_pos ⟨⟨⟨by simp,ha⟩,hc.1⟩,hc.2⟩]
   have e:((a::l).find? fun i=>decide (i+sub.length≤hi)&&subAt s sub i)=some a:=by simp[List.find?_cons,hc.1,hc.2]
   rw[e]
   show (forIn l (#[a],a+sub.length) (occBody s sub hi 1)).run.fst=#[a]
   generalize a+sub.length=f
   clear hf e hc ha
   induction l generalizing f with
   |nil=>rfl
   |cons b l ih=>
    rw[List.forIn_cons]
    unfold occBody
    rw[if_neg (fun h=>by have:=h.1.1.1;simp at this)]
    exact ih f
  ·rw[if_neg (fun h=>hc ⟨h.1.2,h.2⟩)]
   have e:((a::l).find? fun i=>decide (i+sub.length≤hi)&&subAt s sub i)=l.find? (fun i=>decide (i+sub.length≤hi)&&subAt s sub i):=by
    rw[List.find?_cons]
    have:(decide (a+sub.length≤hi)&&subAt s sub a)=false:=by
     cases h:(decide (a+sub.length≤hi)&&subAt s sub a) with
     |false=>rfl
     |true=>simp only[Bool.and_eq_true,decide_eq_true_eq] at h;exact absurd h hc
    rw[this]
   rw[e]
   exact fU s sub hi l free (fun i h=>hf i (.tail _ h))
theorem tO {x:Str}{i:Nat}(h:∃j:Nat,i≤j∧(sg x)[j]?=some 10):∃j:Nat,Txt.find3 x ⟨#[10]⟩ (i:Int)=(j:Int)∧i≤j∧(sg x)[j]?=some 10∧∀m:Nat,i≤m→m<j→(sg x)[m]?≠some 10:=by
 unfold Txt.find3
 have e1:fromIndex x.length (i:Int)=i:=by
  unfold fromIndex
  rw[if_neg (by exact Om.o17)];exact Om.o34
 rw[e1,occ_eq,fU x ⟨#[10]⟩ x.length _ i (fun m hm=>by have:=List.mem_range'_1.mp hm;exact Om.o33 this)]
 cases hf:(List.range' i (x.length+1-i)).find? (fun i=>decide (i+(⟨#[10]⟩:Str).length≤x.length)&&subAt x ⟨#[10]⟩ i) with
 |none=>
  obtain⟨j,hj,hc⟩:=h
  have:=List.find?_eq_none.mp hf j (by
   obtain⟨hlt,_⟩:=List.getElem?_eq_some_iff.mp hc
   have:j<x.length:=by simpa [sg,Str.length] using hlt
   exact List.mem_range'_1.mpr (by exact Om.o32 hj this))
  have hc':=(subAt_one x 10 j).mpr hc
  simp only[Bool.and_eq_true,decide_eq_true_eq] at this
  exact absurd hc' this
 |some j=>
  obtain⟨as,bs,hl,hall⟩:=(List.find?_eq_some_iff_append.mp hf).2
  have hp:=(List.find?_eq_some_iff_append.mp hf).1
  simp only[Bool.and_eq_true,decide_eq_true_eq] at hp
  have hmem:j∈List.range' i (x.length+1-i):=List.mem_of_find?_eq_some hf
  refine⟨j,rfl,(List.mem_range'_1.mp hmem).1,(subAt_one x 10 j).mp hp,fun m h1 h2 hc=>?_⟩
  have hm:m∈List.range' i (x.length+1-i):=List.mem_range'_1.mpr (by have:=List.mem_range'_1.mp hmem;exact Om.o31 h1 h2 this)
  rw[hl] at hm
  have hsort:(List.range' i (x.length+1-i)).Pairwise (·<·):=List.pairwise_lt_range'
  rw[hl] at hsort
  rcases List.mem_append.mp hm with hm|hm
  ·have:=hall m hm
   have hc':=(subAt_one x 10 m).mpr hc
   simp only[Bool.not_eq_true',Bool.and_eq_false_iff,decide_eq_false_iff_not] at this
   rcases this with q|q
   ·exact q hc'.1
   ·rw[hc'.2] at q;contradiction
  ·have h3:=(List.pairwise_append.mp hsort).2.1
   rcases List.mem_cons.mp hm with rfl|hm
   ·exact Om.o30 h2
   ·have:=(List.pairwise_cons.mp h3).1 m hm;exact Om.o29 h2 this
end Mine
end
section
namespace Mine
open PySem PyProof.Rows PySem.W
noncomputable def rV:List IS:=[
 .asg 9 (.item (.v 1) (.v 7)),
 .asg 7 (.bin .Add (.v 7) (.c (.int 1))),
 .if_ (.cmp .Eq (.v 9) (.c (.str ⟨#[120]⟩))) [
  .cont] [],
 .if_ (.cmp .Eq (.slice (.v 1) (.bin .Sub (.v 7) (.c (.int 1))) (.bin .Add (.v 7) (.v 12))) (.v 10)) [
  .asg 7 (.bin .Add (.v 7) (.v 12)),
  .brk] [],
 .if_ (.cmp .Eq (.v 9) (.c (.str ⟨#[10]⟩))) [
  .asg 4 (.bin .Add (.v 4) (.c (.int 1))),
  .if_ (.cmp .Eq (.v 12) (.c (.int 0))) [
   .if_ (.cmp .Eq (.v 3) (.c (.int 0))) [
    .expr (.call (.v 6) [(.v 4)] none)] [],
   .brk] [],
  .cont] [],
 .if_ (.cmp .Eq (.v 9) (.c (.str ⟨#[92]⟩))) [
  .assert (.cmp .Lt (.v 7) (.v 8)),
  .if_ (.cmp .Eq (.item (.v 1) (.v 7)) (.c (.str ⟨#[10]⟩))) [
   .asg 4 (.bin .Add (.v 4) (.c (.int 1)))] [],
  .asg 7 (.bin .Add (.v 7) (.c (.int 1))),
  .cont] []]
noncomputable def ri:List IS:=[
 .if_ (.cmp .Eq (.bin .Sub (.v 4) (.c (.int 1))) (.v 11)) [
  .asg 2 (.g (.d (.int 2)))] [
  .asg 2 (.g (.d (.int 3)))]]
noncomputable def inW:IS:=.while_ (.cmp .Lt (.v 7) (.v 8)) rV ri
noncomputable def qq:List IS:=[
 .asg 9 (.item (.v 1) (.v 7)),
 .asg 7 (.bin .Add (.v 7) (.c (.int 1))),
 .if_ (.cmp .Eq (.v 9) (.c (.str ⟨#[120]⟩))) [
  .cont] [],
 .if_ (.cmp .Eq (.v 9) (.c (.str ⟨#[10]⟩))) [
  .asg 4 (.bin .Add (.v 4) (.c (.int 1))),
  .if_ (.cmp .Eq (.v 3) (.c (.int 0))) [
   .expr (.call (.v 6) [(.v 4)] none)] [],
  .cont] [],
 .if_ (.cmp .Eq (.v 9) (.c (.str ⟨#[40]⟩))) [
  .asg 3 (.bin .Add (.v 3) (.c (.int 1))),
  .cont] [],
 .if_ (.cmp .Eq (.v 9) (.c (.str ⟨#[41]⟩))) [
  .if_ (.v 3) [
   .asg 3 (.bin .Sub (.v 3) (.c (.int 1)))] [],
  .cont] [],
 .if_ (.or (.cmp .Eq (.v 9) (.c (.str ⟨#[34]⟩))) (.cmp .Eq (.v 9) (.c (.str ⟨#[39]⟩)))) [
  .asg 10 (.v 9),
  .if_ (.cmp .Eq (.slice (.v 1) (.bin .Sub (.v 7) (.c (.int 1))) (.bin .Add (.v 7) (.c (.int 2)))) (.bin .Mult (.v 10) (.c (.int 3)))) [
   .asg 10 (.bin .Mult (.v 10) (.c (.int 3)))] [],
  .asg 11 (.v 4),
  .asg 12 (.bin .Sub (.call (.g (.bi .len)) [(.v 10)] none) (.c (.int 1))),
  .asg 7 (.bin .Add (.v 7) (.v 12)),
  inW,
  .cont] [],
 .if_ (.cmp .Eq (.v 9) (.c (.str ⟨#[35]⟩))) [
  .asg 7 (.meth (.v 1) .find [(.c (.str ⟨#[10]⟩)),(.v 7)]),
  .assert (.cmp .GtE (.v 7) (.c (.int 0))),
  .cont] [],
 .assert (.cmp .Eq (.v 9) (.c (.str ⟨#[92]⟩))),
 .assert (.cmp .Lt (.v 7) (.v 8)),
 .if_ (.cmp .Eq (.item (.v 1) (.v 7)) (.c (.str ⟨#[10]⟩))) [
  .asg 4 (.bin .Add (.v 4) (.c (.int 1))),
  .if_ (.cmp .Eq (.bin .Add (.v 7) (.c (.int 1))) (.v 8)) [
   .asg 2 (.g (.d (.int 1)))] []] [],
 .asg 7 (.bin .Add (.v 7) (.c (.int 1)))]
noncomputable def xh:IS:=.while_ (.cmp .Lt (.v 7) (.v 8)) qq []
noncomputable def dU (td g b:Nat):List IS:=[
 .if_ (.cmp .GtE (.attr (.v 0) (Str.ofString "study_level")) (.c (.int 1))) [
  .ret none] [],
 .asgA (.v 0) (Str.ofString "study_level") (.c (.int 1)),
 .asg 1 (.attr (.v 0) (Str.ofString "code")),
 .asg 1 (.trans (.v 1) td),
 .asg 1 (.repl (.v 1) ⟨#[120,120,120,120,120,120,120,120]⟩ ⟨#[120]⟩),
 .asg 1 (.repl (.v 1) ⟨#[120,120,120,120]⟩ ⟨#[120]⟩),
 .asg 1 (.repl (.v 1) ⟨#[120,120]⟩ ⟨#[120]⟩),
 .asg 1 (.repl (.v 1) ⟨#[120,120]⟩ ⟨#[120]⟩),
 .asg 1 (.repl (.v 1) ⟨#[10,120]⟩ ⟨#[10]⟩),
 .asg 2 (.g (.d (.int 0))),
 .asg2 3 4 (.c (.int 0)),
 .asgA2 (.v 0) (Str.ofString "goodlines") 5 (.lst [(.c (.int 0))] (some g)),
 .asg 6 (.bnd (.v 5) b),
 .unp2 7 8 (.c (.int 0)) (.call (.g (.bi .len)) [(.v 1)] none),
 xh,
 .if_ (.and (.cmp .NotEq (.v 2) (.g (.d (.int 2)))) (.and (.cmp .NotEq (.v 2) (.g (.d (.int 3)))) (.cmp .Gt (.v 3) (.c (.int 0))))) [
  .asg 2 (.g (.d (.int 4)))] [],
 .asgA (.v 0) (Str.ofString "continuation") (.v 2),
 .assert (.cmp .Eq (.cmp .Eq (.v 2) (.g (.d (.int 0)))) (.cmp .Eq (.item (.v 5) (.c (.int (-1)))) (.v 4))),
 .if_ (.cmp .NotEq (.item (.v 5) (.c (.int (-1)))) (.v 4)) [
  .expr (.call (.v 6) [(.v 4)] none)] []]
structure Cel (Wc:List Nat→aa)(k g b:Nat)(pr:List Nat):Prop where
 b_:∀gd,ae (Wc gd) b=some (.bound "list.append" g)
 g_:∀gd,ae (Wc gd) g=some (.list (gd.map fun m:Nat=>D.int m))
 set:∀gd m,cset (Wc gd) g (.list ((gd.map fun m:Nat=>D.int m)++[.int (m:Nat)]))=Wc (gd++[m])
 wf:∀gd,bY (Wc gd) (Wc gd) (Wc gd)
 pr:∀gd,∀j∈pr,j∈dom (Wc gd)
 k_:∀gd,k∈dom (Wc gd)
noncomputable def slots (k g b:Nat)(x:Str)(ct:Int)(lv ln i n:Nat)(r:List (Option V)):Sl:=
 some (.obj k)::some (.d (.str x))::some (.d (.int ct))::some (.d (.int lv))::some (.d (.int ln))::some (.obj g)::some (.obj b)::some (.d (.int i))::some (.d (.int n))::r
theorem mF (a b:Nat):((⟨#[a]⟩:Str)==⟨#[b]⟩)=decide (a=b):=by
 by_cases h:a=b
 ·subst h;simp
 ·simp only[h,decide_false]
  exact beq_eq_false_iff_ne.mpr fun e=>h (by injection e with e;injection e with e;injection e)
section
variable {P:Pm}{pr:List Nat}{k g b:Nat}{Wc:List Nat→aa}{x:Str}
def InS (x:Str)(d:Bool)(w f i:Nat)(s:St):Prop:=
 s=scan st0 ((sg x).take i)∧i≤(sg x).length∧
 ((w=0∧(s.md=.S1 d f∨(s.md=.Q1 d f∧¬((sg x)[i]?=some (qc d)∧(sg x)[i+1]?=some (qc d)))))∨
 (w=2∧(s.md=.S3 d 0 f∨(s.md=.S3 d 1 f∧¬((sg x)[i]?=some (qc d)∧(sg x)[i+1]?=some (qc d)))∨(s.md=.S3 d 2 f∧(sg x)[i]?≠some (qc d)))))
def Out (x:Str)(i:Nat)(s:St):Prop:=
 s=scan st0 ((sg x).take i)∧i≤(sg x).length∧(∀c,(sg x)[i]?=some c→step s c=aY s c)∧(i=(sg x).length→s.md=.N∨s.md=.Nb)
noncomputable def dJ (d:Bool)(w:Nat):Str:=if w=0 then ⟨#[qc d]⟩ else ⟨#[qc d,qc d,qc d]⟩
def va (x:Str):Prop:=∀c∈sg x,c=10∨c=34∨c=35∨c=39∨c=40∨c=41∨c=92∨c=120
theorem aK {i c:Nat}(h:(sg x)[i]?=some c):scan st0 ((sg x).take (i+1))=step (scan st0 ((sg x).take i)) c:=by
 have e:(sg x).take (i+1)=(sg x).take i++[c]:=by rw[List.take_add_one,h];rfl
 rw[e,aT];rfl
end
section
variable {x:Str}
theorem aZ {l:List Nat}{i c:Nat}(h:l[i]?=some c):i+1≤l.length:=(List.getElem?_eq_some_iff.mp h).1
theorem de (d:Bool):qc d=34∨qc d=39:=by cases d<;>simp[qc]
def same (s s':St):Prop:=s'.lv=s.lv∧s'.ln=s.ln∧s'.gd=s.gd
variable {d:Bool}{w f i c:Nat}{s:St}
theorem ij (h:InS x d w f i s)(hc:(sg x)[i]?=some c)(h1:c≠qc d)(h2:c≠10)(h3:c≠92):∃s',InS x d w f (i+1) s'∧same s s':=by
 obtain⟨rfl,hi,h⟩:=h
 refine⟨_,⟨(aK hc).symm,aZ hc,?_⟩,?_⟩
 ·rcases h with ⟨hw,h|⟨h,_⟩⟩|⟨hw,h|⟨h,_⟩|⟨h,_⟩⟩
  ·exact .inl ⟨hw,.inl (by simp[step,h,bb,h1,h2,h3])⟩
  ·exact .inl ⟨hw,.inl (by simp[step,h,bb,h1,h2,h3])⟩
  ·exact .inr ⟨hw,.inl (by simp[step,h,h1,h2,h3])⟩
  ·exact .inr ⟨hw,.inl (by simp[step,h,h1,h2,h3])⟩
  ·exact .inr ⟨hw,.inl (by simp[step,h,h1,h2,h3])⟩
 ·unfold same
  rcases h with ⟨hw,h|⟨h,_⟩⟩|⟨hw,h|⟨h,_⟩|⟨h,_⟩⟩<;>simp[step,h,bb,h1,h2,h3]
theorem oJ (h:InS x d 2 f i s)(hc:(sg x)[i]?=some (qc d))(h1:¬((sg x)[i+1]?=some (qc d)∧(sg x)[i+2]?=some (qc d))):∃s',InS x d 2 f (i+1) s'∧same s s':=by
 obtain⟨rfl,hi,h⟩:=h
 refine⟨_,⟨(aK hc).symm,aZ hc,?_⟩,?_⟩
 ·rcases h with ⟨hw,_⟩|⟨hw,h|⟨h,q⟩|⟨h,q⟩⟩
  ·cases hw
  ·exact .inr ⟨rfl,.inr (.inl ⟨by simp[step,h],h1⟩)⟩
  ·exact .inr ⟨rfl,.inr (.inr ⟨by simp[step,h],fun e=>q ⟨hc,e⟩⟩)⟩
  ·exact absurd hc q
 ·unfold same
  rcases h with ⟨hw,_⟩|⟨hw,h|⟨h,q⟩|⟨h,q⟩⟩
  ·cases hw
  ·simp[step,h]
  ·simp[step,h]
  ·exact absurd hc q
theorem l8 (h:InS x d 2 f i s)(hc:(sg x)[i]?=some (qc d))(h1:(sg x)[i+1]?=some (qc d))(h2:(sg x)[i+2]?=some (qc d)):∃s',Out x (i+3) s'∧s'.md≠.Nb∧same s s':=by
 obtain⟨rfl,hi,h⟩:=h
 have e:scan st0 ((sg x).take (i+3))={scan st0 ((sg x).take i) with md:=.N}:=by
  rw[aK h2,aK h1,aK hc]
  rcases h with ⟨hw,_⟩|⟨hw,h|⟨h,q⟩|⟨h,q⟩⟩
  ·contradiction
  ·simp[step,h]
  ·exact absurd ⟨hc,h1⟩ q
  ·exact absurd hc q
 refine⟨_,⟨rfl,aZ h2,fun c hc=>by rw[e];rfl,fun _=>.inl (by rw[e])⟩,by rw[e];simp,by rw[e];exact⟨rfl,rfl,rfl⟩⟩
theorem lR (hl:∀i c,(sg x)[i]?=some c→i+1=(sg x).length→c=10)(h:InS x d 0 f i s)(hc:(sg x)[i]?=some (qc d)):∃s',Out x (i+1) s'∧s'.md≠.Nb∧same s s':=by
 obtain⟨rfl,hi,h⟩:=h
 have hq:qc d≠10:=by rcases de d with q|q<;>rw[q]<;>decide
 rcases h with ⟨hw,h|⟨h,q⟩⟩|⟨hw,_⟩
 ·have e:scan st0 ((sg x).take (i+1))={scan st0 ((sg x).take i) with md:=.N}:=by rw[aK hc];simp[step,h,bb]
  exact⟨_,⟨rfl,aZ hc,fun c hc=>by rw[e];rfl,fun q=>absurd (hl i _ hc q) hq⟩,by rw[e];simp,by simp only[e];exact⟨rfl,rfl,rfl⟩⟩
 ·have e:scan st0 ((sg x).take (i+1))={scan st0 ((sg x).take i) with md:=.Q2 d f}:=by rw[aK hc];simp[step,h]
  refine⟨_,⟨rfl,aZ hc,fun c hc'=>?_,fun q=>absurd (hl i _ hc q) hq⟩,by rw[e];simp,by rw[e];exact⟨rfl,rfl,rfl⟩⟩
  rw[e]
  have:c≠qc d:=fun e=>q ⟨hc,e▸hc'⟩
  simp[step,this,aY,nl]
 ·contradiction
theorem sK (h:InS x d 0 f i s)(hc:(sg x)[i]?=some 10):∃s',Out x (i+1) s'∧s'=nl s:=by
 obtain⟨rfl,hi,h⟩:=h
 have hq:¬10=qc d:=by rcases de d with q|q<;>rw[q]<;>decide
 have e:scan st0 ((sg x).take (i+1))=nl (scan st0 ((sg x).take i)):=by
  rw[aK hc]
  rcases h with ⟨hw,h|⟨h,q⟩⟩|⟨hw,_⟩
  ·simp[step,h,bb,hq]
  ·simp[step,h,bb,hq]
  ·contradiction
 exact⟨_,⟨e.symm,aZ hc,fun c hc=>rfl,fun _=>.inl rfl⟩,rfl⟩
theorem uq (h:InS x d 2 f i s)(hc:(sg x)[i]?=some 10):∃s',InS x d 2 f (i+1) s'∧s'.lv=s.lv∧s'.ln=s.ln+1∧s'.gd=s.gd:=by
 obtain⟨rfl,hi,h⟩:=h
 have hq:¬10=qc d:=by rcases de d with q|q<;>rw[q]<;>decide
 have e:scan st0 ((sg x).take (i+1))={scan st0 ((sg x).take i) with md:=.S3 d 0 f,ln:=(scan st0 ((sg x).take i)).ln+1}:=by
  rw[aK hc]
  rcases h with ⟨hw,_⟩|⟨hw,h|⟨h,q⟩|⟨h,q⟩⟩
  ·contradiction
  ·simp[step,h,hq]
  ·simp[step,h,hq]
  ·simp[step,h,hq]
 exact⟨_,⟨e.symm,aZ hc,.inr ⟨rfl,.inl rfl⟩⟩,rfl,rfl,rfl⟩
theorem tc (h:InS x d w f i s)(hc:(sg x)[i]?=some 92){e:Nat}(he:(sg x)[i+1]?=some e):∃s',InS x d w f (i+2) s'∧s'.lv=s.lv∧s'.ln=(if e=10 then s.ln+1 else s.ln)∧s'.gd=s.gd:=by
 obtain⟨rfl,hi,h⟩:=h
 have hq:¬92=qc d:=by rcases de d with q|q<;>rw[q]<;>decide
 refine⟨scan st0 ((sg x).take (i+2)),⟨rfl,aZ he,?_⟩,?_⟩
 ·rw[aK he,aK hc]
  rcases h with ⟨hw,h|⟨h,_⟩⟩|⟨hw,h|⟨h,_⟩|⟨h,_⟩⟩
  ·refine .inl ⟨hw,.inl ?_⟩;simp[step,h,bb,hq];split<;>rfl
  ·refine .inl ⟨hw,.inl ?_⟩;simp[step,h,bb,hq];split<;>rfl
  ·refine .inr ⟨hw,.inl ?_⟩;simp[step,h,hq];split<;>rfl
  ·refine .inr ⟨hw,.inl ?_⟩;simp[step,h,hq];split<;>rfl
  ·refine .inr ⟨hw,.inl ?_⟩;simp[step,h,hq];split<;>rfl
 ·rw[aK he,aK hc]
  rcases h with ⟨hw,h|⟨h,_⟩⟩|⟨hw,h|⟨h,_⟩|⟨h,_⟩⟩<;>simp[step,h,bb,hq]<;>split<;>simp[*]
noncomputable def b8:Md→Option Nat
 | .Q1 _ f | .S1 _ f | .S1e _ f | .S3 _ _ f | .S3e _ f=>some f
 |_=>none
theorem qU (h:InS x d w f i s):b8 s.md=some f:=by
 rcases h.2.2 with ⟨hw,h|⟨h,_⟩⟩|⟨hw,h|⟨h,_⟩|⟨h,_⟩⟩<;>rw[h]<;>rfl
end
section
variable {P:Pm}{pr:List Nat}{k g b:Nat}{Wc:List Nat→aa}{x:Str}
theorem lg0 (a:Option V)(l:Sl):aM (a::l) 0=a:=rfl
theorem lgs (a:Option V)(l:Sl)(i:Nat):aM (a::l) (i+1)=aM l i:=rfl
theorem y2 (C:Cel Wc k g b pr){x:Str}{ct:Int}{lv ln i n:Nat}{ch:Option V}{gd:List Nat}{q f w:D} :
  Wk pr ⟨slots k g b x ct lv ln i n [ch,some (.d q),some (.d f),some (.d w)],Wc gd⟩ ⟨slots k g b x ct lv ln i n [none,some (.d q),some (.d f),some (.d w)],Wc gd⟩:=by
 refine⟨?_,rfl,C.wf gd,C.pr gd⟩
 have hg:g∈dom (Wc gd):=al (C.g_ gd)
 have hb:b∈dom (Wc gd):=al (C.b_ gd)
 have hk:=C.k_ gd
 dsimp only[slots,slW,lg0,lgs,vW,vOk,Option.some.injEq,exists_eq_left',true_and]
 simp[hg,hb,hk]
theorem vI {c:aa}{x:Str}{a e:Int}{K:D→Prop}:iW c (.d (.str x)) (.d (.int a)) (.d (.int e)) K=(x.length≤big∧K (.str (Txt.slice x (some a) (some e)))):=rfl
theorem tf (C:Cel Wc k g b pr){gd:List Nat}{m:Nat}{kk:Option Nat}{K:V→aa→Prop}:eg P (Wc gd) kk (.obj b) [.d (.int ((m:Int)+1))] K=(gd.length≤big∧K (.d .none) (Wc (gd++[m+1]))):=by
 show eP (ae (Wc gd) b) _=_
 simp only[C.b_ gd]
 show ("list.append"="list.append"∧cz (ae (Wc gd) g) _)=_
 rw[C.g_ gd]
 show (_∧_∧K (.d .none) (cset (Wc gd) g (.list (_++[.int ((m:Int)+1)]))))=_
 rw[show ((m:Int)+1)=((m+1:Nat):Int) from rfl,C.set gd (m+1)]
 simp
theorem sM {c:aa}{x y:Str}{K:Bool→Prop}:e5 c .Eq (.d (.str x)) (.d (.str y)) K=K (x==y):=rfl
theorem nV {c:aa}{x y:Int}{K:Bool→Prop}:e5 c .Eq (.d (.int x)) (.d (.int y)) K=K (x==y):=rfl
theorem rL {c:aa}{x y:Int}{K:Bool→Prop}:e5 c .Lt (.d (.int x)) (.d (.int y)) K=K (decide (x<y)):=rfl
theorem qO {c:aa}{x:Str}{i:Int}{K:D→Prop}:ef c (.d (.str x)) (.d (.int i)) K=(-(x.length:Int)≤i∧i<x.length∧x.length≤big∧K (.str (Txt.item x i))):=rfl
theorem sQ {c:aa}{x y:Int}{K:D→Prop}:hF c .Add (.d (.int x)) (.d (.int y)) K=K (.int (x+y)):=rfl
theorem m4 {c:aa}{x y:Int}{K:D→Prop}:hF c .Sub (.d (.int x)) (.d (.int y)) K=K (.int (x-y)):=rfl
theorem q6 (s:St)(l:List Nat):(scan s l).gd.length≤s.gd.length+l.length:=by
 induction l generalizing s with
 |nil=>exact Nat.le_refl _
 |cons c l ih=>
  have h1:=ih (step s c)
  have h2:(step s c).gd.length≤s.gd.length+1:=by
   have hn:(nl s).gd.length≤s.gd.length+1:=by unfold nl;dsimp only;split<;>simp
   have hN:(aY s c).gd.length≤s.gd.length+1:=by
    unfold aY
    repeat' split
    all_goals first|exact hn|exact Nat.le_succ _
   have hS:∀d f,(bb s d f c).gd.length≤s.gd.length+1:=fun d f=>by
    unfold bb
    repeat' split
    all_goals first|exact hn|exact Nat.le_succ _
   unfold step
   split<;>first|exact hN|exact hS _ _|skip
   all_goals repeat' split
   all_goals first|exact hN|exact hS _ _|exact hn|exact Nat.le_succ _
  simp only[List.length_cons];exact Om.o65 h1 h2
theorem rK (hbig:(sg x).length+5≤big){i:Nat}:(scan st0 ((sg x).take i)).gd.length≤big:=by
 have:=q6 st0 ((sg x).take i)
 have h2:((sg x).take i).length≤(sg x).length:=by rw[List.length_take];exact Nat.min_le_right _ _
 have h3:st0.gd.length=1:=rfl
 exact Om.o64 hbig this h2 h3
theorem win3 {i:Nat}{q:Nat}:((⟨(((sg x).drop i).take 3).toArray⟩:Str)==⟨#[q,q,q]⟩)=true↔(sg x)[i]?=some q∧(sg x)[i+1]?=some q∧(sg x)[i+2]?=some q:=by
 have e:∀j,(sg x)[i+j]?=((sg x).drop i)[j]?:=fun j=>by simp only[List.getElem?_drop]
 rw[show (sg x)[i]?=((sg x).drop i)[0]? from e 0,e 1,e 2,beq_iff_eq]
 generalize (sg x).drop i=l
 constructor
 ·intro h
  have h':l.take 3=[q,q,q]:=by
   injection h with h
   have:=congrArg Array.toList h
   simpa using this
  rcases l with _|⟨a,_|⟨b,_|⟨c,l⟩⟩⟩
  ·contradiction
  ·simp at h'
  ·simp at h'
  ·have h'':[a,b,c]=[q,q,q]:=h'
   cases h'';exact⟨rfl,rfl,rfl⟩
 ·rintro⟨h1,h2,h3⟩
  rcases l with _|⟨a,_|⟨b,_|⟨c,l⟩⟩⟩
  ·contradiction
  ·contradiction
  ·contradiction
  ·(injection h1 with h1;subst h1);(injection h2 with h2;subst h2);(injection h3 with h3;subst h3);rfl
theorem yS {i c q:Nat}(hc:(sg x)[i]?=some c):((⟨(((sg x).drop i).take 1).toArray⟩:Str)==⟨#[q]⟩)=decide (c=q):=by
 have e:((sg x).drop i)[0]?=some c:=by rw[List.getElem?_drop];exact hc
 generalize (sg x).drop i=l at e
 cases l with
 |nil=>contradiction
 |cons a l=>(injection e with e;subst e);exact mF _ _
def za (k g b:Nat)(Wc:List Nat→aa)(x:Str)(i:Nat)(r:List (Option V))(K:F→Sg'→Prop):Prop:=
 ∀i' s' (ct':Int) ch,i≤i'→(Out x i' s'∧s'.md≠.Nb∧ct'=0∨i'=(sg x).length∧s'=scan st0 (sg x)∧∃f,b8 s'.md=some f∧ct'=if s'.ln=f+1 then 2 else 3)→
  K .next ⟨slots k g b x ct' s'.lv s'.ln i' (sg x).length (ch::r),Wc s'.gd⟩
def InI (k g b:Nat)(Wc:List Nat→aa)(x:Str)(d:Bool)(w f i₀:Nat)(m:Nat)(τ:Sg'):Prop:=∃i s ch,m=(sg x).length-i∧i₀≤i∧InS x d w f i s∧τ=⟨slots k g b x 0 s.lv s.ln i (sg x).length [ch,some (.d (.str (dJ d w))),some (.d (.int f)),some (.d (.int w))],Wc s.gd⟩
theorem qr (C:Cel Wc k g b pr)(hl:∀i c,(sg x)[i]?=some c→i+1=(sg x).length→c=10)(hbig:(sg x).length+5≤big){d:Bool}{w f i₀ n:Nat}{s₀:St}(hw:w=0∨w=2)(h₀:InS x d w f i₀ s₀){ch₀:Option V}{K:F→Sg'→Prop}
  (hK:za k g b Wc x i₀ [some (.d (.str (dJ d w))),some (.d (.int f)),some (.d (.int w))] K) :
  wpS P pr (n+30) (.while_ (.cmp .Lt (.v 7) (.v 8)) rV ri) ⟨slots k g b x 0 s₀.lv s₀.ln i₀ (sg x).length [ch₀,some (.d (.str (dJ d w))),some (.d (.int f)),some (.d (.int w))],Wc s₀.gd⟩ K:=by
 have hlen:(sg x).length=x.length:=by simp[sg,Str.length]
 have hxb:x.length≤big:=by exact Om.o63 hbig
 refine⟨InI k g b Wc x d w f i₀,_,⟨i₀,s₀,ch₀,rfl,Nat.le_refl _,h₀,rfl⟩,?_⟩
 rintro _ _ ⟨i,s,ch,rfl,hi0,h,rfl⟩
 dsimp only[wpT,wpE,wT1,wE1,aw,slots,lg0,lgs,rL]
 refine⟨fun hlt=>?_,fun hge=>?_⟩
 ·have hlt:i<(sg x).length:=by have:=of_decide_eq_true hlt;exact Om.o62 this
  obtain⟨c,hc⟩:∃c,(sg x)[i]?=some c:=⟨_,List.getElem?_eq_getElem hlt⟩
  have hi2:=ci hc
  have again:∀i' s' ch (lv ln:Nat) gd,i<i'→InS x d w f i' s'→lv=s'.lv→ln=s'.ln→gd=s'.gd→∃k' υ',k'<(sg x).length-i∧Wk pr ⟨slots k g b x 0 lv ln i' (sg x).length [ch,some (.d (.str (dJ d w))),some (.d (.int f)),some (.d (.int w))],Wc gd⟩ υ'∧
    InI k g b Wc x d w f i₀ k' υ':=by
   rintro i' s' ch _ _ _ h1 h2 rfl rfl rfl
   exact⟨_,_,by have:=h2.2.1;exact Om.o61 h1 this,y2 C,i',s',none,rfl,by exact Om.o60 hi0 h1,h2,rfl⟩
  have hgd:s.gd.length≤big:=by rw[h.1];exact rK hbig
  have hsl:Txt.slice x (some ((i:Int)+1-1)) (some ((i:Int)+1+(w:Int)))=⟨(((sg x).drop i).take (w+1)).toArray⟩:=by
   have:=ip x (a:=i) (b:=i+1+w) (by exact Om.o59) (by exact Om.o58 hlt)
   simp only[show (i:Int)+1-1=(i:Int) by exact Om.o57,show ((i:Int)+1+(w:Int))=((i+1+w:Nat):Int) by exact Om.o56,this]
   congr 3;exact Om.o55
  dsimp only[rV,wpB,wpS,wpE,wpT,gT,wS1,wE1,wT1,aw,lg0,lgs,qO,sQ,m4,sM,nV,rL,vI,List.set]
  simp only[hi2,mF,tf C]
  refine⟨by exact Om.o54,by exact Om.o53 hlt,hxb,fun h120=>?_,fun h120=>⟨hxb,fun hq=>?_,fun hq=>⟨fun h10=>?_,fun h10=>⟨fun h92=>?_,fun h92=>?_⟩⟩⟩⟩
  ·have hc':=of_decide_eq_true h120
   refine ay fun G9 back9=>?_;obtain⟨s',h1,h2,h3,h4⟩:=ij h hc (by rcases de d with q|q<;>omega) (by exact Om.o52 hc') (by exact Om.o51 hc');refine back9 ?_
   exact again (i+1) s' _ s.lv s.ln s.gd (by exact Om.o43) h1 h2.symm h3.symm h4.symm
  ·rw[hsl] at hq
   rcases hw with rfl|rfl
   ·have hc':c=qc d:=of_decide_eq_true ((yS hc).symm.trans hq)
    subst hc'
    obtain⟨s',h1,hN,h2,h3,h4⟩:=lR hl h hc
    have:=hK (i+1) s' 0 (some (.d (.str ⟨#[qc d]⟩))) (by exact Om.o13 hi0) (.inl ⟨h1,hN,rfl⟩)
    rw[h2,h3,h4] at this
    exact this
   ·obtain⟨q1,q2,q3⟩:=win3.mp hq
    obtain⟨s',h1,hN,h2,h3,h4⟩:=l8 h q1 q2 q3
    have:=hK (i+3) s' 0 (some (.d (.str ⟨#[c]⟩))) (by exact Om.o50 hi0) (.inl ⟨h1,hN,rfl⟩)
    rw[h2,h3,h4] at this
    exact this
  ·have hc':=of_decide_eq_true h10
   subst hc'
   rcases hw with rfl|rfl
   ·obtain⟨s',h1,rfl⟩:=sK h hc
    refine⟨fun _=>⟨fun hz=>⟨hgd,?_⟩,fun hz=>?_⟩,fun q=>by cases q⟩
    ·have hz:s.lv=0:=by have:=beq_iff_eq.mp hz;exact Om.o49 this
     have:=hK (i+1) _ 0 (some (.d (.str ⟨#[10]⟩))) (by exact Om.o13 hi0) (.inl ⟨h1,by simp[nl],rfl⟩)
     unfold nl at this
     dsimp only at this
     rw[if_pos hz] at this
     exact this
    ·have hz:¬s.lv=0:=by have:=beq_eq_false_iff_ne.mp hz;exact Om.o48 this
     have:=hK (i+1) _ 0 (some (.d (.str ⟨#[10]⟩))) (by exact Om.o13 hi0) (.inl ⟨h1,by simp[nl],rfl⟩)
     unfold nl at this
     dsimp only at this
     rw[if_neg hz] at this
     exact this
   ·refine ay fun G9 back9=>?_;obtain⟨s',h1,h2,h3,h4⟩:=uq h hc;refine back9 ?_
    refine⟨fun q=>(by contradiction),fun _=>?_⟩
    exact again (i+1) s' _ s.lv (s.ln+1) s.gd (by exact Om.o43) h1 h2.symm h3.symm h4.symm
  ·have hc':=of_decide_eq_true h92
   subst hc'
   have hlt2:i+1<(sg x).length:=by
    rcases Nat.lt_or_ge (i+1) (sg x).length with q|q
    ·exact q
    ·exact absurd (hl i 92 hc (by exact Om.o47 hlt q)) (by decide)
   obtain⟨e,he⟩:∃e,(sg x)[i+1]?=some e:=⟨_,List.getElem?_eq_getElem hlt2⟩
   refine ay fun G9 back9=>?_;obtain⟨s',h1,h2,h3,h4⟩:=tc h hc he;refine back9 ?_
   have he2:Txt.item x ((i:Int)+1)=⟨#[e]⟩:=ci he
   simp only[he2,mF]
   refine⟨decide_eq_true (by exact Om.o45 hlt2),by exact Om.o46,by exact Om.o45 hlt2,hxb,fun q=>?_,fun q=>?_⟩
   ·rw[if_pos (of_decide_eq_true q)] at h3
    exact again (i+2) s' _ s.lv (s.ln+1) s.gd (by exact Om.o44) h1 h2.symm h3.symm h4.symm
   ·rw[if_neg (of_decide_eq_false q)] at h3
    exact again (i+2) s' _ s.lv s.ln s.gd (by exact Om.o44) h1 h2.symm h3.symm h4.symm
  ·rw[hsl] at hq
   have n10:=of_decide_eq_false h10
   have n92:=of_decide_eq_false h92
   by_cases hcq:c=qc d
   ·subst hcq
    rcases hw with rfl|rfl
    ·exact absurd ((yS hc).symm.trans hq) (by simp)
    ·have hnot:¬((sg x)[i+1]?=some (qc d)∧(sg x)[i+2]?=some (qc d)):=fun q=>by
      have:=win3.mpr ⟨hc,q.1,q.2⟩
      exact absurd (hq.symm.trans this) (by simp)
     refine ay fun G9 back9=>?_;obtain⟨s',h1,h2,h3,h4⟩:=oJ h hc hnot;refine back9 ?_
     exact again (i+1) s' _ s.lv s.ln s.gd (by exact Om.o43) h1 h2.symm h3.symm h4.symm
   ·obtain⟨s',h1,h2,h3,h4⟩:=ij h hc hcq n10 n92
    exact again (i+1) s' _ s.lv s.ln s.gd (by exact Om.o43) h1 h2.symm h3.symm h4.symm
 ·have hge:i=(sg x).length:=by have:=of_decide_eq_false hge;have:=h.2.1;exact Om.o42 ‹_› this
  dsimp only[ri,wpB,wpS,wpE,wpT,wS1,wE1,wT1,aw,lg0,lgs,m4,nV,List.set]
  have ho:=qU h
  have hs:s=scan st0 (sg x):=by rw[h.1,hge,List.take_length]
  refine⟨fun q=>?_,fun q=>?_⟩
  ·refine hK i s 2 ch hi0 (.inr ⟨hge,hs,f,ho,?_⟩)
   rw[if_pos (by have:=beq_iff_eq.mp q;exact Om.o41 this)]
  ·refine hK i s 3 ch hi0 (.inr ⟨hge,hs,f,ho,?_⟩)
   rw[if_neg (fun e=>by have:=beq_eq_false_iff_ne.mp q;exact Om.o40 e this)]
end
section
variable {P:Pm}{pr:List Nat}{k g b:Nat}{Wc:List Nat→aa}{x:Str}
theorem len_str {c:aa}{kk:Option Nat}{x:Str}{K:V→aa→Prop}:eg P c kk (.bi .len) [.d (.str x)] K=(x.length≤big∧K (.d (.int x.length)) c):=rfl
theorem wM (C:Cel Wc k g b pr){x:Str}{ct:Int}{lv ln i n:Nat}{r1 r2 r3 r4:Option V}{gd:List Nat} :
  Wk pr ⟨slots k g b x ct lv ln i n [r1,r2,r3,r4],Wc gd⟩ ⟨slots k g b x ct lv ln i n [none,none,none,none],Wc gd⟩:=by
 refine⟨?_,rfl,C.wf gd,C.pr gd⟩
 have hg:g∈dom (Wc gd):=al (C.g_ gd)
 have hb:b∈dom (Wc gd):=al (C.b_ gd)
 have hk:=C.k_ gd
 dsimp only[slots,slW,lg0,lgs,vW,vOk,Option.some.injEq,exists_eq_left',true_and]
 simp[hg,hb,hk]
def g6 (x:Str)(i:Nat)(s:St)(ct:Int):Prop:=
 (Out x i s∧ct=if s.md=.Nb∧i=(sg x).length then 1 else 0)∨(i=(sg x).length∧s=scan st0 (sg x)∧∃f,b8 s.md=some f∧ct=if s.ln=f+1 then 2 else 3)
theorem fF {i:Int}{c y:Nat}(h:Txt.item x i=⟨#[c]⟩)(e:(Txt.item x i==⟨#[y]⟩)=true):c=y:=by
 rw[h,mF] at e;exact of_decide_eq_true e
theorem fz {i:Int}{c y:Nat}(h:Txt.item x i=⟨#[c]⟩)(e:(Txt.item x i==⟨#[y]⟩)=false):c≠y:=by
 rw[h,mF] at e;exact of_decide_eq_false e
theorem bD {n i:Nat}{l:Sl}{c:aa}{v:V}(h:aM l i=some v)(K':V→aa→Prop)(hK:K' v c):wpE P (n+1) (.v i) l c K':=by
 show aw (aM l i) _
 rw[h];exact hK
theorem dn {n:Nat}{st:IS}{r:List IS}{σ:Sg'}{K:F→Sg'→Prop}(h:wpS P pr n st σ (fun f τ=>match f with | .next=>wpB P pr n r τ K|f=>K f τ)):wpB P pr (n+1) (st::r) σ K:=by
 exact h
section
variable {n:Nat}{a b f o:IE}{es:List IE}{l:Sl}{c:aa}{kk:Option Nat}{m:Mn}
theorem eX {op:CmpOp}{K:Bool→aa→Prop}:wpT P (n+1) (.cmp op a b) l c K=wpE P n a l c fun u c1=>wpE P n b l c1 fun v c2=>e5 c2 op u v fun r=>K r c2:=rfl
theorem jT {op:CmpOp}{K:V→aa→Prop}:wpE P (n+1) (.cmp op a b) l c K=wpE P n a l c fun u c1=>wpE P n b l c1 fun v c2=>e5 c2 op u v fun r=>K (.d (.bool r)) c2:=rfl
theorem cN {op:Operator}{K:V→aa→Prop}:wpE P (n+1) (.bin op a b) l c K=wpE P n a l c fun u c1=>wpE P n b l c1 fun v c2=>hF c2 op u v fun d=>K (.d d) c2:=rfl
theorem j8 {K:V→aa→Prop}:wpE P (n+1) (.item a b) l c K=wpE P n a l c fun u c1=>wpE P n b l c1 fun v c2=>ef c2 u v fun d=>K (.d d) c2:=rfl
theorem gh {K:V→aa→Prop}:wpE P (n+1) (.call f es kk) l c K=wpE P n f l c fun u c1=>gT P n es l c1 fun vs c2=>eg P c2 kk u vs K:=rfl
theorem eU {K:V→aa→Prop}:wpE P (n+1) (.meth o m es) l c K=wpE P n o l c fun u c1=>dM c1 u m∧gT P n es l c1 fun vs c2=>nh c2 u m vs K:=rfl
theorem iG {x:Addr}{nm:Str}{K:V→aa→Prop}:wpE P (n+1) (.umeth o x nm es) l c K=wpE P n o l c fun u c1=>(gy P c1 u fun fs=>look fs nm=none)∧gT P n es l c1 fun vs c2=>P.isFn x=true∧P.fn x (u::vs) c2 (fun v c3=>eT c2 c3∧K v c3):=rfl
theorem s9 {K:V→aa→Prop}:wpE P (n+1) (.lst es kk) l c K=gT P n es l c fun vs c1=>aw (j0 vs) fun ds=>ds.length≤big∧cf c1 kk ds K:=rfl
theorem sU {K:V→aa→Prop}:wpE P (n+1) (.tup es) l c K=gT P n es l c fun vs c1=>aw (j0 vs) fun ds=>ds.length≤big∧K (.d (.tup ds)) c1:=rfl
theorem vv {K:Bool→aa→Prop}:wpT P (n+1) (.or a b) l c K=wpT P n a l c fun r c1=>(r=true→K true c1)∧(r=false→wpT P n b l c1 K):=rfl
theorem qG {r:List IS}{σ:Sg'}{K:F→Sg'→Prop}:wpB P pr (n+2) (.expr a::r) σ K=wpE P n a σ.l σ.c fun _ c1=>wpB P pr (n+1) r ⟨σ.l,c1⟩ K:=rfl
theorem bd {K:List V→aa→Prop}:gT P (n+1) (a::es) l c K=wpE P n a l c fun v c1=>gT P n es l c1 fun vs c2=>K (v::vs) c2:=rfl
end
theorem m5 {n i:Nat}{it:IE}{a:List IS}{σ:Sg'}{K:F→Sg'→Prop}:wpS P pr (n+1) (.for_ i it a) σ K=wpE P n it σ.l σ.c fun v c1=>fo v∧∃xs,cx v=some xs∧∃I:Nat→Sg'→Prop,I 0 ⟨σ.l,c1⟩∧
    (∀j d τ,xs[j]?=some d→I j τ→i<τ.l.length∧wpB P pr n a ⟨τ.l.set i (some (.d d)),τ.c⟩ fun f υ=>match f with
     | .next | .cont=>∃υ',Wk pr υ υ'∧I (j+1) υ'
     | .brk=>K .next υ
     | .ret v=>K (.ret v) υ)∧∀τ,I xs.length τ→K .next τ:=rfl
theorem av {n i:Nat}{e:IE}{r:List IS}{l:Sl}{c:aa}{K:F→Sg'→Prop}(v:V)(he:∀K':V→aa→Prop,K' v c→wpE P n e l c K')(h:wpB P pr (n+1) r ⟨l.set i (some v),c⟩ K):wpB P pr (n+2) (.asg i e::r) ⟨l,c⟩ K:=by
 exact he _ h
theorem kr (C:Cel Wc k g b pr){n:Nat}{l:Sl}{gd:List Nat}{m:Nat}{K:F→Sg'→Prop}(h6:aM l 6=some (.obj b))(h4:aM l 4=some (.d (.int (m:Int))))(hgd:gd.length≤big)(h:K .next ⟨l,Wc (gd++[m])⟩) :
  wpB P pr (n+5) [.expr (.call (.v 6) [(.v 4)] none)] ⟨l,Wc gd⟩ K:=by
 show aw (aM l 6) _
 simp only[h6]
 show aw (aM l 4) _
 simp only[h4]
 show eP (ae (Wc gd) b) _
 simp only[C.b_ gd]
 refine⟨rfl,?_⟩
 rw[C.g_ gd]
 refine⟨by rw[List.length_map];exact hgd,?_⟩
 show K .next ⟨l,cset (Wc gd) g (.list (_++[.int (m:Int)]))⟩
 rw[C.set gd m]
 exact h
theorem tW (C:Cel Wc k g b pr){n:Nat}{l:Sl}{gd:List Nat}{m:Nat}{K:F→Sg'→Prop}(h6:aM l 6=some (.obj b))(h4:aM l 4=some (.d (.int ((m:Int)+1))))(hgd:gd.length≤big)(h:K .next ⟨l,Wc (gd++[m+1])⟩) :
  wpB P pr (n+5) [.expr (.call (.v 6) [(.v 4)] none)] ⟨l,Wc gd⟩ K:=by
 exact kr C (m:=m+1) h6 h4 hgd h
theorem li (C:Cel Wc k g b pr)(hl:∀i c,(sg x)[i]?=some c→i+1=(sg x).length→c=10)(hbig:(sg x).length+5≤big){d:Bool}{w i n:Nat}{s:St}(hw:w=0∨w=2)(h:InS x d w s.ln (i+w) s){ch f' w':Option V}{K:F→Sg'→Prop}
  (hK:∀i' s' (ct':Int) ch r2 r3 r4,i+w≤i'→(Out x i' s'∧s'.md≠.Nb∧ct'=0∨i'=(sg x).length∧s'=scan st0 (sg x)∧∃f,b8 s'.md=some f∧ct'=if s'.ln=f+1 then 2 else 3)→
   K .cont ⟨slots k g b x ct' s'.lv s'.ln i' (sg x).length [ch,r2,r3,r4],Wc s'.gd⟩) :
  wpB P pr (n+60) [.asg 11 (.v 4),.asg 12 (.bin .Sub (.call (.g (.bi .len)) [(.v 10)] none) (.c (.int 1))),.asg 7 (.bin .Add (.v 7) (.v 12)),inW,.cont]
   ⟨slots k g b x 0 s.lv s.ln i (sg x).length [ch,some (.d (.str (dJ d w))),f',w'],Wc s.gd⟩ K:=by
 have hq:(dJ d w).length=w+1:=by rcases hw with rfl|rfl<;>rfl
 refine av (n:=n+58) (.d (.int s.ln)) (fun K' h=>h) ?_
 refine av (n:=n+57) (.d (.int w)) (fun K' h=>⟨by rw[hq];unfold big;rcases hw with rfl|rfl<;>omega,?_⟩) ?_
 ·have e1:(((dJ d w).length:Int)-1)=(w:Int):=by rw[hq];exact Om.o88
  show K' (.d (.int (((dJ d w).length:Int)-1))) _
  rw[e1];exact h
 refine av (n:=n+56) (.d (.int ((i+w:Nat):Int))) (fun K' h=>h) ?_
 refine dn (n:=n+56) ?_
 refine qr (n:=n+26) (K:=_) C hl hbig hw h (ch₀:=ch) ?_
 intro i' s' ct' ch' hi hs
 exact hK i' s' ct' ch' _ _ _ hi hs
theorem yf {i c d:Nat}(hc:(sg x)[i]?=some c)(hsl:Txt.slice x (some ((i:Int)+1-1)) (some ((i:Int)+1+2))=⟨(((sg x).drop i).take 3).toArray⟩)
  (e:(Txt.slice x (some ((i:Int)+1-1)) (some ((i:Int)+1+2))==mX ⟨#[c]⟩ 3)=true):(sg x)[i+1]?=some c∧(sg x)[i+2]?=some c:=by
 rw[hsl] at e
 exact (win3.mp e).2
theorem wU {i c d:Nat}(hc:(sg x)[i]?=some c)(hsl:Txt.slice x (some ((i:Int)+1-1)) (some ((i:Int)+1+2))=⟨(((sg x).drop i).take 3).toArray⟩)
  (e:(Txt.slice x (some ((i:Int)+1-1)) (some ((i:Int)+1+2))==mX ⟨#[c]⟩ 3)=false):¬((sg x)[i+1]?=some c∧(sg x)[i+2]?=some c):=by
 rw[hsl] at e
 intro q
 have:=win3.mpr ⟨hc,q.1,q.2⟩
 exact absurd (e.symm.trans this) (by simp)
theorem pA {i n:Nat}{s:St}{d:Bool}(h:Out x i s)(hc:(sg x)[i]?=some (qc d)) :
  ((sg x)[i+1]?=some (qc d)∧(sg x)[i+2]?=some (qc d)→∃s',InS x d 2 s.ln (i+3) s'∧same s s')∧
  (¬((sg x)[i+1]?=some (qc d)∧(sg x)[i+2]?=some (qc d))→∃s',InS x d 0 s.ln (i+1) s'∧same s s'):=by
 have e1:scan st0 ((sg x).take (i+1))={s with md:=.Q1 d s.ln}:=by
  simp only[aK hc,←h.1,h.2.2.1 _ hc]
  cases d<;>rfl
 refine⟨fun q=>?_,fun q=>⟨_,⟨e1.symm,aZ hc,.inl ⟨rfl,.inr ⟨rfl,q⟩⟩⟩,rfl,rfl,rfl⟩⟩
 have e3:scan st0 ((sg x).take (i+3))={s with md:=.S3 d 0 s.ln}:=by
  simp only[aK q.2,aK q.1,e1]
  simp[step]
 exact⟨_,⟨e3.symm,aZ q.2,.inr ⟨rfl,.inl rfl⟩⟩,rfl,rfl,rfl⟩
theorem rq {s:St}(hs:s.md=.C):∀(l:List Nat),(∀c∈l,c≠10)→scan s l=s
 | [],_=>rfl
 |c::l,h=>by
  have:step s c=s:=by simp[step,hs,h c (.head _)]
  simp only[bh,this]
  exact rq hs l fun c hc=>h c (.tail _ hc)
theorem zw {c:Nat}(h:c=10∨c=34∨c=35∨c=39∨c=40∨c=41∨c=92∨c=120)(n10:c≠10)(n34:c≠34)(n35:c≠35)(n39:c≠39)(n40:c≠40)(n41:c≠41)(n120:c≠120):c=92:=by
 rcases h with h|h|h|h|h|h|h|h
 ·exact absurd h n10
 ·exact absurd h n34
 ·exact absurd h n35
 ·exact absurd h n39
 ·exact absurd h n40
 ·exact absurd h n41
 ·exact h
 ·exact absurd h n120
def OuI (k g b:Nat)(Wc:List Nat→aa)(x:Str)(m:Nat)(τ:Sg'):Prop:=∃i s ct r1 r2 r3 r4,m=(sg x).length-i∧g6 x i s ct∧τ=⟨slots k g b x ct s.lv s.ln i (sg x).length [r1,r2,r3,r4],Wc s.gd⟩
theorem pW (C:Cel Wc k g b pr)(hl:∀i c,(sg x)[i]?=some c→i+1=(sg x).length→c=10)(hend:sg x≠[]→(sg x)[(sg x).length-1]?=some 10)(hsg:va x)(hbig:(sg x).length+5≤big){n:Nat}{r:List (Option V)}(hr:r=[none,none,none,none]){K:F→Sg'→Prop}
  (hK:∀s ct r,g6 x (sg x).length s ct→s=scan st0 (sg x)→K .next ⟨slots k g b x ct s.lv s.ln (sg x).length (sg x).length r,Wc s.gd⟩) :
  wpS P pr (n+100) xh ⟨slots k g b x 0 0 0 0 (sg x).length r,Wc [0]⟩ K:=by
 have hlen:(sg x).length=x.length:=by simp[sg,Str.length]
 have hxb:x.length≤big:=by exact Om.o63 hbig
 unfold xh
 refine⟨OuI k g b Wc x,_,⟨0,st0,0,none,none,none,none,rfl,.inl ⟨⟨rfl,Nat.zero_le _,fun c _=>rfl,fun _=>.inl rfl⟩,rfl⟩,by rw[hr];rfl⟩,?_⟩
 rintro _ _ ⟨i,s,ct,r1,r2,r3,r4,rfl,h0,rfl⟩
 refine⟨fun hlt=>?_,fun hge=>?_⟩
 ·have hlt:i<(sg x).length:=by have:=of_decide_eq_true hlt;exact Om.o62 this
  obtain⟨h,hct⟩:Out x i s∧ct=0:=by
   rcases h0 with ⟨h,e⟩|⟨h,_⟩
   ·exact⟨h,by rw[e,if_neg (fun q=>Nat.ne_of_lt hlt q.2)]⟩
   ·exact (Om.o87 hlt h).elim
  subst hct
  obtain⟨c,hc⟩:∃c,(sg x)[i]?=some c:=⟨_,List.getElem?_eq_getElem hlt⟩
  have hi2:=ci hc
  have hstep:scan st0 ((sg x).take (i+1))=aY s c:=by rw[aK hc,←h.1,h.2.2.1 c hc]
  have again:∀i' s' ct' r1 r2 r3 r4 (lv ln:Nat) gd,i<i'→g6 x i' s' ct'→i'≤(sg x).length→lv=s'.lv→ln=s'.ln→gd=s'.gd→∃k' υ',k'<(sg x).length-i∧Wk pr ⟨slots k g b x ct' lv ln i' (sg x).length [r1,r2,r3,r4],Wc gd⟩ υ'∧
    OuI k g b Wc x k' υ':=by
   rintro i' s' ct' r1 r2 r3 r4 _ _ _ h1 h2 h3 rfl rfl rfl
   exact⟨_,_,by exact Om.o61 h1 h3,wM C,i',s',ct',none,none,none,none,rfl,h2,rfl⟩
  have hgd:s.gd.length≤big:=by rw[h.1];exact rK hbig
  have hsl:Txt.slice x (some ((i:Int)+1-1)) (some ((i:Int)+1+2))=⟨(((sg x).drop i).take 3).toArray⟩:=by
   have:=ip x (a:=i) (b:=i+3) (by exact Om.o86) (by exact Om.o58 hlt)
   simp only[show (i:Int)+1-1=(i:Int) by exact Om.o57,show ((i:Int)+1+2)=((i+3:Nat):Int) by exact Om.o85,this]
   congr 3;exact Om.o84
  have neu:∀s',s'=scan st0 ((sg x).take (i+1))→s'.md=.N→g6 x (i+1) s' 0:=fun s' e1 e2=>
   .inl ⟨⟨e1,by exact Om.o82 hlt,fun c _=>by unfold step;rw[e2],fun _=>.inl e2⟩,by rw[if_neg (fun q=>by rw[e2] at q;cases q.1)]⟩
  show wpB P pr (n+99) qq ⟨slots k g b x 0 s.lv s.ln i (sg x).length [r1,r2,r3,r4],Wc s.gd⟩ _
  conv=>whnf
  refine⟨by exact Om.o54,by exact Om.o53 hlt,hxb,?_⟩
  conv=>whnf
  refine⟨fun h1=>?_,fun h1=>?_⟩
  ·have hc1:=fF hi2 h1
   subst hc1
   exact again (i+1) _ 0 _ _ _ _ s.lv s.ln s.gd (by exact Om.o43) (neu (aY s 120) hstep.symm rfl) (by exact Om.o82 hlt) rfl rfl rfl
  have n120:=fz hi2 h1
  conv=>whnf
  refine⟨fun h1=>?_,fun h1=>?_⟩
  ·have hc1:=fF hi2 h1
   subst hc1
   conv=>whnf
   refine⟨fun hz=>?_,fun hz=>?_⟩
   ·have hz:s.lv=0:=by have:=beq_iff_eq.mp hz;exact Om.o49 this
    have e:(aY s 10).gd=s.gd++[s.ln+1]:=by show (if s.lv=0 then _ else _)=_;rw[if_pos hz]
    refine tW C (n:=n+86) (gd:=s.gd) (m:=s.ln) rfl rfl hgd ?_
    exact again (i+1) _ 0 _ _ _ _ s.lv (s.ln+1) _ (by exact Om.o43) (neu (aY s 10) hstep.symm rfl) (by exact Om.o82 hlt) rfl rfl e.symm
   ·have hz:¬s.lv=0:=by have:=beq_eq_false_iff_ne.mp hz;exact Om.o48 this
    have e:(aY s 10).gd=s.gd:=by show (if s.lv=0 then _ else _)=_;rw[if_neg hz]
    exact again (i+1) _ 0 _ _ _ _ s.lv (s.ln+1) s.gd (by exact Om.o43) (neu (aY s 10) hstep.symm rfl) (by exact Om.o82 hlt) rfl rfl e.symm
  have n10:=fz hi2 h1
  conv=>whnf
  refine⟨fun h1=>?_,fun h1=>?_⟩
  ·have hc1:=fF hi2 h1
   subst hc1
   exact again (i+1) _ 0 _ _ _ _ (s.lv+1) s.ln s.gd (by exact Om.o43) (neu (aY s 40) hstep.symm rfl) (by exact Om.o82 hlt) rfl rfl rfl
  have n40:=fz hi2 h1
  conv=>whnf
  refine⟨fun h1=>?_,fun h1=>?_⟩
  ·have hc1:=fF hi2 h1
   subst hc1
   conv=>whnf
   refine⟨fun hz=>?_,fun hz=>?_⟩
   ·have hz:s.lv≠0:=by have:=bne_iff_ne.mp hz;exact Om.o48 this
    have:=again (i+1) _ 0 (some (.d (.str (Txt.item x i)))) r2 r3 r4 (s.lv-1) s.ln s.gd (by exact Om.o43) (neu (aY s 41) hstep.symm rfl) (by exact Om.o82 hlt) rfl rfl rfl
    have e:((s.lv-1:Nat):Int)=(s.lv:Int)-1:=by exact Om.o83 hz
    unfold slots at this
    rw[e] at this
    exact this
   ·have hz:s.lv=0:=by have:=bne_eq_false_iff_eq.mp hz;exact Om.o49 this
    exact again (i+1) _ 0 _ _ _ _ s.lv s.ln s.gd (by exact Om.o43) (neu (aY s 41) hstep.symm rfl) (by exact Om.o82 hlt) (by show s.lv=s.lv-1;exact Om.o81 hz) rfl rfl
  have n41:=fz hi2 h1
  have fin:∀i' s' (ct':Int) ch r2 r3 r4,i+1≤i'→(Out x i' s'∧s'.md≠.Nb∧ct'=0∨i'=(sg x).length∧s'=scan st0 (sg x)∧∃f,b8 s'.md=some f∧ct'=if s'.ln=f+1 then 2 else 3)→
    ∃k' υ',k'<(sg x).length-i∧Wk pr ⟨slots k g b x ct' s'.lv s'.ln i' (sg x).length [ch,r2,r3,r4],Wc s'.gd⟩ υ'∧OuI k g b Wc x k' υ':=by
   intro i' s' ct' ch r2 r3 r4 hi q
   refine again i' s' ct' ch r2 r3 r4 s'.lv s'.ln s'.gd (by exact Om.o74 hi) ?_ ?_ rfl rfl rfl
   ·rcases q with ⟨q1,q2,rfl⟩|q
    ·exact .inl ⟨q1,by rw[if_neg (fun e=>q2 e.1)]⟩
    ·exact .inr q
   ·rcases q with ⟨q1,q2,rfl⟩|q
    ·exact q1.2.1
    ·exact Nat.le_of_eq q.1
  have quo:∀(d:Bool) (n':Nat) (K0:F→Sg'→Prop),c=qc d→(∀i' s' (ct':Int) ch r2 r3 r4,i+1≤i'→(Out x i' s'∧s'.md≠.Nb∧ct'=0∨i'=(sg x).length∧s'=scan st0 (sg x)∧∃f,b8 s'.md=some f∧ct'=if s'.ln=f+1 then 2 else 3)→K0 .cont ⟨slots k g b x ct' s'.lv s'.ln i' (sg x).length [ch,r2,r3,r4],Wc s'.gd⟩)→wpB P pr (n'+90) [
    .asg 10 (.v 9),
    .if_ (.cmp .Eq (.slice (.v 1) (.bin .Sub (.v 7) (.c (.int 1))) (.bin .Add (.v 7) (.c (.int 2)))) (.bin .Mult (.v 10) (.c (.int 3)))) [
     .asg 10 (.bin .Mult (.v 10) (.c (.int 3)))] [],
    .asg 11 (.v 4),
    .asg 12 (.bin .Sub (.call (.g (.bi .len)) [(.v 10)] none) (.c (.int 1))),
    .asg 7 (.bin .Add (.v 7) (.v 12)),
    inW,
    .cont] ⟨slots k g b x 0 s.lv s.ln (i+1) (sg x).length [some (.d (.str (Txt.item x i))),r2,r3,r4],Wc s.gd⟩ K0:=by
   intro d n' K0 hcd hK0
   subst hcd
   rw[hi2]
   obtain⟨hb1,hb2⟩:=pA (n:=n) h hc
   refine av (n:=n'+88) (.d (.str ⟨#[qc d]⟩)) (fun K' h=>h) ?_
   conv=>whnf
   refine⟨hxb,?_⟩
   conv=>whnf
   refine⟨rfl,rfl,?_⟩
   conv=>whnf
   refine⟨fun hq=>?_,fun hq=>?_⟩
   ·conv=>whnf
    refine⟨rfl,rfl,?_⟩
    obtain⟨s',hin,h2,h3,h4⟩:=hb1 (yf (d:=0) hc hsl hq)
    have:=fun K0=>li (P:=P) (pr:=pr) C hl hbig (d:=d) (w:=2) (i:=i+1) (s:=s') (n:=n'+28) (.inr rfl) (by rw[h3];exact hin) (ch:=some (.d (.str ⟨#[qc d]⟩))) (f':=r3) (w':=r4) (K:=K0)
    rw[h2,h3,h4] at this
    refine this _ ?_
    intro i' s' ct' ch r2 r3 r4 hi q
    exact hK0 i' s' ct' ch r2 r3 r4 (by exact Om.o80 hi) q
   ·obtain⟨s',hin,h2,h3,h4⟩:=hb2 (wU (d:=0) hc hsl hq)
    have:=fun K0=>li (P:=P) (pr:=pr) C hl hbig (d:=d) (w:=0) (i:=i+1) (s:=s') (n:=n'+28) (.inl rfl) (by rw[h3];exact hin) (ch:=some (.d (.str ⟨#[qc d]⟩))) (f':=r3) (w':=r4) (K:=K0)
    rw[h2,h3,h4] at this
    refine this _ ?_
    intro i' s' ct' ch r2 r3 r4 hi q
    exact hK0 i' s' ct' ch r2 r3 r4 (by exact Om.o79 hi) q
  conv=>whnf
  refine⟨fun h1=>?_,fun h1=>?_⟩
  ·have hc1:=fF hi2 h1
   conv=>whnf
   refine⟨fun _=>?_,fun q=>by cases q⟩
   exact quo true (n+1) _ hc1 fin
  have n34:=fz hi2 h1
  conv=>whnf
  refine⟨fun h1=>?_,fun h1=>?_⟩
  ·have hc1:=fF hi2 h1
   exact quo false (n+1) _ hc1 fin
  have n39:=fz hi2 h1
  conv=>whnf
  refine⟨fun h1=>?_,fun h1=>?_⟩
  ·have hc1:=fF hi2 h1
   subst hc1
   obtain⟨j,hf,hj1,hj2,hj3⟩:=tO (x:=x) (i:=i+1) ⟨(sg x).length-1,by
    rcases Nat.lt_or_ge (i+1) (sg x).length with q|q
    ·exact Om.o78 q
    ·exact absurd (hl i 35 hc (by exact Om.o47 hlt q)) (by decide),hend (fun e=>by rw[e] at hlt;contradiction)⟩
   have hjl:j+1≤(sg x).length:=aZ hj2
   have hsc:scan st0 ((sg x).take j)={s with md:=.C}:=by
    have e1:(sg x).take j=(sg x).take (i+1)++((sg x).take j).drop (i+1):=by
     conv=>lhs;rw[←List.take_append_drop (i+1) ((sg x).take j)]
     rw[List.take_take,Nat.min_eq_left hj1]
    rw[e1,aT,hstep]
    refine rq rfl _ fun c hcm e=>?_
    subst e
    obtain⟨m,hm⟩:=List.mem_iff_getElem?.mp hcm
    rw[List.getElem?_drop] at hm
    have hlt2:i+1+m<j:=by
     have:=(List.getElem?_eq_some_iff.mp hm).1
     simp only[List.length_take] at this;exact Om.o77 this
    rw[List.getElem?_take,if_pos hlt2] at hm
    exact hj3 (i+1+m) (by exact Om.o76) hlt2 hm
   have hO:g6 x j {s with md:=.C} 0:=.inl ⟨⟨hsc.symm,by exact Om.o73 hjl,fun c hc'=>by rw[hj2] at hc';(injection hc' with hc';subst hc');rfl,fun q=>by exact (Om.o75 hjl q).elim⟩,by rw[if_neg (fun q=>by cases q.1)]⟩
   have fin:=again j _ 0 (some (.d (.str (Txt.item x i)))) r2 r3 r4 s.lv s.ln s.gd (by exact Om.o74 hj1) hO (by exact Om.o73 hjl) rfl rfl rfl
   unfold slots at fin
   rw[←hf] at fin
   conv=>whnf
   refine⟨rfl,?_⟩
   conv=>whnf
   refine⟨rfl,?_⟩
   conv=>whnf
   refine⟨show decide ((0:Int)≤Txt.find3 x ⟨#[10]⟩ ((i+1:Nat):Int))=true from decide_eq_true (by simp only[hf];exact Om.o72),?_⟩
   exact fin
  have n35:=fz hi2 h1
  have hc1:=zw (hsg c (List.mem_of_getElem? hc)) n10 n34 n35 n39 n40 n41 n120
  subst hc1
  have hlt2:i+1<(sg x).length:=by
   rcases Nat.lt_or_ge (i+1) (sg x).length with q|q
   ·exact q
   ·exact absurd (hl i 92 hc (by exact Om.o47 hlt q)) (by decide)
  obtain⟨e,he⟩:∃e,(sg x)[i+1]?=some e:=⟨_,List.getElem?_eq_getElem hlt2⟩
  have he2:Txt.item x ((i+1:Nat):Int)=⟨#[e]⟩:=ci he
  have hsc:scan st0 ((sg x).take (i+2))=if e=10 then {s with md:=.Nb,ln:=s.ln+1} else {s with md:=.N}:=by
   simp only[aK he,hstep];rfl
  conv=>whnf
  refine⟨show (Txt.item x i==⟨#[92]⟩)=true from by rw[hi2];rfl,?_⟩
  conv=>whnf
  refine⟨show decide (((i+1:Nat):Int)<(sg x).length)=true from decide_eq_true (by exact Om.o70 hlt2),?_⟩
  conv=>whnf
  refine⟨show -(x.length:Int)≤((i+1:Nat):Int) by exact Om.o71,show ((i+1:Nat):Int)<x.length by exact Om.o70 hlt2,hxb,?_⟩
  conv=>whnf
  refine⟨fun h1=>?_,fun h1=>?_⟩
  ·have he3:=fF he2 h1
   rw[if_pos he3] at hsc
   conv=>whnf
   refine⟨fun h2=>?_,fun h2=>?_⟩
   ·have h2:i+2=(sg x).length:=by have:=beq_iff_eq.mp h2;exact Om.o69 this
    have hO:g6 x (i+2) {s with md:=.Nb,ln:=s.ln+1} 1:=.inl ⟨⟨hsc.symm,by exact Om.o68 h2,fun c _=>rfl,fun _=>.inr rfl⟩,by rw[if_pos ⟨rfl,h2⟩]⟩
    exact again (i+2) _ 1 _ _ _ _ s.lv (s.ln+1) s.gd (by exact Om.o44) hO (by exact Om.o68 h2) rfl rfl rfl
   ·have h2:i+2≠(sg x).length:=by have:=beq_eq_false_iff_ne.mp h2;exact Om.o67 this
    have hO:g6 x (i+2) {s with md:=.Nb,ln:=s.ln+1} 0:=.inl ⟨⟨hsc.symm,by exact Om.o66 hlt2,fun c _=>rfl,fun _=>.inr rfl⟩,by rw[if_neg (fun q=>h2 q.2)]⟩
    exact again (i+2) _ 0 _ _ _ _ s.lv (s.ln+1) s.gd (by exact Om.o44) hO (by exact Om.o66 hlt2) rfl rfl rfl
  ·have he3:=fz he2 h1
   rw[if_neg he3] at hsc
   have hO:g6 x (i+2) {s with md:=.N} 0:=.inl ⟨⟨hsc.symm,by exact Om.o66 hlt2,fun c _=>rfl,fun _=>.inl rfl⟩,by rw[if_neg (fun q=>by cases q.1)]⟩
   exact again (i+2) _ 0 _ _ _ _ s.lv s.ln s.gd (by exact Om.o44) hO (by exact Om.o66 hlt2) rfl rfl rfl
 ·have hge:i=(sg x).length:=by
   have h1:=of_decide_eq_false hge
   rcases h0 with ⟨h,_⟩|⟨h,_⟩
   ·have:=h.2.1;exact Om.o42 h1 this
   ·exact h
  subst hge
  have hs:s=scan st0 (sg x):=by
   rcases h0 with ⟨h,_⟩|⟨_,h,_⟩
   ·simp only[h.1,List.take_length]
   ·exact h
  exact hK s ct _ h0 hs
end
theorem celW_iff {c c':aa}:∀{r:aa},bY c c' r↔∀p∈r,∃o,ae c p.1=some o∧oW c c' o p.2
 | []=>by simp[bY]
 | (k,o)::r=>by
  show (_∧bY c c' r)↔_
  rw[celW_iff]
  simp
theorem vR {c U U':aa}(h:∀k∈dom c,k∈dom U'){v v':V}(w:vW c c v v'):vW U U' v v':=by
 rcases w with ⟨e,o⟩|⟨k,xs,rfl,h1,_,h3⟩
 ·refine .inl ⟨e,?_⟩
  cases v<;>first|exact h _ o|trivial
 ·exact absurd (al h1) h3
theorem bu {c U U':aa}(h:∀k∈dom c,k∈dom U'):∀{a a':List (Str×V)},fsW c c a a'→fsW U U' a a'
 | [],[],_=>trivial
 | (_,_)::_,(_,_)::_,⟨h1,h2,h3⟩=>⟨h1,vR h h2,bu h h3⟩
 | [],_::_,q=>q.elim
 |_::_,[],q=>q.elim
theorem ek {c U U':aa}(h:∀k∈dom c,k∈dom U'){o o':O}(w:oW c c o o'):oW U U' o o':=by
 cases o<;>cases o'<;>first|exact w|exact bu h w|exact⟨w.1,w.2.1,h _ w.2.2⟩
theorem aq {c c':aa}{x:Str}{v v':V}(hv:vW c c' v v'):∀{a a':List (Str×V)},fsW c c' a a'→fsW c c' (put a x v) (put a' x v')
 | [],[],_=>⟨rfl,hv,trivial⟩
 | (y,u)::r,(y',u')::r',⟨h1,h2,h3⟩=>by
  subst h1
  dsimp only[put]
  by_cases e:y'=x
  ·rw[if_pos e,if_pos e];exact⟨rfl,hv,h3⟩
  ·rw[if_neg e,if_neg e];exact⟨rfl,h2,aq hv h3⟩
 | [],_::_,q=>q.elim
 |_::_,[],q=>q.elim
theorem kR {c:aa}{k:Nat}{o:O}(h:ae c k=some o):(k,o)∈c:=by
 induction c with
 |nil=>contradiction
 |cons p r ih=>
  obtain⟨j,u⟩:=p
  dsimp only[ae] at h
  by_cases e:j=k
  ·rw[if_pos e] at h;(injection h with h;subst h);rw[e];exact .head _
  ·rw[if_neg e] at h;exact .tail _ (ih h)
theorem gM {c:aa}(nd:(dom c).Nodup){k:Nat}{o:O}{p:Nat×O}(h:p∈cset c k o):p=(k,o)∨(p∈c∧p.1≠k):=by
 induction c with
 |nil=>contradiction
 |cons q r ih=>
  obtain⟨j,u⟩:=q
  obtain⟨n1,n2⟩:=List.nodup_cons.mp (show (j::dom r).Nodup from nd)
  dsimp only[cset] at h
  by_cases e:j=k
  ·rw[if_pos e] at h
   rcases List.mem_cons.mp h with h|h
   ·exact .inl (by rw[h,e])
   ·refine .inr ⟨.tail _ h,fun q=>n1 ?_⟩
    rw[e,←q];exact List.mem_map.mpr ⟨p,h,rfl⟩
  ·rw[if_neg e] at h
   rcases List.mem_cons.mp h with h|h
   ·exact .inr ⟨by rw[h];exact .head _,by rw[h];exact e⟩
   ·rcases ih n2 h with h|h
    ·exact .inl h
    ·exact .inr ⟨.tail _ h.1,h.2⟩
theorem aU {c r:aa}{k:Nat}(h:k∈dom c)(o:O):cset (c++r) k o=cset c k o++r:=by
 induction c with
 |nil=>contradiction
 |cons p c ih=>
  obtain⟨j,u⟩:=p
  show (if j=k then _ else _)=(if j=k then _ else _)++r
  by_cases e:j=k
  ·rw[if_pos e,if_pos e];rfl
  ·rw[if_neg e,if_neg e]
   have:k∈dom c:=by
    rcases List.mem_cons.mp (show k∈j::dom c from h) with q|q
    ·exact absurd q.symm e
    ·exact q
   show (j,u)::cset (c++r) k o=_
   rw[ih this];rfl
theorem aV (c:aa)(k:Nat)(o o':O):cset (cset c k o) k o'=cset c k o':=by
 induction c with
 |nil=>rfl
 |cons p c ih=>
  obtain⟨j,u⟩:=p
  dsimp only[cset]
  by_cases e:j=k
  ·rw[if_pos e];dsimp only[cset];rw[if_pos e,if_pos e]
  ·rw[if_neg e];dsimp only[cset];rw[if_neg e,if_neg e,ih]
structure Wf (c:aa):Prop where
 w:bY c c c
 nd:(dom c).Nodup
theorem Wf.fs {c:aa}(W:Wf c){k:Nat}{fs:List (Str×V)}(h:ae c k=some (.ns fs)):fsW c c fs fs:=by
 obtain⟨o,h1,h2⟩:=celW_iff.mp W.w _ (kR h)
 rw[h] at h1;(injection h1 with h1;subst h1)
 exact h2
theorem Wf.out {c U:aa}(W:Wf c){dk:Nat}{fs fs':List (Str×V)}(hdk:ae c dk=some (.ns fs)){f:List (Str×V)}(hU:∀j,j≠dk→j∈dom c→ae U j=ae c j)(hU2:ae U dk=some (.ns f))(hf:fsW U (cset c dk (.ns fs')) f fs') :
  bY U (cset c dk (.ns fs')) (cset c dk (.ns fs')):=by
 rw[celW_iff]
 intro p hp
 rcases gM W.nd hp with rfl|⟨h1,h2⟩
 ·exact⟨_,hU2,hf⟩
 ·obtain⟨o,h3,h4⟩:=celW_iff.mp W.w p h1
  refine⟨o,by rw[hU p.1 h2 (al h3)];exact h3,ek (fun k hk=>by rw[ai];exact hk) h4⟩
section
variable {c:aa}{k dk g b:Nat}{C:Addr}{fs f:List (Str×V)}
noncomputable def Wcs (c:aa)(dk g b:Nat)(f:List (Str×V))(gd:List Nat):aa:=cset c dk (.ns f)++[(g,.list (gd.map fun m:Nat=>D.int m))]++[(b,.bound "list.append" g)]
theorem cu (gd:List Nat):dom (Wcs c dk g b f gd)=dom c++[g]++[b]:=by unfold Wcs;rw[af,af,ai]
theorem nT (hg:g∉dom c)(hb:b∉dom c)(hgb:g≠b)(hdk:dk∈dom c)(gd:List Nat)(j:Nat) :
  ae (Wcs c dk g b f gd) j=if j=b then some (.bound "list.append" g) else if j=g then some (.list (gd.map fun m:Nat=>D.int m)) else if j=dk then some (.ns f) else ae c j:=by
 unfold Wcs
 rw[aH (by rw[af,ai];simp[hb,Ne.symm hgb]),aH (by rw[ai];exact hg),ar hdk]
theorem nj (W:Wf c)(hk:k∈dom c)(hg:g∉dom c)(hb:b∉dom c)(hgb:g≠b)(hdk:ae c dk=some (.ns fs))(hf:fsW (Wcs c dk g b f []) (Wcs c dk g b f []) f f):Cel (Wcs c dk g b f) k g b (dom c):=by
 have hdm:=al hdk
 have ngd:g≠dk:=fun e=>hg (e▸hdm)
 have nbd:b≠dk:=fun e=>hb (e▸hdm)
 have get:=fun gd j=>nT (c:=c) (f:=f) hg hb hgb hdm gd j
 refine⟨fun gd=>by rw[get,if_pos rfl],fun gd=>by rw[get,if_neg hgb,if_pos rfl],fun gd m=>?_,fun gd=>?_,fun gd j hj=>by rw[cu];simp[hj],fun gd=>by rw[cu];simp[hk]⟩
 ·unfold Wcs
  rw[aU (by rw[af];simp),d6 (by rw[ai];exact hg)]
  simp
 ·rw[celW_iff]
  have sub:∀j∈dom c,j∈dom (Wcs c dk g b f gd):=fun j hj=>by rw[cu];simp[hj]
  intro p hp
  unfold Wcs at hp
  rcases List.mem_append.mp hp with hp|hp
  ·rcases List.mem_append.mp hp with hp|hp
   ·rcases gM W.nd hp with rfl|⟨h1,h2⟩
    ·refine⟨.ns f,by rw[get,if_neg (Ne.symm nbd),if_neg (Ne.symm ngd),if_pos rfl],?_⟩
     have dd:∀a a',fsW (Wcs c dk g b f []) (Wcs c dk g b f []) a a'→fsW (Wcs c dk g b f gd) (Wcs c dk g b f gd) a a':=fun a a' q=>bu (fun j hj=>by rw[cu] at hj ⊢;exact hj) q
     exact dd f f hf
    ·obtain⟨o,h3,h4⟩:=celW_iff.mp W.w p h1
     have hm:=al h3
     refine⟨o,by rw[get,if_neg (fun e:p.1=b=>hb (by rw[←e];exact hm)),if_neg (fun e:p.1=g=>hg (by rw[←e];exact hm)),if_neg h2];exact h3,ek sub h4⟩
   ·have:p=(g,.list (gd.map fun m:Nat=>D.int m)):=by simpa using hp
    subst this
    exact⟨.list (gd.map fun m:Nat=>D.int m),by rw[get,if_neg hgb,if_pos rfl],rfl⟩
  ·have:p=(b,.bound "list.append" g):=by simpa using hp
   subst this
   exact⟨.bound "list.append" g,by rw[get,if_pos rfl],rfl,rfl,by rw[cu];simp⟩
end
noncomputable def aR (s:St):Int:=match b8 s.md with
 |some f=>if s.ln=f+1 then 2 else 3
 |none=>if 0<s.lv then 4 else if s.md=.Nb then 1 else 0
noncomputable def aS (s:St):List Nat:=if s.gd.getLast?=some s.ln then s.gd else s.gd++[s.ln]
theorem xg (s:St)(c:Nat)(h:∃m,s.gd.getLast?=some m∧m≤s.ln):∃m,(step s c).gd.getLast?=some m∧m≤(step s c).ln:=by
 obtain⟨m,h1,h2⟩:=h
 have hn:∃m,(nl s).gd.getLast?=some m∧m≤(nl s).ln:=by
  unfold nl;dsimp only
  split
  ·exact⟨s.ln+1,by simp,Nat.le_refl _⟩
  ·exact⟨m,h1,Nat.le_succ_of_le h2⟩
 have hN:∃m,(aY s c).gd.getLast?=some m∧m≤(aY s c).ln:=by
  unfold aY
  repeat' split
  all_goals first|exact hn|exact⟨m,h1,h2⟩
 have hS:∀d f,∃m,(bb s d f c).gd.getLast?=some m∧m≤(bb s d f c).ln:=fun d f=>by
  unfold bb
  repeat' split
  all_goals first|exact hn|exact⟨m,h1,h2⟩
 unfold step
 split<;>first|exact hN|exact hS _ _|skip
 all_goals repeat' split
 all_goals first|exact hN|exact hS _ _|exact hn|exact⟨m,h1,h2⟩|exact⟨m,h1,Nat.le_succ_of_le h2⟩
theorem n6 (l:List Nat):∀s:St,(∃m,s.gd.getLast?=some m∧m≤s.ln)→∃m,(scan s l).gd.getLast?=some m∧m≤(scan s l).ln:=by
 induction l with
 |nil=>exact fun s h=>h
 |cons c l ih=>exact fun s h=>ih (step s c) (xg s c h)
theorem sH (s:St)(h:∃m,s.gd.getLast?=some m∧m≤s.ln):(aR (step s 10)=0)↔(step s 10).gd.getLast?=some (step s 10).ln:=by
 obtain⟨m,h1,h2⟩:=h
 have hn:(aR (nl s)=0)↔(nl s).gd.getLast?=some (nl s).ln:=by
  unfold nl aR b8;dsimp only
  by_cases hz:s.lv=0
  ·simp[hz]
  ·have:0<s.lv:=Nat.pos_of_ne_zero hz
   simp only[hz,this,if_true,if_false,h1]
   constructor
   ·intro q;exact absurd q (by decide)
   ·intro q;have:m=s.ln+1:=by injection q
    exact (Om.o89 h2 this).elim
 have ne:s.gd.getLast?≠some (s.ln+1):=fun q=>by simp only[h1] at q;injection q with q;exact Om.o89 h2 q
 have hq:∀d,¬10=qc d:=fun d=>by rcases de d with q|q<;>rw[q]<;>decide
 obtain⟨md,lv,ln,gd⟩:=s
 cases md with
 |N=>exact hn
 |Nb=>exact hn
 |C=>exact hn
 |E=>
  have e:step ⟨.E,lv,ln,gd⟩ 10=⟨.Nb,lv,ln+1,gd⟩:=rfl
  rw[e]
  unfold aR b8;dsimp only
  refine⟨fun q=>?_,fun q=>absurd q ne⟩
  split at q<;>simp at q
 |Q1 d f=>
       have e:step ⟨.Q1 d f,lv,ln,gd⟩ 10=nl ⟨.Q1 d f,lv,ln,gd⟩:=by simp[step,bb,hq d]
       rw[e];exact hn
 |Q2 d f=>
       have e:step ⟨.Q2 d f,lv,ln,gd⟩ 10=nl ⟨.Q2 d f,lv,ln,gd⟩:=by simp[step,aY,hq d]
       rw[e];exact hn
 |S1 d f=>
       have e:step ⟨.S1 d f,lv,ln,gd⟩ 10=nl ⟨.S1 d f,lv,ln,gd⟩:=by simp[step,bb,hq d]
       rw[e];exact hn
 |S1e d f=>
  have e:step ⟨.S1e d f,lv,ln,gd⟩ 10=⟨.S1 d f,lv,ln+1,gd⟩:=rfl
  rw[e]
  unfold aR b8;dsimp only
  refine⟨fun q=>?_,fun q=>absurd q ne⟩
  split at q<;>contradiction
 |S3 d k f=>
  have e:step ⟨.S3 d k f,lv,ln,gd⟩ 10=⟨.S3 d 0 f,lv,ln+1,gd⟩:=by simp[step,hq d]
  rw[e]
  unfold aR b8;dsimp only
  refine⟨fun q=>?_,fun q=>absurd q ne⟩
  split at q<;>contradiction
 |S3e d f=>
  have e:step ⟨.S3e d f,lv,ln,gd⟩ 10=⟨.S3 d 0 f,lv,ln+1,gd⟩:=rfl
  rw[e]
  unfold aR b8;dsimp only
  refine⟨fun q=>?_,fun q=>absurd q ne⟩
  split at q<;>contradiction
theorem rm {l:List Nat}(h:l=[]∨l.getLast?=some 10):(aR (scan st0 l)=0)↔(scan st0 l).gd.getLast?=some (scan st0 l).ln:=by
 rcases h with rfl|h
 ·exact⟨fun _=>rfl,fun _=>rfl⟩
 ·obtain⟨a,rfl⟩:∃a,l=a++[10]:=by
   refine⟨l.dropLast,?_⟩
   have hne:l≠[]:=fun e=>by rw[e] at h;contradiction
   have:=List.dropLast_concat_getLast hne
   rw[List.getLast?_eq_some_getLast hne] at h
   injection h with h
   rw[h] at this;exact this.symm
  rw[aT]
  exact sH _ (n6 a st0 ⟨0,rfl,Nat.le_refl _⟩)
section
variable {P:Pm}{pr:List Nat}
theorem bP {n i:Nat}{e:IE}{r:List IS}{l:Sl}{c c':aa}{K:F→Sg'→Prop}(v:V)(he:∀K':V→aa→Prop,K' v c'→wpE P n e l c K')(h:wpB P pr (n+1) r ⟨l.set i (some v),c'⟩ K):wpB P pr (n+2) (.asg i e::r) ⟨l,c⟩ K:=by
 exact he _ h
theorem bw {n:Nat}{t:IE}{a b r:List IS}{l:Sl}{c c':aa}{K:F→Sg'→Prop}(q:Bool)(ht:∀K':Bool→aa→Prop,K' q c'→wpT P n t l c K')
  (h:wpB P pr n (if q then a else b) ⟨l,c'⟩ (fun f τ=>match f with | .next=>wpB P pr (n+1) r τ K|f=>K f τ)):wpB P pr (n+2) (.if_ t a b::r) ⟨l,c⟩ K:=by
 refine ht _ ⟨fun e=>?_,fun e=>?_⟩
 ·subst e;exact h
 ·subst e;exact h
theorem aA {n:Nat}{σ:Sg'}{K:F→Sg'→Prop}(h:K .next σ):wpB P pr (n+1) [] σ K:=by
 exact h
theorem b6 {n:Nat}{t:IE}{r:List IS}{l:Sl}{c c':aa}{K:F→Sg'→Prop}(ht:∀K':Bool→aa→Prop,K' true c'→wpT P n t l c K')
  (h:wpB P pr (n+1) r ⟨l,c'⟩ K):wpB P pr (n+2) (.assert t::r) ⟨l,c⟩ K:=by
 exact ht _ ⟨rfl,h⟩
theorem cM {c:aa}{k dk:Nat}{fs:List (Str×V)}{nm:Str}{v:V}{K:aa→Prop}(hk:ae c k=some (.inst P.C dk))(hdk:ae c dk=some (.ns fs))(hat:P.attr nm=true)(hsz:fs.length≤1000)(h:K (cset c dk (.ns (put fs nm v)))):a8 P c (.obj k) nm v K:=by
 show er (ae c k) _
 rw[hk]
 refine⟨rfl,hat,?_⟩
 rw[hdk]
 exact⟨hsz,h⟩
theorem cQ {n:Nat}{o e:IE}{nm:Str}{r:List IS}{l:Sl}{c c':aa}{K:F→Sg'→Prop}(v:V){k dk:Nat}{fs:List (Str×V)}(he:∀K':V→aa→Prop,K' v c'→wpE P n e l c K')(ho:∀K':V→aa→Prop,K' (.obj k) c'→wpE P n o l c' K')
  (hk:ae c' k=some (.inst P.C dk)) (hdk:ae c' dk=some (.ns fs)) (hat:P.attr nm=true) (hsz:fs.length≤1000)
  (h:wpB P pr (n+1) r ⟨l,cset c' dk (.ns (put fs nm v))⟩ K):wpB P pr (n+2) (.asgA o nm e::r) ⟨l,c⟩ K:=by
 exact he _ (ho _ (cM hk hdk hat hsz h))
theorem rW {n j:Nat}{o e:IE}{nm:Str}{r:List IS}{l:Sl}{c c':aa}{K:F→Sg'→Prop}(v:V){k dk:Nat}{fs:List (Str×V)}(he:∀K':V→aa→Prop,K' v c'→wpE P n e l c K')(ho:∀K':V→aa→Prop,K' (.obj k) c'→wpE P n o l c' K')
  (hk:ae c' k=some (.inst P.C dk)) (hdk:ae c' dk=some (.ns fs)) (hat:P.attr nm=true) (hsz:fs.length≤1000)
  (h:wpB P pr (n+1) r ⟨l.set j (some v),cset c' dk (.ns (put fs nm v))⟩ K):wpB P pr (n+2) (.asgA2 o nm j e::r) ⟨l,c⟩ K:=by
 exact he _ (ho _ (cM hk hdk hat hsz h))
theorem ue {n:Nat}{o:IE}{nm:Str}{l:Sl}{c:aa}{k dk:Nat}{fs:List (Str×V)}{v:V}(ho:∀K':V→aa→Prop,K' (.obj k) c→wpE P n o l c K')
  (hk:ae c k=some (.inst P.C dk)) (hdk:ae c dk=some (.ns fs)) (hat:P.attr nm=true) (hl:look fs nm=some v) (hv:iP v=true) (K':V→aa→Prop) (h:K' v c):wpE P (n+1) (.attr o nm) l c K':=by
 refine ho _ ⟨hat,?_⟩
 show er (ae c k) _
 rw[hk]
 refine⟨rfl,?_⟩
 rw[hdk]
 show aw (look fs nm) _
 rw[hl]
 exact⟨hv,h⟩
theorem cI {n i:Nat}{nm:Str}{l:Sl}{c:aa}{k dk:Nat}{fs:List (Str×V)}{v:V}(hi:aM l i=some (.obj k))
  (hk:ae c k=some (.inst P.C dk)) (hdk:ae c dk=some (.ns fs)) (hat:P.attr nm=true) (hl:look fs nm=some v) (hv:iP v=true) (K':V→aa→Prop) (h:K' v c):wpE P (n+2) (.attr (.v i) nm) l c K':=
 ue (n:=n+1) (k:=k) (bD hi) hk hdk hat hl hv K' h
theorem uH {n i j:Nat}{e:IE}{r:List IS}{l:Sl}{c c':aa}{K:F→Sg'→Prop}(v:V)(he:∀K':V→aa→Prop,K' v c'→wpE P n e l c K')(h:wpB P pr (n+1) r ⟨(l.set i (some v)).set j (some v),c'⟩ K):wpB P pr (n+2) (.asg2 i j e::r) ⟨l,c⟩ K:=by
 exact he _ h
theorem nF {n i j:Nat}{a b:IE}{r:List IS}{l:Sl}{c:aa}{K:F→Sg'→Prop}(u v:D)(ha:∀K':V→aa→Prop,K' (.d u) c→wpE P n a l c K')(hb:∀K':V→aa→Prop,K' (.d v) c→wpE P n b l c K')
  (h:wpB P pr (n+1) r ⟨(l.set j (some (.d v))).set i (some (.d u)),c⟩ K):wpB P pr (n+2) (.unp2 i j a b::r) ⟨l,c⟩ K:=by
 exact ha _ (hb _ ⟨⟨_,_,rfl,rfl⟩,h⟩)
theorem u6 {n i b j:Nat}{l:Sl}{c:aa}{xs:List D}(hi:aM l i=some (.obj j))(hj:ae c j=some (.list xs))(hb:b∉dom c)(K':V→aa→Prop)(h:K' (.obj b) (c++[(b,.bound "list.append" j)])):wpE P (n+2) (.bnd (.v i) b) l c K':=by
 refine bD (P:=P) (n:=n) hi (fun u c1=>gF u fun j=>cz (ae c1 j) fun _=>b∉dom c1∧K' (.obj b) (c1++[(b,.bound "list.append" j)])) ?_
 show cz (ae c j) _
 rw[hj]
 exact⟨hb,h⟩
theorem pH {c:aa}{g:Nat}{gd:List Nat}{m:Nat}(hg:ae c g=some (.list (gd.map fun m:Nat=>D.int m)))(hm:gd.getLast?=some m)(hl:gd.length≤big){K:D→Prop}(h:K (.int m)):ef c (.obj g) (.d (.int (-1))) K:=by
 have hne:gd≠[]:=fun e=>by rw[e] at hm;contradiction
 have hpos:=List.length_pos_iff.mpr hne
 have hs:bW c (.obj g)=some (false,gd.map fun m:Nat=>D.int m):=by
  show (match ae c g with|some (.list xs)=>some (false,xs)|_=>none)=_
  rw[hg]
 show aw (bW c (.obj g)) _
 rw[hs]
 refine⟨by rw[List.length_map];exact hl,gd.length-1,.int m,?_,?_,h⟩
 ·rw[List.length_map]
  unfold seqIndex?
  dsimp only[show ((-1:Int)<0) from by decide,if_true]
  rw[if_pos (by simp only[Bool.and_eq_true,decide_eq_true_eq];exact Om.o38 hpos)]
  congr 1;exact Om.o26
 ·rw[List.getLast?_eq_getElem?] at hm
  rw[List.getElem?_map,hm];rfl
theorem vD (U U':aa)(d:D):vW U U' (.d d) (.d d):=.inl ⟨rfl,trivial⟩
theorem dh {n:Nat}{op:CmpOp}{a b:IE}{l:Sl}{c:aa}{K:Bool→aa→Prop}(u v:V)(ha:∀K':V→aa→Prop,K' u c→wpE P n a l c K')(hb:∀K':V→aa→Prop,K' v c→wpE P n b l c K')(h:e5 c op u v (fun r=>K r c)):wpT P (n+1) (.cmp op a b) l c K:=by
 exact ha _ (hb _ h)
theorem jy {n:Nat}{op:CmpOp}{a b:IE}{l:Sl}{c:aa}{K:V→aa→Prop}(u v:V)(ha:∀K':V→aa→Prop,K' u c→wpE P n a l c K')(hb:∀K':V→aa→Prop,K' v c→wpE P n b l c K')(h:e5 c op u v (fun r=>K (.d (.bool r)) c)):wpE P (n+1) (.cmp op a b) l c K:=by
 exact ha _ (hb _ h)
theorem bL {n:Nat}{a b:IE}{l:Sl}{c:aa}{K:V→aa→Prop}(u v:V)(ha:∀K':V→aa→Prop,K' u c→wpE P n a l c K')(hb:∀K':V→aa→Prop,K' v c→wpE P n b l c K')(h:ef c u v (fun d=>K (.d d) c)):wpE P (n+1) (.item a b) l c K:=by
 exact ha _ (hb _ h)
noncomputable abbrev nSl:Str:=Str.ofString "study_level"
noncomputable abbrev cm:Str:=Str.ofString "code"
noncomputable abbrev nGl:Str:=Str.ofString "goodlines"
noncomputable abbrev nCt:Str:=Str.ofString "continuation"
noncomputable def aQ (l:List Nat):List D:=l.map fun m:Nat=>D.int m
noncomputable def trS (x:Str):Str:=⟨x.cps.map tr⟩
noncomputable def fin (x:Str):St:=scan st0 ((sg x).map tr)
noncomputable def studied (fs:List (Str×V))(x:Str):List (Str×V):=
 put (put (put fs nSl (.d (.int 1))) nGl (.d (.lst (aQ (aS (fin x)))))) nCt (.d (.int (aR (fin x))))
structure TextOk (x:Str):Prop where
 ascii:∀ch∈sg x,ch<128
 ends:sg x=[]∨(sg x).getLast?=some 10
 len:(sg x).length+5≤big
structure AttrOk (P:Pm):Prop where
 sl:P.attr nSl=true
 co:P.attr cm=true
 gl:P.attr nGl=true
 ct:P.attr nCt=true
theorem db:cm≠nSl:=by decide +kernel
theorem df (fs:List (Str×V))(x:Str)(v:V):(put fs x v).length≤fs.length+1:=by
 rw[gp];split<;>omega
theorem aD (x:Str):(sg x).length=x.length:=by simp[sg,Str.length]
theorem dl {x y z:Str}(hy:y.length≠0)(h:(sg z).length≤(sg y).length){m:Nat}(hx:x.length≤m):(Txt.replace x y z).length≤m:=by
 have:=bT (x:=x) hy h
 rw[aD,aD] at this;exact Om.o98 hx this
theorem ja (x:Str):sg (trS x)=(sg x).map tr:=by simp[sg,trS]
theorem uF (c:Nat):tr c=10∨tr c=34∨tr c=35∨tr c=39∨tr c=40∨tr c=41∨tr c=92∨tr c=120:=by
 unfold tr
 split
 ·simp
 split
 ·simp
 split
 ·rename_i h;rcases h with rfl|rfl|rfl|rfl|rfl<;>simp
 ·simp
structure SqOk (y:Str)(s:St):Prop where
 last:sg y=[]∨(sg y).getLast?=some 10
 signs:va y
 len:(sg y).length+5≤big
 scan:scan st0 (sg y)=s
theorem yu {x:Str}(T:TextOk x):SqOk (cD (trS x)) (fin x):=by
 have hl:sg (trS x)=[]∨(sg (trS x)).getLast?=some 10:=by
  rw[ja]
  rcases T.ends with h|h
  ·exact .inl (by rw[h];rfl)
  ·exact .inr (by rw[List.getLast?_map,h];rfl)
 have hn:(sg (trS x)).getLast?≠some 120:=by
  rcases hl with h|h<;>rw[h]<;>simp
 have hlen:(sg (cD (trS x))).length≤(sg (trS x)).length:=by
  unfold cD
  refine Nat.le_trans (bT (by decide) (by decide)) (Nat.le_trans (bT (by decide) (by decide)) (Nat.le_trans (bT (by decide) (by decide)) (Nat.le_trans (bT (by decide) (by decide)) (bT (by decide) (by decide)))))
 have hlen2:(sg (trS x)).length=(sg x).length:=by rw[ja,List.length_map]
 refine⟨?_,fun c hc=>?_,by have:=T.len;exact Om.o97 hlen hlen2 this,by rw[ll _ hn,ja];rfl⟩
 ·rcases hl with h|h
  ·refine .inl (List.length_eq_zero_iff.mp ?_)
   rw[h] at hlen;exact Nat.le_zero.mp hlen
  ·exact .inr (by rw[kG _ hn,h])
 ·rcases mM hc with h|h|h
  ·simp[h]
  ·simp[h]
  ·rw[ja] at h
   obtain⟨a,_,rfl⟩:=List.mem_map.mp h
   exact uF a
theorem wN {y:Str}{s:St}{ct:Int}(hO:g6 y (sg y).length s ct):aR s=if (ct≠2∧ct≠3∧0<s.lv) then 4 else ct:=by
 rcases hO with ⟨h,e⟩|⟨_,_,f,h,e⟩
 ·have hm:=h.2.2.2 rfl
  have ho:b8 s.md=none:=by rcases hm with q|q<;>rw[q]<;>rfl
  unfold aR
  rw[ho]
  dsimp only
  rcases hm with q|q
  ·rw[q,if_neg (fun q=>by cases q.1)] at e
   subst e
   rw[q]
   by_cases hz:0<s.lv
   ·rw[if_pos hz,if_pos ⟨by decide,by decide,hz⟩]
   ·rw[if_neg hz,if_neg (show ¬Md.N=Md.Nb by simp),if_neg (fun q=>hz q.2.2)]
  ·rw[q,if_pos ⟨rfl,rfl⟩] at e
   subst e
   rw[q]
   by_cases hz:0<s.lv
   ·rw[if_pos hz,if_pos ⟨by decide,by decide,hz⟩]
   ·rw[if_neg hz,if_pos (show Md.Nb=Md.Nb from rfl),if_neg (fun q=>hz q.2.2)]
 ·unfold aR
  rw[h]
  dsimp only
  rw[←e,if_neg]
  intro q
  rw[e] at q
  split at q
  ·exact q.1 rfl
  ·exact q.2.1 rfl
noncomputable def vh:List IS:=[
 .if_ (.and (.cmp .NotEq (.v 2) (.g (.d (.int 2)))) (.and (.cmp .NotEq (.v 2) (.g (.d (.int 3)))) (.cmp .Gt (.v 3) (.c (.int 0))))) [
  .asg 2 (.g (.d (.int 4)))] [],
 .asgA (.v 0) (Str.ofString "continuation") (.v 2),
 .assert (.cmp .Eq (.cmp .Eq (.v 2) (.g (.d (.int 0)))) (.cmp .Eq (.item (.v 5) (.c (.int (-1)))) (.v 4))),
 .if_ (.cmp .NotEq (.item (.v 5) (.c (.int (-1)))) (.v 4)) [
  .expr (.call (.v 6) [(.v 4)] none)] []]
theorem od {k dk g b n:Nat}{c:aa}{fs f2:List (Str×V)}{x y:Str}(A:AttrOk P)(W:Wf c)(hk:ae c k=some (.inst P.C dk))(hdk:ae c dk=some (.ns fs))(hsz:fs.length≤900)
  (hg:g∉dom c) (hb:b∉dom c) (hgb:g≠b) (hf2:put (put fs nSl (.d (.int 1))) nGl (.obj g)=f2) (T:TextOk x) (hsc:scan st0 (sg y)=fin x) (hlast:sg y=[]∨(sg y).getLast?=some 10) (hlen:(sg y).length+5≤big)
  {s:St} {ct:Int} {r:List (Option V)} (hO:g6 y (sg y).length s ct) (hs:s=scan st0 (sg y)) {K:V→aa→Prop} (hK:K (.d .none) (cset c dk (.ns (studied fs x)))) :
  wpB P (dom c) (n+100) vh ⟨slots k g b y ct s.lv s.ln (sg y).length (sg y).length r,Wcs c dk g b f2 s.gd⟩ (fun f τ=>∃v' c',vW τ.c c' (ee f) v'∧bY τ.c c' c'∧(∀j∈dom c,j∈dom c')∧K v' c'):=by
 have kne:k≠dk:=fun e=>by rw[e,hdk] at hk;simp at hk
 have kd:=al hk
 have dkd:=al hdk
 have ngk:k≠g:=fun e=>hg (e▸kd)
 have ngd:dk≠g:=fun e=>hg (e▸dkd)
 have nbk:k≠b:=fun e=>hb (e▸kd)
 have nbd:dk≠b:=fun e=>hb (e▸dkd)
 have hce:=wN hO
 have get:=fun (f:List (Str×V)) gd j=>nT (c:=c) (f:=f) hg hb hgb dkd gd j
 have hgd:s.gd.length≤big:=by
  rw[hs];have:=q6 st0 (sg y);have h3:st0.gd.length=1:=rfl;exact Om.o96 hlen this h3
 obtain⟨m,hm1,hm2⟩:=n6 (sg y) st0 ⟨0,rfl,Nat.le_refl _⟩
 rw[←hs] at hm1 hm2
 have hel:=rm hlast
 rw[←hs] at hel
 unfold vh
 have tail:∀n',wpB P (dom c) (n'+90) [
   .asgA (.v 0) (Str.ofString "continuation") (.v 2),
   .assert (.cmp .Eq (.cmp .Eq (.v 2) (.g (.d (.int 0)))) (.cmp .Eq (.item (.v 5) (.c (.int (-1)))) (.v 4))),
   .if_ (.cmp .NotEq (.item (.v 5) (.c (.int (-1)))) (.v 4)) [
    .expr (.call (.v 6) [(.v 4)] none)] []] ⟨slots k g b y (aR s) s.lv s.ln (sg y).length (sg y).length r,Wcs c dk g b f2 s.gd⟩ (fun f τ=>∃v' c',vW τ.c c' (ee f) v'∧bY τ.c c' c'∧(∀j∈dom c,j∈dom c')∧K v' c'):=by
  intro n'
  have hf2l:f2.length≤1000:=by
   rw[←hf2]
   have h1:=df (put fs nSl (.d (.int 1))) nGl (.obj g)
   have h2:=df fs nSl (.d (.int 1))
   exact Om.o95 hsz h1 h2
  refine cQ (n:=n'+88) (.d (.int (aR s))) (k:=k) (dk:=dk) (fs:=f2) (c':=Wcs c dk g b f2 s.gd) (fun K' h=>h) (fun K' h=>h)
   (by rw[get,if_neg nbk,if_neg ngk,if_neg kne];exact hk) (by rw[get,if_neg nbd,if_neg ngd,if_pos rfl]) A.ct hf2l ?_
  have e3:cset (Wcs c dk g b f2 s.gd) dk (.ns (put f2 nCt (.d (.int (aR s)))))=Wcs c dk g b (put f2 nCt (.d (.int (aR s)))) s.gd:=by
   unfold Wcs
   rw[aU (by rw[af,ai];simp[dkd]),aU (by rw[ai];exact dkd),aV]
  rw[e3]
  generalize hf3:put f2 nCt (.d (.int (aR s)))=f3
  have f3w:∀U U',(∀j∈dom c,j∈dom U')→g∈dom U'→fsW U U' f3 f3:=fun U U' h1 h2=>by
   rw[←hf3,←hf2]
   have v1:vW U U' (.obj g) (.obj g):=.inl ⟨rfl,h2⟩
   have v2:vW U U' (.d (.int 1)) (.d (.int 1)):=.inl ⟨rfl,trivial⟩
   have v3:vW U U' (.d (.int (aR s))) (.d (.int (aR s))):=.inl ⟨rfl,trivial⟩
   exact aq v3 (aq v1 (aq v2 (bu h1 (W.fs hdk))))
  have CE:Cel (Wcs c dk g b f3) k g b (dom c):=nj W kd hg hb hgb hdk (f3w _ _ (fun j hj=>by rw[cu];simp[hj]) (by rw[cu];simp))
  have fine:∀gd,gd=aS s→∃v' c',vW (Wcs c dk g b f3 gd) c' (.d .none) v'∧bY (Wcs c dk g b f3 gd) c' c'∧(∀j∈dom c,j∈dom c')∧K v' c':=by
   intro gd hgd'
   refine⟨.d .none,cset c dk (.ns (studied fs x)),.inl ⟨rfl,trivial⟩,?_,fun j hj=>by rw[ai];exact hj,hK⟩
   refine W.out hdk (f:=f3) (fun j h1 h2=>?_) (by rw[get,if_neg nbd,if_neg ngd,if_pos rfl]) ?_
   ·rw[get,if_neg (fun e:j=b=>hb (by rw[←e];exact h2)),if_neg (fun e:j=g=>hg (by rw[←e];exact h2)),if_neg h1]
   ·rw[←hf3,←hf2]
    unfold studied
    have hfin:fin x=s:=by rw[hs,hsc]
    rw[hfin]
    have v1:vW (Wcs c dk g b (put (put (put fs nSl (.d (.int 1))) nGl (.obj g)) nCt (.d (.int (aR s)))) gd) (cset c dk (.ns (put (put (put fs nSl (.d (.int 1))) nGl (.d (.lst (aQ (aS s))))) nCt (.d (.int (aR s)))))) (.obj g) (.d (.lst (aQ (aS s)))):=
     .inr ⟨g,aQ (aS s),rfl,by rw[get,if_neg hgb,if_pos rfl,hgd'];rfl,rfl,by rw[ai];exact hg⟩
    refine aq (vD _ _ _) (aq v1 (aq (vD _ _ _) (bu (fun j hj=>by rw[ai];exact hj) (W.fs hdk))))
  have itl:∀n'' (K':V→aa→Prop),K' (.d (.int m)) (Wcs c dk g b f3 s.gd)→wpE P (n''+2) (.item (.v 5) (.c (.int (-1)))) (slots k g b y (aR s) s.lv s.ln (sg y).length (sg y).length r) (Wcs c dk g b f3 s.gd) K':=fun n'' K' h=>
   bL (n:=n''+1) (.obj g) (.d (.int (-1))) (fun K' h=>h) (fun K' h=>h) (pH (CE.g_ s.gd) hm1 hgd h)
  refine b6 (n:=n'+87) (c':=Wcs c dk g b f3 s.gd) (fun K' h=>?_) ?_
  ·refine dh (n:=n'+86) (.d (.bool (aR s==0))) (.d (.bool ((m:Int)==s.ln))) (fun K' h=>h) (fun K' h=>jy (n:=n'+85) (.d (.int m)) (.d (.int s.ln)) (itl (n'+83)) (fun K' h=>h) h) ?_
   have:((aR s==0)==((m:Int)==s.ln))=true:=by
    rw[hm1] at hel
    by_cases hme:m=s.ln
    ·rw[hel.mpr (by rw[hme])]
     simp[hme]
    ·have h1:(aR s==0)=false:=beq_eq_false_iff_ne.mpr fun e=>hme (by have:=hel.mp e;injection this)
     have h2:((m:Int)==s.ln)=false:=beq_eq_false_iff_ne.mpr fun e=>hme (by exact Om.o94 e)
     rw[h1,h2];rfl
   show K' ((aR s==0)==((m:Int)==s.ln)) _
   rw[this];exact h
  refine bw (n:=n'+86) (c':=Wcs c dk g b f3 s.gd) (decide (m≠s.ln)) (fun K' h=>?_) ?_
  ·refine dh (n:=n'+85) (.d (.int m)) (.d (.int s.ln)) (itl (n'+83)) (fun K' h=>h) ?_
   show K' ((m:Int) != s.ln) _
   have:((m:Int) != s.ln)=decide (m≠s.ln):=by
    by_cases hme:m=s.ln
    ·simp[hme]
    ·have h2:((m:Int) != s.ln)=true:=bne_iff_ne.mpr fun e=>hme (by exact Om.o94 e)
     rw[h2];simp[hme]
   rw[this];exact h
  ·by_cases hme:m=s.ln
   ·rw[if_neg (by simp[hme])]
    refine aA (aA (fine _ ?_))
    unfold aS
    rw[hm1,hme,if_pos rfl]
   ·rw[if_pos (by simp[hme])]
    refine kr (n:=n'+81) CE (m:=s.ln) rfl rfl hgd (aA (fine _ ?_))
    unfold aS
    rw[hm1,if_neg (fun q=>hme (by injection q))]
 have hq:∀n' (K':Bool→aa→Prop) cc,K' (decide (ct≠2∧ct≠3∧0<s.lv)) cc→wpT P (n'+20) (.and (.cmp .NotEq (.v 2) (.g (.d (.int 2)))) (.and (.cmp .NotEq (.v 2) (.g (.d (.int 3)))) (.cmp .Gt (.v 3) (.c (.int 0))))) (slots k g b y ct s.lv s.ln (sg y).length (sg y).length r) cc K':=by
  intro n' K' cc h
  conv=>whnf
  refine⟨fun h1=>?_,fun h1=>?_⟩
  ·have h1:ct=2:=bne_eq_false_iff_eq.mp h1
   rw[decide_eq_false (fun q=>q.1 h1)] at h;exact h
  have h1:ct≠2:=bne_iff_ne.mp h1
  conv=>whnf
  refine⟨fun h2=>?_,fun h2=>?_⟩
  ·have h2:ct=3:=bne_eq_false_iff_eq.mp h2
   rw[decide_eq_false (fun q=>q.2.1 h2)] at h;exact h
  have h2:ct≠3:=bne_iff_ne.mp h2
  show K' (decide ((0:Int)<s.lv)) cc
  have:decide ((0:Int)<s.lv)=decide (ct≠2∧ct≠3∧0<s.lv):=by
   by_cases hz:0<s.lv
   ·rw[decide_eq_true (by exact Om.o93 hz),decide_eq_true ⟨h1,h2,hz⟩]
   ·rw[decide_eq_false (by exact Om.o92 hz),decide_eq_false (fun q=>hz q.2.2)]
  rw[this];exact h
 refine bw (n:=n+98) (c':=Wcs c dk g b f2 s.gd) _ (fun K' h=>hq (n+78) K' _ h) ?_
 by_cases hz:ct≠2∧ct≠3∧0<s.lv
 ·rw[if_pos (by rw[decide_eq_true hz])]
  rw[if_pos hz] at hce
  refine av (n:=n+96) (.d (.int 4)) (fun K' h=>h) (aA ?_)
  have:=tail (n+9)
  rw[hce] at this
  exact this
 ·rw[if_neg (by rw[decide_eq_false hz];decide)]
  rw[if_neg hz] at hce
  refine aA (n:=n+97) ?_
  have:=tail (n+9)
  rw[hce] at this
  exact this
theorem qs {k dk g b td n:Nat}{c:aa}{fs:List (Str×V)}{x:Str}(A:AttrOk P)(htd:td=P.td)(htr:P.tr=tr)(W:Wf c)(hk:ae c k=some (.inst P.C dk))(hdk:ae c dk=some (.ns fs))(hsz:fs.length≤900)
  (hlv:look fs nSl=some (.d (.int 0))) (hco:look fs cm=some (.d (.str x))) (T:TextOk x) (hg:g∉dom c) (hb:b∉dom c) (hgb:g≠b) {K:V→aa→Prop} (hK:K (.d .none) (cset c dk (.ns (studied fs x)))) :
  wpB P (dom c) (n+130) (dU td g b) ⟨start [.obj k] 12,c⟩ (fun f τ=>∃v' c',vW τ.c c' (ee f) v'∧bY τ.c c' c'∧(∀j∈dom c,j∈dom c')∧K v' c'):=by
 have kne:k≠dk:=fun e=>by rw[e,hdk] at hk;simp at hk
 have kd:=al hk
 have dkd:=al hdk
 have hxb:x.length≤big:=by have:=T.len;rw[aD] at this;exact Om.o63 this
 unfold dU
 refine bw (n:=n+128) false (c':=c) (fun K' h=>?_) (aA ?_)
 ·rw[eX];exact cI (n:=n+125) rfl hk hdk A.sl hlv rfl _ h
 refine cQ (n:=n+127) (.d (.int 1)) (c':=c) (k:=k) (fun K' h=>h) (fun K' h=>h) hk hdk A.sl (by exact Om.o91 hsz) ?_
 have hk1:ae (cset c dk (.ns (put fs nSl (.d (.int 1))))) k=some (.inst P.C dk):=by rw[ar dkd,if_neg kne];exact hk
 have hdk1:ae (cset c dk (.ns (put fs nSl (.d (.int 1))))) dk=some (.ns (put fs nSl (.d (.int 1)))):=by rw[ar dkd,if_pos rfl]
 refine av (n:=n+126) (.d (.str x)) (fun K' h=>cI (n:=n+124) rfl hk1 hdk1 A.co (by rw[ah,if_neg db];exact hco) rfl _ h) ?_
 have htx:(⟨x.cps.map P.tr⟩:Str)=trS x:=by rw[htr];rfl
 refine av (n:=n+125) (.d (.str (trS x))) (fun K' h=>⟨htd,T.ascii,hxb,by rw[htx];exact h⟩) ?_
 have l0:(trS x).length≤big:=by show (x.cps.map tr).size≤big;rw[Array.size_map];exact hxb
 have l1:=dl (y:=X 8) (z:=X 1) (by decide) (by decide) l0
 have l2:=dl (y:=X 4) (z:=X 1) (by decide) (by decide) l1
 have l3:=dl (y:=X 2) (z:=X 1) (by decide) (by decide) l2
 have l4:=dl (y:=X 2) (z:=X 1) (by decide) (by decide) l3
 refine av (n:=n+124) (.d (.str _)) (fun K' h=>⟨l0,by decide,by decide,h⟩) ?_
 refine av (n:=n+123) (.d (.str _)) (fun K' h=>⟨l1,by decide,by decide,h⟩) ?_
 refine av (n:=n+122) (.d (.str _)) (fun K' h=>⟨l2,by decide,by decide,h⟩) ?_
 refine av (n:=n+121) (.d (.str _)) (fun K' h=>⟨l3,by decide,by decide,h⟩) ?_
 refine av (n:=n+120) (.d (.str (cD (trS x)))) (fun K' h=>⟨l4,by decide,by decide,h⟩) ?_
 have SQ:=yu T
 generalize cD (trS x)=y at SQ ⊢
 have hyb:y.length≤big:=by have:=SQ.len;rw[aD] at this;exact Om.o63 this
 refine av (n:=n+119) (.d (.int 0)) (fun K' h=>h) ?_
 refine uH (n:=n+118) (.d (.int 0)) (fun K' h=>h) ?_
 have d1:dom (cset c dk (.ns (put fs nSl (.d (.int 1)))))=dom c:=ai ..
 have hg1:g∉dom (cset c dk (.ns (put fs nSl (.d (.int 1))))):=by rw[d1];exact hg
 have ngk:k≠g:=fun e=>hg (e▸kd)
 have ngd:dk≠g:=fun e=>hg (e▸dkd)
 refine rW (n:=n+117) (.obj g) (k:=k) (dk:=dk) (fs:=put fs nSl (.d (.int 1))) (c':=cset c dk (.ns (put fs nSl (.d (.int 1))))++[(g,.list [.int 0])]) (fun K' h=>⟨by decide,hg1,h⟩) (fun K' h=>h)
  (by rw[aH hg1,if_neg ngk];exact hk1) (by rw[aH hg1,if_neg ngd];exact hdk1) A.gl (by have:=df fs nSl (.d (.int 1));exact Om.o90 hsz this) ?_
 have e2:cset (cset c dk (.ns (put fs nSl (.d (.int 1))))++[(g,.list [.int 0])]) dk (.ns (put (put fs nSl (.d (.int 1))) nGl (.obj g)))=cset c dk (.ns (put (put fs nSl (.d (.int 1))) nGl (.obj g)))++[(g,.list [.int 0])]:=by
  rw[aU (by rw[d1];exact dkd),aV]
 rw[e2]
 generalize hf2:put (put fs nSl (.d (.int 1))) nGl (.obj g)=f2
 have d2:dom (cset c dk (.ns f2))=dom c:=ai ..
 refine bP (n:=n+116) (.obj b) (c':=Wcs c dk g b f2 [0]) (fun K' h=>u6 (n:=n+114) (xs:=[.int 0]) rfl (by rw[aH (by rw[d2];exact hg),if_pos rfl]) (by rw[af,d2];simp[hb,Ne.symm hgb]) _ h) ?_
 refine nF (n:=n+115) (.int 0) (.int ((sg y).length:Nat)) (fun K' h=>h) (fun K' h=>⟨hyb,by rw[←aD];exact h⟩) ?_
 have vok:∀(U:aa) (v:D),vW U U (.d v) (.d v):=fun U v=>.inl ⟨rfl,trivial⟩
 have f2w:∀U U',(∀j∈dom c,j∈dom U')→g∈dom U'→fsW U U' f2 f2:=fun U U' h1 h2=>by
  rw[←hf2]
  have v1:vW U U' (.obj g) (.obj g):=.inl ⟨rfl,h2⟩
  have v2:vW U U' (.d (.int 1)) (.d (.int 1)):=.inl ⟨rfl,trivial⟩
  exact aq v1 (aq v2 (bu h1 (W.fs hdk)))
 have CE:Cel (Wcs c dk g b f2) k g b (dom c):=nj W kd hg hb hgb hdk (f2w _ _ (fun j hj=>by rw[cu];simp[hj]) (by rw[cu];simp))
 have hl:∀i c,(sg y)[i]?=some c→i+1=(sg y).length→c=10:=fun i c' h1 h2=>by
  rcases SQ.last with q|q
  ·rw[q] at h1;simp at h1
  ·rw[List.getLast?_eq_getElem?,←h2,Nat.add_sub_cancel,h1] at q
   injection q
 have hend:sg y≠[]→(sg y)[(sg y).length-1]?=some 10:=fun h1=>by
  rcases SQ.last with q|q
  ·exact absurd q h1
  ·rw[←List.getLast?_eq_getElem?];exact q
 refine dn (n:=n+115) (pW (n:=n+15) CE hl hend SQ.signs SQ.len (r:=[none,none,none,none]) rfl fun s ct r hO hs=>?_)
 exact od A W hk hdk hsz hg hb hgb hf2 T (SQ.scan) SQ.last SQ.len hO hs hK
end
section
variable {P:Pm}{pr:List Nat}
theorem Wf.set {c:aa}(W:Wf c){dk:Nat}{fs fs':List (Str×V)}(hdk:ae c dk=some (.ns fs))(hf:fsW (cset c dk (.ns fs')) (cset c dk (.ns fs')) fs' fs'):Wf (cset c dk (.ns fs')):=
 ⟨W.out hdk (f:=fs') (fun j h1 h2=>by rw[ar (al hdk),if_neg h1]) (by rw[ar (al hdk),if_pos rfl]) hf,by rw[ai];exact W.nd⟩
noncomputable def jI:List IS:=[
 .asgA (.v 0) (Str.ofString "indentwidth") (.v 1),
 .asgA (.v 0) (Str.ofString "tabwidth") (.v 2)]
noncomputable def nD:List IS:=[
 .assert (.or (.cmp .Eq (.call (.g (.bi .len)) [(.v 1)] none) (.c (.int 0))) (.cmp .Eq (.item (.v 1) (.c (.int (-1)))) (.c (.str ⟨#[10]⟩)))),
 .asgA (.v 0) (Str.ofString "code") (.v 1),
 .asgA (.v 0) (Str.ofString "study_level") (.c (.int 0))]
noncomputable def fs0:List (Str×V):=[(Str.ofString "indentwidth",.d (.int 4)),(Str.ofString "tabwidth",.d (.int 8))]
def EndP (c:aa)(K:V→aa→Prop):F→Sg'→Prop:=fun f τ=>∃v' c',vW τ.c c' (ee f) v'∧bY τ.c c' c'∧(∀j∈dom c,j∈dom c')∧K v' c'
theorem EndP.same {c c':aa}{K:V→aa→Prop}{f:F}{l:Sl}(W:Wf c')(hd:∀j∈dom c,j∈dom c'){d:D}(hr:ee f=.d d)(h:K (.d d) c'):EndP c K f ⟨l,c'⟩:=
 ⟨.d d,c',by rw[hr];exact vD _ _ _,W.w,hd,h⟩
theorem tI {k dk n:Nat}{c:aa}(h1:P.attr (Str.ofString "indentwidth")=true) (h2:P.attr (Str.ofString "tabwidth")=true) (W:Wf c) (hk:ae c k=some (.inst P.C dk)) (hdk:ae c dk=some (.ns []))
  {K:V→aa→Prop} (hK:K (.d .none) (cset c dk (.ns fs0))):wpB P (dom c) (n+10) jI ⟨start [.obj k,.d (.int 4),.d (.int 8)] 0,c⟩ (EndP c K):=by
 have kne:k≠dk:=fun e=>by rw[e,hdk] at hk;simp at hk
 have dkd:=al hdk
 unfold jI
 refine cQ (n:=n+8) (.d (.int 4)) (c':=c) (k:=k) (fun K' h=>h) (fun K' h=>h) hk hdk h1 (by decide) ?_
 refine cQ (n:=n+7) (.d (.int 8)) (c':=cset c dk (.ns (put [] (Str.ofString "indentwidth") (.d (.int 4))))) (k:=k) (dk:=dk) (fs:=put [] (Str.ofString "indentwidth") (.d (.int 4))) (fun K' h=>h) (fun K' h=>h)
  (by rw[ar dkd,if_neg kne];exact hk) (by rw[ar dkd,if_pos rfl]) h2 (by decide) ?_
 rw[aV]
 have e:put (put [] (Str.ofString "indentwidth") (V.d (.int 4))) (Str.ofString "tabwidth") (V.d (.int 8))=fs0:=by
  unfold fs0
  dsimp only[put]
  rw[if_neg (by decide +kernel)]
 rw[e]
 exact aA (EndP.same (W.set hdk ⟨rfl,vD _ _ _,rfl,vD _ _ _,trivial⟩) (fun j hj=>by rw[ai];exact hj) rfl hK)
noncomputable def setd (fs:List (Str×V))(x:Str):List (Str×V):=put (put fs cm (.d (.str x))) nSl (.d (.int 0))
theorem vy {k dk n:Nat}{c:aa}{fs:List (Str×V)}{x:Str}(A:AttrOk P)(W:Wf c)(hk:ae c k=some (.inst P.C dk))(hdk:ae c dk=some (.ns fs))(hsz:fs.length≤900)(T:TextOk x)
  {K:V→aa→Prop} (hK:K (.d .none) (cset c dk (.ns (setd fs x)))):wpB P (dom c) (n+20) nD ⟨start [.obj k,.d (.str x)] 0,c⟩ (EndP c K):=by
 have kne:k≠dk:=fun e=>by rw[e,hdk] at hk;simp at hk
 have dkd:=al hdk
 have hxb:x.length≤big:=by have:=T.len;rw[aD] at this;exact Om.o63 this
 unfold nD
 refine b6 (n:=n+18) (c':=c) (fun K' h=>?_) ?_
 ·conv=>whnf
  refine⟨hxb,?_⟩
  conv=>whnf
  refine⟨fun q=>h,fun q=>?_⟩
  have hne:sg x≠[]:=fun e=>by
   have:x.length=0:=by rw[←aD,e];rfl
   have q':((x.length:Int)==0)=false:=q
   rw[this] at q';contradiction
  have hlast:(sg x).getLast?=some 10:=T.ends.resolve_left hne
  have hpos:0<x.length:=by rw[←aD];exact List.length_pos_iff.mpr hne
  conv=>whnf
  refine⟨show -(x.length:Int)≤-1 by exact Om.o100 hpos,show (-1:Int)<x.length by exact Om.o99,hxb,?_⟩
  show K' (Txt.item x (-1)==⟨#[10]⟩) c
  rw[oD hlast]
  exact h
 refine cQ (n:=n+17) (.d (.str x)) (c':=c) (k:=k) (fun K' h=>h) (fun K' h=>h) hk hdk A.co (by exact Om.o91 hsz) ?_
 refine cQ (n:=n+16) (.d (.int 0)) (c':=cset c dk (.ns (put fs cm (.d (.str x))))) (k:=k) (dk:=dk) (fs:=put fs cm (.d (.str x))) (fun K' h=>h) (fun K' h=>h)
  (by rw[ar dkd,if_neg kne];exact hk) (by rw[ar dkd,if_pos rfl]) A.sl (by have:=df fs cm (.d (.str x));exact Om.o90 hsz this) ?_
 rw[aV]
 refine aA (EndP.same (W.set hdk ?_) (fun j hj=>by rw[ai];exact hj) rfl hK)
 exact aq (vD _ _ _) (aq (vD _ _ _) (bu (fun j hj=>by rw[ai];exact hj) (W.fs hdk)))
theorem lq {k dk g b td n:Nat}{c:aa}{fs:List (Str×V)}(A:AttrOk P)(W:Wf c)(hk:ae c k=some (.inst P.C dk))(hdk:ae c dk=some (.ns fs))
  (hlv:look fs nSl=some (.d (.int 1))) {K:V→aa→Prop} (hK:K (.d .none) c):wpB P (dom c) (n+130) (dU td g b) ⟨start [.obj k] 12,c⟩ (EndP c K):=by
 unfold dU
 refine bw (n:=n+128) true (c':=c) (fun K' h=>?_) ?_
 ·rw[eX];exact cI (n:=n+125) rfl hk hdk A.sl hlv rfl _ h
 ·exact⟨.d .none,c,vD _ _ _,W.w,fun _ h=>h,hK⟩
end
noncomputable abbrev nS1:Str:=Str.ofString "_study1"
structure ParAt (C:Addr)(c:aa)(k dk:Nat)(fs:List (Str×V)):Prop where
 w:Wf c
 k_:ae c k=some (.inst C dk)
 d_:ae c dk=some (.ns fs)
 no:look fs nS1=none
structure Fresh (fs:List (Str×V))(x:Str):Prop where
 sl:look fs nSl=some (.d (.int 0))
 co:look fs cm=some (.d (.str x))
 t:TextOk x
 len:fs.length≤900
structure Read (fs:List (Str×V))(s:St):Prop where
 sl:look fs nSl=some (.d (.int 1))
 gl:look fs nGl=some (.d (.lst (aQ (aS s))))
 ct:look fs nCt=some (.d (.int (aR s)))
noncomputable def d7 (C:Addr)(g b:Nat):Spec:=fun vs c K=>∃k dk fs,vs=[.obj k]∧ParAt C c k dk fs∧
 ((look fs nSl=some (.d (.int 1))∧K (.d .none) c)∨∃x,Fresh fs x∧g∉dom c∧b∉dom c∧K (.d .none) (cset c dk (.ns (studied fs x))))
noncomputable def gx (C:Addr):Spec:=fun vs c K=>∃k dk,vs=[.obj k,.d (.int 4),.d (.int 8)]∧Wf c∧ae c k=some (.inst C dk)∧ae c dk=some (.ns [])∧K (.d .none) (cset c dk (.ns fs0))
noncomputable def js (C:Addr):Spec:=fun vs c K=>∃k dk fs x,vs=[.obj k,.d (.str x)]∧ParAt C c k dk fs∧fs.length≤900∧TextOk x∧K (.d .none) (cset c dk (.ns (setd fs x)))
theorem ne1:nSl≠nGl:=by decide +kernel
theorem ne2:nSl≠nCt:=by decide +kernel
theorem ne3:nGl≠nCt:=by decide +kernel
theorem ne4:nS1≠nCt:=by decide +kernel
theorem ne5:nS1≠nGl:=by decide +kernel
theorem ne6:nS1≠nSl:=by decide +kernel
theorem ne7:nS1≠cm:=by decide +kernel
theorem ju (fs:List (Str×V))(x:Str):Read (studied fs x) (fin x):=by
 unfold studied
 exact⟨by rw[ah,if_neg ne2,ah,if_neg ne1,ah,if_pos rfl],by rw[ah,if_neg ne3,ah,if_pos rfl],by rw[ah,if_pos rfl]⟩
theorem mm {fs:List (Str×V)}(x:Str)(h:look fs nS1=none):look (studied fs x) nS1=none:=by
 unfold studied
 rw[ah,if_neg ne4,ah,if_neg ne5,ah,if_neg ne6];exact h
theorem um {fs:List (Str×V)}(x:Str)(h:look fs nS1=none):look (setd fs x) nS1=none:=by
 unfold setd
 rw[ah,if_neg ne6,ah,if_neg ne7];exact h
theorem lV {fs:List (Str×V)}{x:Str}(T:TextOk x)(h:fs.length≤890):Fresh (setd fs x) x:=by
 unfold setd
 refine⟨by rw[ah,if_pos rfl],by rw[ah,if_neg db,ah,if_pos rfl],T,?_⟩
 have h1:=df (put fs cm (.d (.str x))) nSl (.d (.int 0))
 have h2:=df fs cm (.d (.str x))
 exact Om.o101 h h1 h2
section
variable {C:Addr}{c:aa}{k dk:Nat}{fs:List (Str×V)}
theorem ParAt.set (p:ParAt C c k dk fs){fs':List (Str×V)}(hf:fsW (cset c dk (.ns fs')) (cset c dk (.ns fs')) fs' fs')(no:look fs' nS1=none):ParAt C (cset c dk (.ns fs')) k dk fs':=by
 have dkd:=al p.d_
 have kne:k≠dk:=fun e=>by have:=p.k_;rw[e,p.d_] at this;simp at this
 exact⟨p.w.set p.d_ hf,by rw[ar dkd,if_neg kne];exact p.k_,by rw[ar dkd,if_pos rfl],no⟩
theorem ParAt.studied (p:ParAt C c k dk fs)(x:Str):ParAt C (cset c dk (.ns (studied fs x))) k dk (studied fs x):=by
 refine p.set ?_ (mm x p.no)
 unfold Mine.studied
 exact aq (vD _ _ _) (aq (vD _ _ _) (aq (vD _ _ _) (bu (fun j hj=>by rw[ai];exact hj) (p.w.fs p.d_))))
theorem ParAt.setd (p:ParAt C c k dk fs)(x:Str):ParAt C (cset c dk (.ns (setd fs x))) k dk (setd fs x):=by
 refine p.set ?_ (um x p.no)
 unfold Mine.setd
 exact aq (vD _ _ _) (aq (vD _ _ _) (bu (fun j hj=>by rw[ai];exact hj) (p.w.fs p.d_)))
end
section
variable {P:Pm}{pr:List Nat}
theorem eG {n:Nat}{e:IE}{r:List IS}{l:Sl}{c c':aa}{K:F→Sg'→Prop}(v:V)(he:∀K':V→aa→Prop,K' v c'→wpE P n e l c K')(h:wpB P pr (n+1) r ⟨l,c'⟩ K):wpB P pr (n+2) (.expr e::r) ⟨l,c⟩ K:=by
 exact he _ h
theorem gR {n:Nat}{e:IE}{r:List IS}{l:Sl}{c c':aa}{K:F→Sg'→Prop}(v:V)(he:∀K':V→aa→Prop,K' v c'→wpE P n e l c K')(h:K (.ret v) ⟨l,c'⟩):wpB P pr (n+2) (.ret (some e)::r) ⟨l,c⟩ K:=by
 exact he _ h
theorem k0 {c:aa}{k dk:Nat}{fs:List (Str×V)}{K:List (Str×V)→Prop}(hk:ae c k=some (.inst P.C dk))(hdk:ae c dk=some (.ns fs))(h:K fs):gy P c (.obj k) K:=by
 show er (ae c k) _
 rw[hk]
 refine⟨rfl,?_⟩
 rw[hdk]
 exact h
theorem gP {n i:Nat}{f:Addr}{nm:Str}{l:Sl}{c:aa}{k dk:Nat}{fs:List (Str×V)}(hi:aM l i=some (.obj k))(hk:ae c k=some (.inst P.C dk))(hdk:ae c dk=some (.ns fs))(hno:look fs nm=none)(hf:P.isFn f=true)(K':V→aa→Prop)
  (h:P.fn f [.obj k] c (fun v c3=>eT c c3∧K' v c3)):wpE P (n+3) (.umeth (.v i) f nm []) l c K':=by
 rw[iG]
 refine bD (n:=n+1) hi _ ?_
 refine⟨k0 hk hdk hno,?_⟩
 exact⟨hf,h⟩
theorem ma {n i:Nat}{st:Addr}{g b:Nat}{l:Sl}{c:aa}{k dk:Nat}{fs:List (Str×V)}(hi:aM l i=some (.obj k))(p:ParAt P.C c k dk fs)(hf:P.isFn st=true)(hfn:P.fn st=d7 P.C g b)(K':V→aa→Prop)
  (h:(look fs nSl=some (.d (.int 1))∧K' (.d .none) c)∨∃x,Fresh fs x∧g∉dom c∧b∉dom c∧K' (.d .none) (cset c dk (.ns (studied fs x)))):wpE P (n+3) (.umeth (.v i) st nS1 []) l c K':=by
 refine gP hi p.k_ p.d_ p.no hf K' ?_
 rw[hfn]
 refine⟨k,dk,fs,rfl,p,?_⟩
 rcases h with ⟨h1,h2⟩|⟨x,h1,h2,h3,h4⟩
 ·exact .inl ⟨h1,fun _ q=>q,h2⟩
 ·exact .inr ⟨x,h1,h2,h3,fun j q=>by rw[ai];exact q,h4⟩
end
noncomputable def fg (K:Frag)(a:Addr):FuncData:=(fq K a).getD default
theorem eu:∀(names:List (Str×NameKind)) (n:Nat) (acc:List (Str×Addr)) (x:Str),(acc.lookup x).isSome=true→((cellsFrom n names acc).lookup x).isSome=true
 | [],n,acc,x,h=>h
 | (name,kind)::r,n,acc,x,h=>by
  unfold cellsFrom
  split
  ·refine eu r _ _ x ?_
   rw[List.lookup_cons]
   split
   ·rfl
   ·exact h
  ·exact eu r _ _ x h
theorem dP:∀(names:List (Str×NameKind)) (n:Nat) (acc:List (Str×Addr)) (x:Str),(x,NameKind.cell)∈names→((cellsFrom n names acc).lookup x).isSome=true
 | (name,kind)::r,n,acc,x,h=>by
  unfold cellsFrom
  rcases List.mem_cons.mp h with h|h
  ·cases h
   rw[if_pos (by decide)]
   refine eu r _ _ name ?_
   simp
  ·split
   ·exact dP r _ _ x h
   ·exact dP r _ _ x h
noncomputable def vd (K:Frag)(a:Addr)(ps:List Str):Bool:=
 let fd:=fg K a
 (fq K a).isSome&&codeIn K fd.code fd.qualname&&fd.closure.isEmpty&&(match fd.body with | .stmts _=>true|_=>false)&&decide ps.Nodup &&
 (ps.all fun p=>fd.scope.names.lookup p==some .local||fd.scope.names.lookup p==some .cell)&&!fd.scope.isCoroutine&&!fd.scope.isGenerator&&fd.scope.kind==.function&&fd.globals==mainGlobals&&fd.builtins==builtinsNs
theorem dL {K:Frag}{hb:Heap}(X:K.In hb)(lim:hb.NoLimit){a:Addr}{T:Tb}{ib:List IS}{m:Nat}{ps rest:List Str}(chk:vd K a ps=true)
  (hbind:∀ws:List Value,ws.length=ps.length→bindArgs (fg K a) ⟨ws,[]⟩=pure (ps.zip ws)) (hT:T.kinds=eK K a) (hn:T.names=ps++rest) (nd:decide T.names.Nodup=true) (comp:bF m T (be K a)=some ib) :
  FnT hb a T ib ps rest (fg K a) (be K a) m:=by
 unfold vd at chk
 simp only[Bool.and_eq_true] at chk
 obtain⟨⟨⟨⟨⟨⟨⟨⟨⟨⟨c1,c2⟩,c3⟩,c4⟩,c5⟩,c6⟩,c7⟩,c8⟩,c9⟩,c10⟩,c11⟩:=chk
 obtain⟨fd,hfd⟩:=Option.isSome_iff_exists.mp c1
 have e:fg K a=fd:=by unfold fg;rw[hfd];rfl
 have hk:eK K a=fd.scope.names:=by unfold eK;rw[hfd]
 have hb':fd.body=.stmts (be K a):=by
  unfold be;rw[hfd];dsimp only
  rw[e] at c4
  split at c4
  ·rename_i b q;rw[q]
  ·contradiction
 rw[e] at c2 c3 c6 c7 c8 c9 c10 c11 hbind ⊢
 have at_:∃o,hb.get? a=some o∧o.data=.func fd:=by
  unfold fq at hfd
  split at hfd
  ·rename_i o ho
   split at hfd
   ·rename_i fd' hd;cases hfd;exact⟨o,X _ _ ho,hd⟩
   ·contradiction
  ·contradiction
 refine⟨⟨at_,lim,codeRec_of X c2,hb',List.isEmpty_iff.mp c3,hbind,of_decide_eq_true c5,fun p hp=>?_,by simpa using c7,by simpa using c8,beq_iff_eq.mp c9⟩,hT.trans hk,hn,of_decide_eq_true nd,fun p hp hc n=>?_,beq_iff_eq.mp c10,beq_iff_eq.mp c11,comp⟩
 ·have:=List.all_eq_true.mp c6 p hp
  simp only[Bool.or_eq_true] at this
  rcases this with q|q
  ·exact .inl (beq_iff_eq.mp q)
  ·exact .inr ⟨beq_iff_eq.mp q,fun n=>dP _ _ _ _ (mem_of_lookup (beq_iff_eq.mp q))⟩
 ·obtain⟨x,k⟩:=p
  subst hc
  exact dP _ _ _ _ hp
theorem nv {prog:Program}{w:World}{hb:Heap}{mg:Str→Option Value}(hg:hb.Ns mainGlobals mg){x:Str}{g:Value}{v:V}(e:mg x=some g)(iv:∀c α h,IsV c α h v g):dG prog w hb x v:=by
 refine⟨g,iv,fun env A s Q EO h1 h2 hk base hq=>?_⟩
 rw[loadName_read EO.kind hk]
 refine Calls.loadGlobal_global (mg:=mg) ?_ e hq
 rw[h1];exact hg.keeps base
theorem sG {prog:Program}{w:World}{hb:Heap}{mg mb:Str→Option Value}(hg:hb.Ns mainGlobals mg)(hb':hb.Ns builtinsNs mb){x:Str}{g:Value}{v:V}(e:mg x=none)(e2:mb x=some g)(iv:∀c α h,IsV c α h v g):dG prog w hb x v:=by
 refine⟨g,iv,fun env A s Q EO h1 h2 hk base hq=>?_⟩
 rw[loadName_read EO.kind hk]
 refine Calls.loadGlobal_builtin (mg:=mg) (mb:=mb) ?_ e ?_ e2 hq
 ·rw[h1];exact hg.keeps base
 ·rw[h2];exact hb'.keeps base
theorem mg_of {K:Frag}{hb:Heap}(X:K.In hb){mg:Str→Option Value}(hg:hb.Ns mainGlobals mg)(hk:(K.lookup mainGlobals).isSome=true)(x:Str):mg x=nsFind (nsOf K mainGlobals) x:=by
 obtain⟨o,ho⟩:=Option.isSome_iff_exists.mp hk
 obtain⟨o',es,ep,h1,h2,h3,h4⟩:=hg
 rw[X _ _ ho] at h1;(injection h1 with h1;subst h1)
 unfold nsOf
 rw[ho];dsimp only
 rw[h2]
 exact (h4 x).symm
end Mine
end
section
namespace Mine
open PySem PyProof.Rows PySem.W PySem.StrLaws PySem.Builtin.Str
theorem jp (x:Str){hi i:Nat}(hh:hi≤x.length):StrLaws.At x ⟨#[10]⟩ hi i↔(sg x)[i]?=some 10∧i<hi:=by
 have h:=subAt_one x 10 i
 constructor
 ·rintro⟨h1,h2⟩
  have h1':i+1≤hi:=h1
  exact⟨h.mp ⟨Nat.le_trans h1 hh,h2⟩,by exact Om.o74 h1'⟩
 ·rintro⟨h1,h2⟩
  exact⟨(show i+1≤hi by exact Om.o82 h2),(h.mpr h1).2⟩
theorem q5 {x:Str}{hi:Nat}(hh:hi≤x.length):(cP x ⟨#[10]⟩ 0 hi=-1∧∀i,i<hi→(sg x)[i]?≠some 10)∨∃i:Nat,cP x ⟨#[10]⟩ 0 hi=(i:Int)∧i<hi∧(sg x)[i]?=some 10∧∀k,i<k→k<hi→(sg x)[k]?≠some 10:=by
 unfold cP
 rw[last_eq]
 have key:=last_run x ⟨#[10]⟩ hi (List.range' 0 (hi+1-0)) [] none (fun _ h=>nomatch h) (fun _ h=>nomatch h) (by simpa using List.pairwise_lt_range' (s:=0) (n:=hi+1-0))
 have mem:∀i,i<hi→i∈[]++List.range' 0 (hi+1-0):=fun i h=>by simp[List.mem_range'];exact Om.o141 h
 cases hr:(forIn (List.range' 0 (hi+1-0)) none (lastBody x ⟨#[10]⟩ hi)).run with
 |none=>simp only[hr] at key;exact .inl ⟨rfl,fun i h q=>key i (mem i h) ((jp x hh).mpr ⟨q,h⟩)⟩
 |some a=>
  simp only[hr] at key
  obtain⟨h1,h2⟩:=(jp x hh).mp key.1
  exact .inr ⟨a,rfl,h2,h1,fun k hk h q=>key.2 k (mem k h) hk ((jp x hh).mpr ⟨q,h⟩)⟩
theorem l9 {x:Str}{i hi:Nat}(hh:hi≤x.length)(h:∃j:Nat,i≤j∧j<hi∧(sg x)[j]?=some 10):∃j:Nat,ey x ⟨#[10]⟩ i hi=(j:Int)∧i≤j∧j<hi∧(sg x)[j]?=some 10∧∀m:Nat,i≤m→m<j→(sg x)[m]?≠some 10:=by
 unfold ey
 rw[occ_eq,fU x ⟨#[10]⟩ hi _ i (fun m hm=>by have:=List.mem_range'_1.mp hm;exact Om.o33 this)]
 have iff1:∀m,(decide (m+(⟨#[10]⟩:Str).length≤hi)&&subAt x ⟨#[10]⟩ m)=true↔(sg x)[m]?=some 10∧m<hi:=fun m=>by
  simp only[Bool.and_eq_true,decide_eq_true_eq];exact jp x hh
 cases hf:(List.range' i (hi+1-i)).find? (fun i=>decide (i+(⟨#[10]⟩:Str).length≤hi)&&subAt x ⟨#[10]⟩ i) with
 |none=>
  refine ay fun G9 back9=>?_;obtain⟨j,hj,hl,hc⟩:=h;refine back9 ?_
  exact absurd ((iff1 j).mpr ⟨hc,hl⟩) (List.find?_eq_none.mp hf j (List.mem_range'_1.mpr (by exact Om.o32 hj hl)))
 |some j=>
  obtain⟨hp,as,bs,hl,hall⟩:=List.find?_eq_some_iff_append.mp hf
  obtain⟨h1,h2⟩:=(iff1 j).mp hp
  have hmem:j∈List.range' i (hi+1-i):=by rw[hl];simp
  have hij:=(List.mem_range'_1.mp hmem).1
  refine⟨j,rfl,hij,h2,h1,fun m hm hlt q=>?_⟩
  have hm':m∈List.range' i (hi+1-i):=List.mem_range'_1.mpr (by exact Om.o140 h2 hm hlt)
  rw[hl] at hm'
  have pw:(as++j::bs).Pairwise (·<·):=by rw[←hl];exact List.pairwise_lt_range'
  rcases List.mem_append.mp hm' with hm'|hm'
  ·have:=hall m hm'
   rw[(iff1 m).mpr ⟨q,by exact Om.o123 h2 hlt⟩] at this
   contradiction
  ·rcases List.mem_cons.mp hm' with rfl|hm'
   ·exact Om.o30 hlt
   ·have:=(List.pairwise_cons.mp (List.pairwise_append.mp pw).2.1).1 m hm'
    exact Om.o29 hlt this
noncomputable def am:List Nat→Nat→Nat
 |_,0=>0
 | [],_+1=>0
 |c::l,n+1=>if c=10 then 1+am l n else 1+am l (n+1)
noncomputable def nls:List Nat→Nat
 | []=>0
 |c::l=>(if c=10 then 1 else 0)+nls l
theorem ca (l:List Nat):am l 0=0:=by cases l<;>rfl
theorem fH:∀(l:List Nat) (n:Nat),n<nls l→am l n<am l (n+1)∧l[am l (n+1)-1]?=some 10∧∀k,am l n≤k→k<am l (n+1)-1→l[k]?≠some 10
 | [],n,h=>absurd h (Nat.not_lt_zero _)
 |c::l,n,h=>by
  unfold nls at h
  by_cases hc:c=10
  ·subst hc
   rw[if_pos rfl] at h
   cases n with
   |zero=>
    have e:am (10::l) 1=1:=by unfold am;rw[if_pos rfl];cases l<;>rfl
    rw[show (0:Nat)+1=1 from rfl,e]
    rw[ca]
    exact⟨by exact Om.o139,rfl,fun k _ hk=>by exact (Om.o138 hk).elim⟩
   |succ n=>
    obtain⟨h1,h2,h3⟩:=fH l n (by exact Om.o137 h)
    have e1:am (10::l) (n+1)=1+am l n:=by rw[am,if_pos rfl]
    have e2:am (10::l) (n+1+1)=1+am l (n+1):=by rw[am,if_pos rfl]
    rw[e1,e2]
    refine⟨by exact Om.o132 h1,?_,fun k hk hlt=>?_⟩
    ·simp only[show 1+am l (n+1)-1=(am l (n+1)-1)+1 by exact Om.o136 h1,List.getElem?_cons_succ];exact h2
    ·rw[show k=(k-1)+1 by exact Om.o130 hk,List.getElem?_cons_succ];exact h3 (k-1) (by exact Om.o129 hk) (by exact Om.o128 hk hlt)
  ·rw[if_neg hc,Nat.zero_add] at h
   obtain⟨h1,h2,h3⟩:=fH l n h
   have e2:am (c::l) (n+1)=1+am l (n+1):=by rw[am,if_neg hc]
   have ep:0<am l (n+1):=by exact Om.o135 h1
   rw[e2]
   cases n with
   |zero=>
    rw[ca]
    rw[ca] at h3
    refine⟨by exact Om.o134,?_,fun k hk hlt=>?_⟩
    ·simp only[show 1+am l (0+1)-1=(am l (0+1)-1)+1 by exact Om.o131 ep,List.getElem?_cons_succ];exact h2
    ·cases k with
     |zero=>simp[hc]
     |succ k=>simp only[List.getElem?_cons_succ];exact h3 k (Nat.zero_le _) (by exact Om.o133 hlt)
   |succ n=>
    have e1:am (c::l) (n+1)=1+am l (n+1):=by rw[am,if_neg hc]
    rw[e1]
    refine⟨by exact Om.o132 h1,?_,fun k hk hlt=>?_⟩
    ·simp only[show 1+am l (n+1+1)-1=(am l (n+1+1)-1)+1 by exact Om.o131 ep,List.getElem?_cons_succ];exact h2
    ·rw[show k=(k-1)+1 by exact Om.o130 hk,List.getElem?_cons_succ];exact h3 (k-1) (by exact Om.o129 hk) (by exact Om.o128 hk hlt)
theorem mN:∀(l:List Nat),(l=[]∨l.getLast?=some 10)→am l (nls l)=l.length
 | [],_=>rfl
 | [c],h=>by
  have:c=10:=by simpa using h
  subst this;rfl
 |c::d::l,h=>by
  have h':(d::l).getLast?=some 10:=by simpa [List.getLast?_cons_cons] using h
  have ih:=mN (d::l) (.inr h')
  have hp:0<nls (d::l):=by
   cases hn:nls (d::l) with
   |zero=>rw[hn] at ih;contradiction
   |succ n=>exact Om.o127
  unfold nls
  by_cases hc:c=10
  ·rw[if_pos hc,Nat.add_comm 1,am,if_pos hc,ih];dsimp only[List.length_cons];exact Om.o126
  ·rw[if_neg hc,Nat.zero_add]
   obtain⟨m,hm⟩:∃m,nls (d::l)=m+1:=⟨_,(Nat.succ_pred_eq_of_pos hp).symm⟩
   rw[hm] at ih ⊢
   rw[am,if_neg hc,ih];dsimp only[List.length_cons];exact Om.o126
theorem e7 (l:List Nat){m n:Nat}(h:m<n)(hn:n≤nls l):am l m<am l n:=by
 induction n with
 |zero=>exact (Om.o125 h).elim
 |succ n ih=>
  have:=(fH l n (by exact Om.o74 hn)).1
  by_cases q:m=n
  ·subst q;exact this
  ·have:=ih (by exact Om.o124 h q) (by exact Om.o73 hn);exact Om.o123 ‹_› this
theorem iB (l:List Nat):∀n,n≤nls l→am l n≤l.length
 |0,_=>by rw[ca];exact Nat.zero_le _
 |n+1,h=>by
  obtain⟨h1,h2,_⟩:=fH l n h
  have:=aZ h2
  exact Om.o122 this
theorem ya {x:Str}{m:Nat}(h:m<nls (sg x)):cP x ⟨#[10]⟩ 0 (am (sg x) (m+1)-1)+1=(am (sg x) m:Nat):=by
 obtain⟨h1,h2,h3⟩:=fH (sg x) m h
 have hle:=iB (sg x) (m+1) h
 have hl:=aD x
 rcases q5 (x:=x) (hi:=am (sg x) (m+1)-1) (by exact Om.o121 hle) with ⟨e,hn⟩|⟨i,e,hi,hc,hn⟩
 ·rw[e]
  cases m with
  |zero=>rw[ca];rfl
  |succ m=>
   obtain⟨g1,g2,_⟩:=fH (sg x) m (by exact Om.o120 h)
   exact absurd g2 (hn _ (by exact Om.o119 h1 g1))
 ·rw[e]
  cases m with
  |zero=>exact absurd hc (h3 i (by rw[ca];exact Nat.zero_le _) hi)
  |succ m=>
   obtain⟨g1,g2,g3⟩:=fH (sg x) m (by exact Om.o120 h)
   have hnot:¬am (sg x) (m+1)≤i:=fun q=>h3 i q hi hc
   have hnot2:¬i<am (sg x) (m+1)-1:=fun q=>hn _ q (by exact Om.o119 h1 g1) g2
   exact Om.o118 hnot hnot2
theorem nB (s:St)(c:Nat):(step s c).ln=s.ln+if c=10 then 1 else 0:=by
 obtain⟨md,lv,ln,gd⟩:=s
 unfold step
 by_cases hc:c=10
 ·subst hc
  simp only[if_pos rfl]
  cases md with
  |Q1 d f=>cases d<;>rfl
  |Q2 d f=>cases d<;>rfl
  |S1 d f=>cases d<;>rfl
  |S1e d f=>cases d<;>rfl
  |S3 d k f=>cases d<;>rfl
  |S3e d f=>cases d<;>rfl
  |_=>rfl
 ·have hN:∀s:St,(aY s c).ln=s.ln:=fun s=>by
   unfold aY
   rw[if_neg hc]
   repeat (first | (split<;>try rfl))
  have hS:∀(s:St) d f,(bb s d f c).ln=s.ln:=fun s d f=>by
   unfold bb
   split
   ·rfl
   ·split<;>rfl
  have e:(if c=10 then 1 else 0:Nat)=0:=if_neg hc
  rw[e,Nat.add_zero]
  cases md with
  |N=>exact hN _
  |Nb=>exact hN _
  |E=>dsimp only;rw[if_neg hc];rfl
  |C=>dsimp only;rw[if_neg hc];rfl
  |Q1 d f=>dsimp only;split<;>first|rfl|exact hS _ _ _
  |Q2 d f=>dsimp only;split<;>first|rfl|exact hN _
  |S1 d f=>exact hS _ _ _
  |S1e d f=>dsimp only;rw[if_neg hc];rfl
  |S3 d k f=>
   dsimp only
   split
   ·split<;>rfl
   ·first | (split<;>rfl) | (rw[if_neg hc];split<;>rfl)
  |S3e d f=>dsimp only;rw[if_neg hc];rfl
theorem ji:∀(l:List Nat) (s:St),(scan s l).ln=s.ln+nls l
 | [],s=>rfl
 |c::l,s=>by simp only[bh,ji l,nB,nls];exact Om.o117
theorem kh (s:St)(c:Nat):(step s c).gd=s.gd∨((step s c).gd=s.gd++[s.ln+1]∧(step s c).ln=s.ln+1):=by
 obtain⟨md,lv,ln,gd⟩:=s
 have hnl:∀s:St,(nl s).gd=s.gd∨((nl s).gd=s.gd++[s.ln+1]∧(nl s).ln=s.ln+1):=fun s=>by
  unfold nl
  by_cases h:s.lv=0
  ·exact .inr ⟨if_pos h,rfl⟩
  ·exact .inl (if_neg h)
 have hN:∀s:St,(aY s c).gd=s.gd∨((aY s c).gd=s.gd++[s.ln+1]∧(aY s c).ln=s.ln+1):=fun s=>by
  unfold aY
  by_cases h:c=10
  ·rw[if_pos h];exact hnl s
  ·rw[if_neg h];left;repeat (first | (split<;>try rfl))
 have hS:∀(s:St) d f,(bb s d f c).gd=s.gd∨((bb s d f c).gd=s.gd++[s.ln+1]∧(bb s d f c).ln=s.ln+1):=fun s d f=>by
  unfold bb
  split
  ·exact .inl rfl
  ·split
   ·exact hnl s
   ·left;split<;>rfl
 unfold step
 cases md with
 |N=>exact hN _
 |Nb=>exact hN _
 |E=>dsimp only;left;split<;>rfl
 |C=>dsimp only;split<;>first|exact hnl _|exact .inl rfl
 |Q1 d f=>dsimp only;split<;>first|exact .inl rfl|exact hS _ _ _
 |Q2 d f=>dsimp only;split<;>first|exact .inl rfl|exact hN _
 |S1 d f=>exact hS _ _ _
 |S1e d f=>dsimp only;left;split<;>rfl
 |S3 d k f=>dsimp only;left;split<;>(split<;>first|rfl | (split<;>rfl))
 |S3e d f=>dsimp only;left;split<;>rfl
structure GdOk (s:St):Prop where
 up:s.gd.Pairwise (·<·)
 le:∀m∈s.gd,m≤s.ln
 hd:s.gd.head?=some 0
theorem GdOk.step {s:St}(h:GdOk s)(c:Nat):GdOk (step s c):=by
 have hl:=nB s c
 rcases kh s c with e|⟨e,e2⟩
 ·exact⟨by rw[e];exact h.up,fun m hm=>by rw[e] at hm;have:=h.le m hm;exact Om.o116 hl this,by rw[e];exact h.hd⟩
 ·refine⟨?_,fun m hm=>?_,?_⟩
  ·rw[e,List.pairwise_append]
   exact⟨h.up,List.pairwise_singleton _ _,fun a ha b hb=>by
                                  have:=h.le a ha;have:b=s.ln+1:=by simpa using hb
                                  exact Om.o115 ‹_› this⟩
  ·rw[e] at hm
   rcases List.mem_append.mp hm with hm|hm
   ·have:=h.le m hm;exact Om.o114 e2 this
   ·have:m=s.ln+1:=by simpa using hm
    exact Om.o113 e2 this
  ·simp only[e,List.head?_append,h.hd];rfl
theorem GdOk.scan:∀(l:List Nat) {s:St},GdOk s→GdOk (scan s l)
 | [],s,h=>h
 |c::l,s,h=>by simp only[bh];exact GdOk.scan l (h.step c)
theorem gd0:GdOk st0:=by
 refine⟨List.pairwise_singleton _ _,fun m hm=>?_,rfl⟩
 have:m=0:=by simpa [st0] using hm
 exact Om.o112 this
theorem mn:∀l:List Nat,nls (l.map tr)=nls l
 | []=>rfl
 |c::l=>by
  show (if tr c=10 then 1 else 0)+nls (l.map tr)=_
  simp only[mn l,nls]
  congr 1
  by_cases h:c=10
  ·subst h;rfl
  ·rw[if_neg h,if_neg]
   unfold tr
   split
   ·exact Om.o111
   ·split
    ·exact Om.o110
    ·split
     ·exact Om.o109 h
     ·exact Om.o108
structure GoodOk (x:Str)(gl:List Nat):Prop where
 up:gl.Pairwise (·<·)
 hd:gl.head?=some 0
 last:gl.getLast?=some (nls (sg x))
theorem mV (x:Str):GoodOk x (aS (fin x)):=by
 have G:GdOk (fin x):=GdOk.scan _ gd0
 have e:(fin x).ln=nls (sg x):=by unfold fin;rw[ji,mn];show 0+_=_;exact Om.o107
 unfold aS
 split
 ·rename_i h;exact⟨G.up,G.hd,by rw[h,e]⟩
 ·rename_i h
  refine⟨?_,by rw[List.head?_append,G.hd];rfl,by rw[List.getLast?_append,e];rfl⟩
  rw[List.pairwise_append]
  refine⟨G.up,List.pairwise_singleton _ _,fun a ha b hb=>?_⟩
  have hb:b=(fin x).ln:=by simpa using hb
  subst hb
  refine Nat.lt_of_le_of_ne (G.le a ha) fun q=>h ?_
  obtain⟨i,hi,hg⟩:=List.getElem_of_mem ha
  rw[List.getLast?_eq_getElem?]
  by_cases hl:i=(fin x).gd.length-1
  ·simp only[←hl,List.getElem?_eq_getElem hi,hg,q]
  ·have:=List.pairwise_iff_getElem.mp G.up i ((fin x).gd.length-1) hi (by exact Om.o105 hi) (by exact Om.o106 hi hl)
   have h2:=G.le ((fin x).gd[(fin x).gd.length-1]'(by exact Om.o105 hi)) (List.getElem_mem _)
   simp only[hg] at this;exact (Om.o104 q this h2).elim
theorem GoodOk.at_ {x:Str}{gl:List Nat}(G:GoodOk x gl){i a b:Nat}(ha:gl[i]?=some a)(hb:gl[i+1]?=some b):a<b∧b≤nls (sg x):=by
 obtain⟨h1,e1⟩:=List.getElem?_eq_some_iff.mp ha
 obtain⟨h2,e2⟩:=List.getElem?_eq_some_iff.mp hb
 refine⟨e1▸e2▸List.pairwise_iff_getElem.mp G.up i (i+1) h1 h2 (by exact Om.o43),?_⟩
 have hl:=G.last
 rw[List.getLast?_eq_getElem?] at hl
 obtain⟨h3,e3⟩:=List.getElem?_eq_some_iff.mp hl
 by_cases q:i+1=gl.length-1
 ·have:b=nls (sg x):=by
   rw[←q] at hl
   rw[hl] at hb;(injection hb with hb;subst hb);rfl
  exact Om.o14 this
 ·have:=List.pairwise_iff_getElem.mp G.up (i+1) (gl.length-1) h2 h3 (by exact Om.o103 h2 q)
  exact Om.o102 e2 e3 this
end Mine
end
section
namespace Mine
namespace Re
open PySem PySem.Sre
structure Z where
 code:Array Nat
 text:Array Nat
 lim:Nat
 start:Nat
structure Fr where
 wait:Wait
 pc:Nat
 pos:Nat
 om:Bool
 count:Int:=0
 whole:Bool:=false
 loop:Nat:=0
 began:Option Nat:=none
noncomputable def Fr.f (x:Fr):Sre.Frame:={wait:=x.wait,pc:=x.pc,pos:=x.pos,outermost:=x.om,count:=x.count,kept:={whole:=x.whole},loop:=x.loop,began:=x.began}
structure A where
 pc:Nat
 pos:Nat
 handed:Nat
 om:Bool
 loops:Array Loop
 inner:Option Nat
 frames:List Fr
 answer:Option Bool
noncomputable def mk (z:Z)(a:A)(se:Seen):M:=
 {code:=z.code,text:=z.text,lim:=z.lim,start:=z.start,pc:=a.pc,pos:=a.pos,handed:=a.handed,outermost:=a.om,marks:=#[],loops:=a.loops,inner:=a.inner,
  frames:=a.frames.map Fr.f,weight:=a.frames.length,answer:=a.answer,seen:=se}
noncomputable def it:Nat→M→M
 |0,m=>m
 |n+1,m=>it n m.step
def End (z:Z)(r:Option Nat)(m:M):Prop:=
 m.start=z.start∧m.lastindex=-1∧match r with
 |some e=>m.outcome=some .matched∧m.handed=e
 |none=>m.outcome=some .failed
def Ends (z:Z)(r:Option Nat)(N:Nat)(a:A):Prop:=∀se,∃n,n≤N∧End z r (it n (mk z a se))
theorem bn {z:Z}{r:Option Nat}{N:Nat}{a a':A}(h:∀se,∃se',(mk z a se).step=mk z a' se')(k:Ends z r N a'):Ends z r (N+1) a:=by
 intro se
 obtain⟨se',e⟩:=h se
 obtain⟨n,hn,q⟩:=k se'
 exact⟨n+1,by exact Om.o11 hn,by show End z r (it n (mk z a se).step);rw[e];exact q⟩
theorem Ends.mono {z:Z}{r:Option Nat}{N N':Nat}{a:A}(h:Ends z r N a)(l:N≤N'):Ends z r N' a:=by
 intro se
 obtain⟨n,hn,q⟩:=h se
 exact⟨n,by exact Om.o98 l hn,q⟩
section
variable {z:Z}{r:Option Nat}{N pc pos handed:Nat}{om:Bool}{loops:Array Loop}{inner:Option Nat}{fs:List Fr}
theorem uC:Ends z (some handed) 1 ⟨pc,pos,handed,om,loops,inner,[],some true⟩:=fun se=>⟨1,by exact Om.o142,rfl,rfl,rfl,rfl⟩
theorem fin_no:Ends z none 1 ⟨pc,pos,handed,om,loops,inner,[],some false⟩:=fun se=>⟨1,by exact Om.o142,rfl,rfl,rfl⟩
noncomputable def Fr.passes (f:Fr):Bool:=match f.wait with
 | .nextBranch | .giveBack | .closeLoop | .maxMore | .maxTail=>true
 |_=>false
theorem cO:∀{fs:List Fr} (hp:∀f∈fs,f.passes=true) {pc pos:Nat} {om:Bool} {loops:Array Loop} {inner:Option Nat},Ends z (some handed) (fs.length+1) ⟨pc,pos,handed,om,loops,inner,fs,some true⟩
 | [],_,_,_,_,_,_=>uC
 |f::fs,hp,pc,pos,om,loops,inner=>by
  obtain⟨wait,fpc,fpos,fom,count,whole,loop,began⟩:=f
  have ih:=fun {pc pos om loops inner}=>cO (fs:=fs) (fun f hf=>hp f (.tail _ hf)) (pc:=pc) (pos:=pos) (om:=om) (loops:=loops) (inner:=inner)
  have h0:=hp _ (.head _)
  cases wait with
  |nextBranch=>exact bn (a':=⟨fpc,fpos,handed,fom,loops,inner,fs,some true⟩) (fun se=>⟨se,rfl⟩) ih
  |giveBack=>exact bn (a':=⟨fpc,fpos,handed,fom,loops,inner,fs,some true⟩) (fun se=>⟨se,rfl⟩) ih
  |closeLoop=>exact bn (a':=⟨fpc,fpos,handed,fom,loops.pop,(loops.getD loop {pc:=0,outer:=none}).outer,fs,some true⟩) (fun se=>⟨se,rfl⟩) ih
  |maxMore=>exact bn (a':=⟨fpc,fpos,handed,fom,loops.modify loop fun l=>{l with began:=began},inner,fs,some true⟩) (fun se=>⟨se,rfl⟩) ih
  |maxTail=>exact bn (a':=⟨fpc,fpos,handed,fom,loops,some loop,fs,some true⟩) (fun se=>⟨se,rfl⟩) ih
  |_=>exact Bool.noConfusion h0
theorem bQ {a:A}{se:Seen}(ha:a.answer=none)(hc:a.pc<z.code.size):(mk z a se).step=(mk z a se).exec:=by
 obtain⟨pc,pos,handed,om,loops,inner,fs,ans⟩:=a
 (subst ha)
 show (if pc<z.code.size then (mk z ⟨pc,pos,handed,om,loops,inner,fs,none⟩ se).exec else _)=_
 rw[if_pos hc]
noncomputable def okB:Except String (Bool×Seen)→Option Bool
 | .ok p=>some p.1
 | .error _=>none
theorem vz {x:Except String (Bool×Seen)}{b:Bool}(h:okB x=some b):∃se,x=.ok (b,se):=by
 cases x with
 |error e=>contradiction
 |ok p=>obtain⟨c,se⟩:=p;(injection h with h;subst h);exact⟨se,rfl⟩
theorem gC (code:Array Nat)(c:Nat):∀(fuel i:Nat) (yes:Bool) (se se':Seen),okB (inSet code c fuel i yes se)=okB (inSet code c fuel i yes se')
 |0,_,_,_,_=>rfl
 |fuel+1,i,yes,se,se'=>by
  have ih:=gC code c fuel
  unfold inSet
  dsimp only
  cases ops[code.getD (i+0) 0]? with
  |none=>rfl
  |some op=>
   cases op with
   |NEGATE=>exact ih _ _ _ _
   |LITERAL=>dsimp only;by_cases q:(c==code.getD (i+1) 0)=true<;>simp only[q,if_true,Bool.false_eq_true,if_false]<;>first|rfl|exact ih _ _ _ _
   |RANGE=>dsimp only;split<;>first|rfl|exact ih _ _ _ _
   |RANGE_UNI_IGNORE=>dsimp only;split<;>first|rfl|exact ih _ _ _ _
   |CHARSET=>dsimp only;split<;>first|rfl|exact ih _ _ _ _
   |BIGCHARSET=>dsimp only;split<;>first|rfl|exact ih _ _ _ _
   |CATEGORY=>
    dsimp only
    cases category (code.getD (i+1) 0) c with
    |error e=>rfl
    |ok b=>cases b<;>first|rfl|exact ih _ _ _ _
   |_=>rfl
end
end Re
end Mine
end
section
namespace Mine
namespace Re
open PySem PySem.Sre
section
variable {z:Z}{r:Option Nat}{N pc pos handed:Nat}{om:Bool}{loops:Array Loop}{inner:Option Nat}{fs:List Fr}
noncomputable def acc (code:Array Nat)(pc c:Nat):Option Bool:=okB (accepts code pc c {})
theorem mu {code:Array Nat}{pc c:Nat}{b:Bool}(h:acc code pc c=some b)(se:Seen):∃se',accepts code pc c se=.ok (b,se'):=by
 refine vz (h▸?_)
 unfold acc accepts
 dsimp only
 cases ops[code.getD pc 0]? with
 |none=>rfl
 |some op=>cases op<;>first|rfl|exact gC ..
noncomputable def nr:Op→Bool
 | .ANY | .ANY_ALL | .LITERAL | .IN=>true
 |_=>false
theorem bN {a:A}{se:Seen}{op:Op}(h:ops[z.code.getD a.pc 0]?=some op):ops[(mk z a se).word 0]?=some op:=h
theorem iY {op:Op}(ho:ops[z.code.getD pc 0]?=some op)(h1:nr op=true)(hc:pc<z.code.size)(hl:pos<z.lim)(ha:acc z.code pc (z.text.getD pos 0)=some true)
  (k:Ends z r N ⟨pc+itemWidth z.code pc,pos+1,handed,om,loops,inner,fs,none⟩):Ends z r (N+1) ⟨pc,pos,handed,om,loops,inner,fs,none⟩:=by
 refine bn (fun se=>?_) k
 rw[bQ rfl hc]
 unfold M.exec
 rw[bN ho]
 obtain⟨se',e⟩:=mu ha (se.add (z.code.getD pc 0))
 refine⟨se',?_⟩
 cases op<;>first
  |exact Bool.noConfusion h1
  | (show (if pos ≥ z.lim then _ else match accepts z.code pc (z.text.getD pos 0) (se.add (z.code.getD pc 0)) with | .error why=>_ | .ok (false,seen)=>_ | .ok (true,seen)=>_)=_;rw[if_neg (by exact Om.o145 hl),e];rfl)
theorem mi {op:Op}(ho:ops[z.code.getD pc 0]?=some op)(h1:nr op=true)(hc:pc<z.code.size)(ha:pos<z.lim→acc z.code pc (z.text.getD pos 0)=some false)
  (k:Ends z r N ⟨pc,pos,handed,om,loops,inner,fs,some false⟩):Ends z r (N+1) ⟨pc,pos,handed,om,loops,inner,fs,none⟩:=by
 refine bn (fun se=>?_) k
 rw[bQ rfl hc]
 unfold M.exec
 rw[bN ho]
 by_cases hl:pos<z.lim
 ·obtain⟨se',e⟩:=mu (ha hl) (se.add (z.code.getD pc 0))
  refine⟨se',?_⟩
  cases op<;>first
   |exact Bool.noConfusion h1
   | (show (if pos ≥ z.lim then _ else match accepts z.code pc (z.text.getD pos 0) (se.add (z.code.getD pc 0)) with | .error why=>_ | .ok (false,seen)=>_ | .ok (true,seen)=>_)=_;rw[if_neg (by exact Om.o145 hl),e];rfl)
 ·refine⟨se.add (z.code.getD pc 0),?_⟩
  cases op<;>first
   |exact Bool.noConfusion h1
   | (show (if pos ≥ z.lim then _ else match accepts z.code pc (z.text.getD pos 0) (se.add (z.code.getD pc 0)) with | .error why=>_ | .ok (false,seen)=>_ | .ok (true,seen)=>_)=_;rw[if_pos (by exact Om.o144 hl)];rfl)
theorem cS (ho:ops[z.code.getD pc 0]?=some .SUCCESS)(hc:pc<z.code.size)(k:Ends z r N ⟨pc,pos,pos,om,loops,inner,fs,some true⟩):Ends z r (N+1) ⟨pc,pos,handed,om,loops,inner,fs,none⟩:=by
 refine bn (fun se=>⟨se.add (z.code.getD pc 0),?_⟩) k
 rw[bQ rfl hc]
 unfold M.exec
 rw[bN ho]
 cases om<;>rfl
theorem ox (ho:ops[z.code.getD pc 0]?=some .JUMP)(hc:pc<z.code.size)(k:Ends z r N ⟨pc+1+z.code.getD (pc+1) 0,pos,handed,om,loops,inner,fs,none⟩):Ends z r (N+1) ⟨pc,pos,handed,om,loops,inner,fs,none⟩:=by
 refine bn (fun se=>⟨se.add (z.code.getD pc 0),?_⟩) k
 rw[bQ rfl hc]
 unfold M.exec
 rw[bN ho]
 rfl
def room (fs:List Fr):Prop:=fs.length<16777216
theorem bo {a:A}{se:Seen}{x:Fr}{t p:Nat}{om:Bool}(hr:room a.frames):(mk z a se).attempt x.f t p om=mk z ⟨t,p,p,om,a.loops,a.inner,x::a.frames,a.answer⟩ se:=by
 unfold M.attempt
 have:¬(mk z a se).weight+1+x.f.kept.marks.size > 16777216:=by
  unfold room at hr;exact Om.o143 hr
 rw[if_neg this];rfl
theorem jl (ho:ops[z.code.getD pc 0]?=some .BRANCH)(hc:pc<z.code.size)(hr:room fs)(h0:(z.code.getD (pc+1) 0==0)=false)
  (k:Ends z r N ⟨pc+1+1,pos,pos,om,loops,inner,{wait:=.nextBranch,pc:=pc+1,pos,om,whole:=inner.isSome}::fs,none⟩):Ends z r (N+1) ⟨pc,pos,handed,om,loops,inner,fs,none⟩:=by
 refine bn (fun se=>⟨se.add (z.code.getD pc 0),?_⟩) k
 rw[bQ rfl hc]
 unfold M.exec
 rw[bN ho]
 show (if (z.code.getD (pc+1) 0==0)=true then _ else _)=_
 rw[if_neg (by rw[h0];exact Bool.false_ne_true)]
 cases inner<;>exact bo (a:=⟨pc,pos,handed,om,loops,_,fs,none⟩) (x:={wait:=.nextBranch,pc:=pc+1,pos,om,whole:=_}) hr
end
end Re
end Mine
end
section
namespace Mine
namespace Re
open PySem PySem.Sre
def At (z:Z)(pos:Nat)(w:List Nat):Prop:=pos+w.length=z.lim∧∀i c,w[i]?=some c→z.text.getD (pos+i) 0=c
theorem At.lt {z:Z}{pos c:Nat}{w:List Nat}(h:At z pos (c::w)):pos<z.lim:=by have:=h.1;simp only[List.length_cons] at this;exact Om.o156 this
theorem At.sign {z:Z}{pos c:Nat}{w:List Nat}(h:At z pos (c::w)):z.text.getD pos 0=c:=h.2 0 c rfl
theorem At.next {z:Z}{pos c:Nat}{w:List Nat}(h:At z pos (c::w)):At z (pos+1) w:=
 ⟨by have:=h.1;simp only[List.length_cons] at this;exact Om.o155 this,fun i d e=>by have:=h.2 (i+1) d e;rw[show pos+1+i=pos+(i+1) by exact Om.o23];exact this⟩
theorem At.drop {z:Z}:∀{n pos:Nat} {w:List Nat},At z pos w→n≤w.length→At z (pos+n) (w.drop n)
 |0,_,_,h,_=>h
 |n+1,pos,[],h,l=>absurd l (by simp)
 |n+1,pos,c::w,h,l=>by
  have:=h.next.drop (n:=n) (by simpa using l)
  simp only[show pos+(n+1)=pos+1+n by exact Om.o154];exact this
theorem At.nil {z:Z}{pos:Nat}(h:At z pos []):pos=z.lim:=by have:=h.1;simpa using this
section
variable {z:Z}{r:Option Nat}{N pc pos handed:Nat}{om:Bool}{loops:Array Loop}{inner:Option Nat}{fs:List Fr}
noncomputable abbrev dfl:Loop:={pc:=0,outer:=none}
theorem dz {alt p pc0 pos0:Nat}{om0 wh:Bool}(hr:room fs)(h0:(z.code.getD (alt+z.code.getD alt 0) 0==0)=false)
  (k:Ends z r N ⟨alt+z.code.getD alt 0+1,p,p,om,loops,inner,{wait:=.nextBranch,pc:=alt+z.code.getD alt 0,pos:=p,om,whole:=wh}::fs,none⟩) :
  Ends z r (N+1) ⟨pc0,pos0,handed,om0,loops,inner,{wait:=.nextBranch,pc:=alt,pos:=p,om,whole:=wh}::fs,some false⟩:=by
 refine bn (fun se=>⟨se,?_⟩) k
 cases wh <;>
 ·show (if (z.code.getD (alt+z.code.getD alt 0) 0==0)=true then _ else _)=_
  rw[if_neg (by rw[h0];exact Bool.false_ne_true)]
  exact bo (a:=⟨alt,p,handed,om,loops,inner,fs,none⟩) (x:={wait:=.nextBranch,pc:=alt+z.code.getD alt 0,pos:=p,om,whole:=_}) hr
theorem rh {alt p pc0 pos0:Nat}{om0 wh:Bool}(h0:(z.code.getD (alt+z.code.getD alt 0) 0==0)=true)
  (k:Ends z r N ⟨alt,p,handed,om,loops,inner,fs,some false⟩):Ends z r (N+1) ⟨pc0,pos0,handed,om0,loops,inner,{wait:=.nextBranch,pc:=alt,pos:=p,om,whole:=wh}::fs,some false⟩:=by
 refine bn (fun se=>⟨se,?_⟩) k
 cases wh <;>
 ·show (if (z.code.getD (alt+z.code.getD alt 0) 0==0)=true then _ else _)=_
  rw[if_pos h0];rfl
theorem lQ {f:Nat→Bool}{i:Nat}:∀{n:Nat} {w:List Nat} {pos:Nat},At z pos w→(∀c∈w,acc z.code i c=some (f c))→n≤w.length→∀found se,∃se',Sre.run z.code z.text i n pos found se=.ok (found+((w.take n).takeWhile f).length,se')
 |0,w,pos,h,ha,hn,found,se=>⟨se,rfl⟩
 |n+1,[],pos,h,ha,hn,found,se=>absurd hn (by simp)
 |n+1,c::w,pos,h,ha,hn,found,se=>by
  obtain⟨se1,e⟩:=mu (ha c (.head _)) se
  obtain⟨se2,e2⟩:=lQ h.next (fun d hd=>ha d (.tail _ hd)) (n:=n) (by simpa using hn) (found+1) se1
  unfold Sre.run
  simp only[h.sign,e]
  show ∃se',(if f c=true then Sre.run z.code z.text i n (pos+1) (found+1) se1 else pure (found,se1))=_
  simp only[List.take_succ_cons,List.takeWhile_cons]
  by_cases q:f c=true
  ·rw[if_pos q,if_pos q,e2];exact⟨se2,by simp only[List.length_cons];congr 2;exact Om.o23⟩
  ·rw[if_neg q,if_neg q];exact⟨se1,rfl⟩
theorem cp (ho:ops[z.code.getD pc 0]?=some .REPEAT_ONE)(hc:pc<z.code.size)(hr:room fs){f:Nat→Bool}{w:List Nat}(hw:At z pos w)(ha:∀c∈w,acc z.code (pc+4) c=some (f c)){n m:Nat}
  (hm:min (z.code.getD (pc+3) 0) w.length=m) (hn:((w.take m).takeWhile f).length=n) (hl:z.code.getD (pc+2) 0≤n) (hl':z.code.getD (pc+2) 0≤w.length)
  (k:Ends z r N ⟨pc+1+z.code.getD (pc+1) 0,pos+n,pos+n,om,loops,inner,{wait:=.giveBack,pc,pos:=pos+n,om,count:=n,whole:=inner.isSome}::fs,none⟩):Ends z r (N+1) ⟨pc,pos,handed,om,loops,inner,fs,none⟩:=by
 refine bn (fun se=>?_) k
 rw[bQ rfl hc]
 unfold M.exec
 rw[bN ho]
 have hroom:((z.lim:Int)-(pos:Int)).toNat=w.length:=by have:=hw.1;exact Om.o151 this
 obtain⟨se',e⟩:=lQ (n:=m) hw ha (by exact Om.o150 hm) 0 ((se.add (z.code.getD pc 0)).add (z.code.getD (pc+4) 0))
 refine⟨se',?_⟩
 show (if ((z.code.getD (pc+2) 0:Nat):Int) > (z.lim:Int)-(pos:Int) then _ else match Sre.run z.code z.text (pc+4) (min (z.code.getD (pc+3) 0) ((z.lim:Int)-(pos:Int)).toNat) pos 0 ((se.add (z.code.getD pc 0)).add (z.code.getD (pc+4) 0)) with | .error why=>_ | .ok (n,seen)=>_)=_
 simp only[if_neg (by have:=hw.1;exact Om.o153 hl' this),hroom,hm,e]
 rw[if_neg (by exact Om.o152 hn hl),hn,Nat.zero_add]
 cases inner<;>exact bo (a:=⟨pc,pos+n,handed,om,loops,_,fs,none⟩) (x:={wait:=.giveBack,pc,pos:=pos+n,om,count:=n,whole:=_}) hr
theorem n9 (ho:ops[z.code.getD pc 0]?=some .REPEAT_ONE)(hc:pc<z.code.size){f:Nat→Bool}{w:List Nat}(hw:At z pos w)(ha:∀c∈w,acc z.code (pc+4) c=some (f c)){m:Nat}
  (hm:min (z.code.getD (pc+3) 0) w.length=m) (hl:((w.take m).takeWhile f).length<z.code.getD (pc+2) 0)
  (k:∀p,Ends z r N ⟨pc,p,handed,om,loops,inner,fs,some false⟩):Ends z r (N+1) ⟨pc,pos,handed,om,loops,inner,fs,none⟩:=by
 refine bn (fun se=>?_) (k pos)
 rw[bQ rfl hc]
 unfold M.exec
 rw[bN ho]
 have hroom:((z.lim:Int)-(pos:Int)).toNat=w.length:=by have:=hw.1;exact Om.o151 this
 obtain⟨se',e⟩:=lQ (n:=m) hw ha (by exact Om.o150 hm) 0 ((se.add (z.code.getD pc 0)).add (z.code.getD (pc+4) 0))
 by_cases q:((z.code.getD (pc+2) 0:Nat):Int) > (z.lim:Int)-(pos:Int)
 ·refine⟨se.add (z.code.getD pc 0),?_⟩
  show (if ((z.code.getD (pc+2) 0:Nat):Int) > (z.lim:Int)-(pos:Int) then _ else match Sre.run z.code z.text (pc+4) (min (z.code.getD (pc+3) 0) ((z.lim:Int)-(pos:Int)).toNat) pos 0 ((se.add (z.code.getD pc 0)).add (z.code.getD (pc+4) 0)) with | .error why=>_ | .ok (n,seen)=>_)=_
  rw[if_pos q];rfl
 ·refine⟨se',?_⟩
  show (if ((z.code.getD (pc+2) 0:Nat):Int) > (z.lim:Int)-(pos:Int) then _ else match Sre.run z.code z.text (pc+4) (min (z.code.getD (pc+3) 0) ((z.lim:Int)-(pos:Int)).toNat) pos 0 ((se.add (z.code.getD pc 0)).add (z.code.getD (pc+4) 0)) with | .error why=>_ | .ok (n,seen)=>_)=_
  rw[if_neg q,hroom,hm,e]
  show (if 0+((w.take m).takeWhile f).length<z.code.getD (pc+2) 0 then _ else _)=_
  rw[if_pos (by exact Om.o149 hl)];rfl
theorem io {pc0 pos0 p n:Nat}{om0 wh:Bool}(hr:room fs)(hl:z.code.getD (pc+2) 0≤n)
  (k:Ends z r N ⟨pc+1+z.code.getD (pc+1) 0,p,p,om,loops,inner,{wait:=.giveBack,pc,pos:=p,om,count:=n,whole:=wh}::fs,none⟩) :
  Ends z r (N+1) ⟨pc0,pos0,handed,om0,loops,inner,{wait:=.giveBack,pc,pos:=p+1,om,count:=(n+1:Nat),whole:=wh}::fs,some false⟩:=by
 refine bn (fun se=>⟨se,?_⟩) k
 have e:(((n+1:Nat):Int)-1)=(n:Int):=by exact Om.o88
 cases wh <;>
 ·show (if ((n+1:Nat):Int)-1<((z.code.getD (pc+2) 0:Nat):Int) then _ else _)=_
  rw[if_neg (by exact Om.o148 hl)]
  exact (bo (a:=⟨pc,p,handed,om,loops,inner,fs,none⟩) (x:={wait:=.giveBack,pc,pos:=p,om,count:=((n+1:Nat):Int)-1,whole:=_}) hr).trans (by simp only[e];rfl)
theorem iC {pc0 pos0 p n:Nat}{om0 wh:Bool}(hl:n≤z.code.getD (pc+2) 0)(k:Ends z r N ⟨pc,p,handed,om,loops,inner,fs,some false⟩) :
  Ends z r (N+1) ⟨pc0,pos0,handed,om0,loops,inner,{wait:=.giveBack,pc,pos:=p,om,count:=(n:Nat),whole:=wh}::fs,some false⟩:=by
 refine bn (fun se=>⟨se,?_⟩) k
 cases wh <;>
 ·show (if ((n:Nat):Int)-1<((z.code.getD (pc+2) 0:Nat):Int) then _ else _)=_
  rw[if_pos (by exact Om.o147 hl)];rfl
theorem rep (ho:ops[z.code.getD pc 0]?=some .REPEAT)(hc:pc<z.code.size)(hr:room fs)
  (k:Ends z r N ⟨pc+1+z.code.getD (pc+1) 0,pos,pos,om,loops.push {pc,outer:=inner},some loops.size,{wait:=.closeLoop,pc,pos,om,loop:=loops.size}::fs,none⟩):Ends z r (N+1) ⟨pc,pos,handed,om,loops,inner,fs,none⟩:=by
 refine bn (fun se=>⟨se.add (z.code.getD pc 0),?_⟩) k
 rw[bQ rfl hc]
 unfold M.exec
 rw[bN ho]
 exact bo (a:=⟨pc,pos,handed,om,loops.push {pc,outer:=inner},some loops.size,fs,none⟩) (x:={wait:=.closeLoop,pc,pos,om,loop:=loops.size}) hr
theorem bS (ho:ops[z.code.getD pc 0]?=some .MAX_UNTIL)(hc:pc<z.code.size)(hr:room fs){i:Nat}{l:Loop}(hl:loops.getD i dfl=l)(h0:decide (l.count+1<((z.code.getD (l.pc+2) 0:Nat):Int))=false)
  (hm:decide (l.count+1<((z.code.getD (l.pc+3) 0:Nat):Int))=true) (hb:l.began≠some pos)
  (k:Ends z r N ⟨l.pc+4,pos,pos,om,loops.modify i (fun l=>{l with count:=l.count+1,began:=some pos}),some i,{wait:=.maxMore,pc:=pc+1,pos,om,loop:=i,count:=l.count+1,whole:=true,began:=l.began}::fs,none⟩) :
  Ends z r (N+1) ⟨pc,pos,handed,om,loops,some i,fs,none⟩:=by
 refine bn (fun se=>⟨se.add (z.code.getD pc 0),?_⟩) k
 rw[bQ rfl hc]
 unfold M.exec
 rw[bN ho]
 have hmod:(loops.modify i fun l'=>{l' with count:=l.count+1,began:=some pos})=loops.modify i (fun l=>{l with count:=l.count+1,began:=some pos}):=by
  subst hl
  apply Array.ext
  ·simp
  ·intro j h1 h2
   simp only[Array.getElem_modify,Array.getElem_modify]
   by_cases e:i=j
   ·subst e;rw[if_pos rfl,if_pos rfl]
    have:i<loops.size:=by simpa using h1
    simp[Array.getD,this]
   ·simp only[if_neg e,if_neg e]
 subst hl
 show (if (loops.getD i dfl).count+1<((z.code.getD ((loops.getD i dfl).pc+2) 0:Nat):Int) then _ else if (!true)=true then _ else if ((decide ((loops.getD i dfl).count+1<((z.code.getD ((loops.getD i dfl).pc+3) 0:Nat):Int))||z.code.getD ((loops.getD i dfl).pc+3) 0==maxRepeat)&&(loops.getD i dfl).began != some pos)=true then _ else _)=_
 rw[if_neg (of_decide_eq_false h0),if_neg (by decide),if_pos (by simp only[hm,Bool.true_or,Bool.true_and];exact bne_iff_ne.mpr hb)]
 simp only[←hmod]
 exact bo (a:=⟨pc+1,pos,handed,om,_,some i,fs,none⟩) (x:={wait:=.maxMore,pc:=pc+1,pos,om,loop:=i,count:=(loops.getD i dfl).count+1,whole:=true,began:=(loops.getD i dfl).began}) hr
theorem gw (ho:ops[z.code.getD pc 0]?=some .MAX_UNTIL)(hc:pc<z.code.size)(hr:room fs){i:Nat}{l:Loop}(hl:loops.getD i dfl=l)(h0:decide (l.count+1<((z.code.getD (l.pc+2) 0:Nat):Int))=false)
  (hm:decide (l.count+1<((z.code.getD (l.pc+3) 0:Nat):Int))=false) (hx:(z.code.getD (l.pc+3) 0==maxRepeat)=false)
  (k:Ends z r N ⟨pc+1,pos,pos,om,loops,l.outer,{wait:=.maxTail,pc:=pc+1,pos,om,loop:=i,count:=l.count+1}::fs,none⟩) :
  Ends z r (N+1) ⟨pc,pos,handed,om,loops,some i,fs,none⟩:=by
 refine bn (fun se=>⟨se.add (z.code.getD pc 0),?_⟩) k
 rw[bQ rfl hc]
 unfold M.exec
 rw[bN ho]
 subst hl
 show (if (loops.getD i dfl).count+1<((z.code.getD ((loops.getD i dfl).pc+2) 0:Nat):Int) then _ else if (!true)=true then _ else if ((decide ((loops.getD i dfl).count+1<((z.code.getD ((loops.getD i dfl).pc+3) 0:Nat):Int))||z.code.getD ((loops.getD i dfl).pc+3) 0==maxRepeat)&&(loops.getD i dfl).began != some pos)=true then _ else _)=_
 rw[if_neg (of_decide_eq_false h0),if_neg (by decide),if_neg (by simp only[hm,hx];exact Bool.false_ne_true)]
 exact bo (a:=⟨pc+1,pos,handed,om,loops,(loops.getD i dfl).outer,fs,none⟩) (x:={wait:=.maxTail,pc:=pc+1,pos,om,loop:=i,count:=(loops.getD i dfl).count+1}) hr
theorem eL {pc0 pos0:Nat}{om0:Bool}{i:Nat}{n:Int}{b:Option Nat}(hr:room fs){ls:Array Loop}(hls:(loops.modify i fun l=>{l with began:=b}).modify i (fun l=>{l with count:=n-1})=ls)
  (k:Ends z r N ⟨pc,pos,pos,om,ls,(ls.getD i dfl).outer,{wait:=.maxTail,pc,pos,om,loop:=i,count:=n}::fs,none⟩) :
  Ends z r (N+1) ⟨pc0,pos0,handed,om0,loops,inner,{wait:=.maxMore,pc,pos,om,loop:=i,count:=n,whole:=true,began:=b}::fs,some false⟩:=by
 refine bn (fun se=>⟨se,?_⟩) k
 subst hls
 exact bo (a:=⟨pc,pos,handed,om,_,_,fs,none⟩) (x:={wait:=.maxTail,pc,pos,om,loop:=i,count:=n}) hr
theorem tQ {pc0 pos0:Nat}{om0 wh:Bool}{i:Nat}{n:Int}{b:Option Nat}(k:Ends z r N ⟨pc,pos,handed,om,loops,some i,fs,some false⟩) :
  Ends z r (N+1) ⟨pc0,pos0,handed,om0,loops,inner,{wait:=.maxTail,pc,pos,om,loop:=i,count:=n,whole:=wh,began:=b}::fs,some false⟩:=bn (fun se=>⟨se,rfl⟩) k
theorem pM {pc0 pos0:Nat}{om0 wh:Bool}{i:Nat}{n:Int}{b:Option Nat}(k:Ends z r N ⟨pc,pos,handed,om,loops.pop,(loops.getD i dfl).outer,fs,some false⟩) :
  Ends z r (N+1) ⟨pc0,pos0,handed,om0,loops,inner,{wait:=.closeLoop,pc,pos,om,loop:=i,count:=n,whole:=wh,began:=b}::fs,some false⟩:=bn (fun se=>⟨se,rfl⟩) k
theorem gt (ho:ops[z.code.getD pc 0]?=some .ASSERT_NOT)(hc:pc<z.code.size)(hr:room fs)(h2:z.code.getD (pc+2) 0=0)
  (k:Ends z r N ⟨pc+3,pos,pos,false,loops,inner,{wait:=.lookNot,pc,pos,om,whole:=inner.isSome}::fs,none⟩):Ends z r (N+1) ⟨pc,pos,handed,om,loops,inner,fs,none⟩:=by
 refine bn (fun se=>⟨se.add (z.code.getD pc 0),?_⟩) k
 rw[bQ rfl hc]
 unfold M.exec
 rw[bN ho]
 show (if pos<z.code.getD (pc+2) 0 then _ else M.attempt _ _ (pc+3) (pos-z.code.getD (pc+2) 0) false)=_
 rw[h2,if_neg (by exact Om.o146)]
 cases inner<;>exact bo (a:=⟨pc,pos,handed,om,loops,_,fs,none⟩) (x:={wait:=.lookNot,pc,pos,om,whole:=_}) hr
theorem qf {pc0 pos0:Nat}{om0 wh:Bool}{i:Nat}{n:Int}{b:Option Nat}(k:Ends z r N ⟨pc,pos,handed,om,loops,inner,fs,some false⟩) :
  Ends z r (N+1) ⟨pc0,pos0,handed,om0,loops,inner,{wait:=.lookNot,pc,pos,om,loop:=i,count:=n,whole:=wh,began:=b}::fs,some true⟩:=bn (fun se=>⟨se,rfl⟩) k
theorem sR {pc0 pos0:Nat}{om0 wh:Bool}{i:Nat}{n:Int}{b:Option Nat}(k:Ends z r N ⟨pc+1+z.code.getD (pc+1) 0,pos,handed,om,loops,inner,fs,none⟩) :
  Ends z r (N+1) ⟨pc0,pos0,handed,om0,loops,inner,{wait:=.lookNot,pc,pos,om,loop:=i,count:=n,whole:=wh,began:=b}::fs,some false⟩:=by
 cases wh<;>exact bn (fun se=>⟨se,rfl⟩) k
theorem xy (ho:ops[z.code.getD pc 0]?=some .AT)(hc:pc<z.code.size)(h1:z.code.getD (pc+1) 0=10){b:Bool}
  (hb:(z.lim != 0&&((decide (pos > 0)&&isWordUni (z.text.getD (pos-1) 0)) != (decide (pos<z.lim)&&isWordUni (z.text.getD pos 0)))==true)=b)
  (k:Ends z r N (if b=true then ⟨pc+2,pos,handed,om,loops,inner,fs,none⟩ else ⟨pc,pos,handed,om,loops,inner,fs,some false⟩)):Ends z r (N+1) ⟨pc,pos,handed,om,loops,inner,fs,none⟩:=by
 refine bn (fun se=>⟨(se.add (z.code.getD pc 0)).add (43+z.code.getD (pc+1) 0),?_⟩) k
 rw[bQ rfl hc]
 unfold M.exec
 rw[bN ho]
 subst hb
 show (match M.isAt _ (z.code.getD (pc+1) 0) with | .error why=>_ | .ok yes=>_)=_
 have e:∀m:M,m.isAt (z.code.getD (pc+1) 0)=m.isAt 10:=fun m=>by rw[h1]
 rw[e]
 show (if (z.lim != 0&&((decide (pos > 0)&&isWordUni (z.text.getD (pos-1) 0)) != (decide (pos<z.lim)&&isWordUni (z.text.getD pos 0)))==true)=true then _ else _)=_
 by_cases q:(z.lim != 0&&((decide (pos > 0)&&isWordUni (z.text.getD (pos-1) 0)) != (decide (pos<z.lim)&&isWordUni (z.text.getD pos 0)))==true)=true
 ·rw[if_pos q,if_pos q];rfl
 ·rw[if_neg q,if_neg q];rfl
end
end Re
end Mine
end
section
namespace Mine
namespace Re
open PySem PySem.Sre
noncomputable def chewC:Array Nat:=#[14,4,0,1,4294967295,24,17,1,4294967295,13,12,21,9,0,908,939524096,671088640,0,0,0,0,0,1,1]
noncomputable def junkC:Array Nat:=#[14,4,0,1,4294967295,24,11,0,4294967295,13,6,16,32,16,9,0,1,23,16,0,1,16,35,13,4,8,13,0,24,5,0,4294967295,2,1,18,16,10,1]
noncomputable def special (c:Nat):Bool:=c==91||c==93||c==40||c==41||c==123||c==125||c==35||c==39||c==34||c==92
noncomputable def ord_ (c:Nat):Bool:=!special c
noncomputable def bG (c:Nat):Bool:=c==32||c==9
noncomputable def space (c:Nat):Bool:=(9≤c&&c≤13)||(28≤c&&c≤31)||c==32
noncomputable def iL (c:Nat):Bool:=(48≤c&&c≤57)||(65≤c&&c≤90)||(97≤c&&c≤122)||c==95
theorem qH {p:Nat→Bool}(h:(List.range 128).all p=true){c:Nat}(hc:c<128):p c=true:=List.all_eq_true.mp h c (List.mem_range.mpr hc)
theorem cV {code:Array Nat}{pc:Nat}{f:Nat→Bool}(h:((List.range 128).all fun c=>acc code pc c==some (f c))=true){c:Nat}(hc:c<128):acc code pc c=some (f c):=by
 simpa using qH h hc
theorem rz:((List.range 128).all fun c=>acc chewC 9 c==some (ord_ c))=true:=by decide +kernel
theorem mA:((List.range 128).all fun c=>acc junkC 9 c==some (bG c))=true:=by decide +kernel
theorem dY:((List.range 128).all fun c=>acc junkC 21 c==some (c==35))=true:=by decide +kernel
theorem kU:((List.range 128).all fun c=>acc junkC 23 c==some (!space c))=true:=by decide +kernel
theorem rg:((List.range 128).all fun c=>acc junkC 32 c==some (c != 10))=true:=by decide +kernel
theorem jq:((List.range 128).all fun c=>acc junkC 35 c==some (c==10))=true:=by decide +kernel
def Low (w:List Nat):Prop:=∀c∈w,c<128
noncomputable def start (pc pos:Nat):A:=⟨pc,pos,pos,true,#[],none,[],none⟩
theorem ac {a b:Nat}(h:Nat.ble (a+1) b=true):a<b:=Nat.le_of_ble_eq_true h
theorem nc {a b:Nat}(h:Nat.ble a b=true):a≤b:=Nat.le_of_ble_eq_true h
theorem cn {n:Nat}(h:n≤4294967295):min 4294967295 n=n:=by exact Om.o163 h
theorem aj {f:Fr}{fs:List Fr}(h:f.passes=true)(k:∀f∈fs,f.passes=true):∀g∈f::fs,g.passes=true:=by
 intro g hg;cases hg with|head=>exact h|tail _ h=>exact k g h
theorem b7:∀f∈([]:List Fr),f.passes=true:=fun _ h=>by contradiction
theorem chew_ok {text:Array Nat}{lim st pos:Nat}{w:List Nat}(hw:At ⟨chewC,text,lim,st⟩ pos w)(hl:Low w)(hn:w.length≤4294967295) :
  Ends ⟨chewC,text,lim,st⟩ (if (w.takeWhile ord_).length=0 then none else some (pos+(w.takeWhile ord_).length)) 4 (start 5 pos):=by
 have ha:∀c∈w,acc chewC 9 c=some (ord_ c):=fun c hc=>cV rz (hl c hc)
 have ht:w.take w.length=w:=List.take_length
 by_cases q:(w.takeWhile ord_).length=0
 ·rw[if_pos q]
  refine (n9 (N:=1) rfl (ac rfl) hw ha (m:=w.length) (cn hn) (by rw[ht,q];exact ac rfl) fun p=>fin_no).mono (by decide)
 ·rw[if_neg q]
  have hle:(w.takeWhile ord_).length≤w.length:=(List.takeWhile_sublist _).length_le
  refine (cp (N:=3) rfl (ac rfl) (ac rfl) hw ha (m:=w.length) (cn hn) (n:=(w.takeWhile ord_).length) (by rw[ht]) (Nat.pos_of_ne_zero q) (Nat.le_trans (Nat.pos_of_ne_zero q) hle) ?_).mono (by decide)
  refine cS (pc:=23) rfl (ac rfl) ((cO (aj rfl b7)).mono (nc rfl))
noncomputable def junkB (w:List Nat):Bool:=match w.dropWhile bG with
 |10::_=>true
 |35::c::_=>!space c
 |_=>false
section
variable {text:Array Nat}{lim st:Nat}
variable {p n N h:Nat}{w:List Nat}{r:Option Nat}
noncomputable abbrev jG (p n:Nat):Fr:={wait:=.giveBack,pc:=5,pos:=p,om:=true,count:=n}
noncomputable abbrev jC (p:Nat):Fr:={wait:=.closeLoop,pc:=17,pos:=p,om:=true,loop:=0}
noncomputable abbrev jM (p:Nat):Fr:={wait:=.maxMore,pc:=35,pos:=p,om:=true,loop:=0,count:=0,whole:=true}
noncomputable abbrev jZ (text:Array Nat) (lim st:Nat):Z:=⟨junkC,text,lim,st⟩
abbrev No (z:Z) (r:Option Nat) (N:Nat) (loops:Array Loop) (inner:Option Nat) (fs:List Fr):Prop:=∀h pc pos om,Ends z r N ⟨pc,pos,h,om,loops,inner,fs,some false⟩
theorem jV {z:Z}{pc pos N h:Nat}{om:Bool}{loops:Array Loop}{inner:Option Nat}{fs:List Fr}{op:Op}(ho:ops[z.code.getD pc 0]?=some op)(h1:nr op=true)(hc:pc<z.code.size){f:Nat→Bool}
  (hf:((List.range 128).all fun c=>acc z.code pc c==some (f c))=true) {w:List Nat} (hw:At z pos w) (hl:Low w) (hno:∀c s,w=c::s→f c=false) (k:No z r N loops inner fs):Ends z r (N+1) ⟨pc,pos,h,om,loops,inner,fs,none⟩:=by
 refine mi ho h1 hc (fun hp=>?_) (k _ _ _ _)
 cases w with
 |nil=>have:=hw.nil;exact (Om.o87 hp this).elim
 |cons c s=>rw[hw.sign,cV hf (hl c (.head _)),hno c s rfl]
theorem eJ {z:Z}{pc pos N h c:Nat}{om:Bool}{loops:Array Loop}{inner:Option Nat}{fs:List Fr}{op:Op}(ho:ops[z.code.getD pc 0]?=some op)(h1:nr op=true)(hc:pc<z.code.size){f:Nat→Bool}
  (hf:((List.range 128).all fun c=>acc z.code pc c==some (f c))=true) {w:List Nat} (hw:At z pos (c::w)) (hl:Low (c::w)) (hy:f c=true) (k:Ends z r N ⟨pc+itemWidth z.code pc,pos+1,h,om,loops,inner,fs,none⟩):Ends z r (N+1) ⟨pc,pos,h,om,loops,inner,fs,none⟩:=
 iY ho h1 hc hw.lt (by rw[hw.sign,cV hf (hl c (.head _)),hy]) k
theorem jH (hw:At (jZ text lim st) p w)(hl:Low w)(hno:∀c s,w=c::s→c≠10)(k:No (jZ text lim st) r N #[] none [jG p n]) :
  No (jZ text lim st) r (N+4) #[⟨17,0,some p,none⟩] (some 0) [jM p,jC p,jG p n]:=by
 intro h pc pos om
 refine eL (ls:=#[⟨17,-1,none,none⟩]) (ac rfl) rfl ?_
 refine jV (op:=.LITERAL) rfl rfl (ac rfl) jq hw hl (fun c s e=>by simpa using hno c s e) fun h pc pos om=>?_
 exact tQ (pM (k _ _ _ _))
theorem nN (hw:At (jZ text lim st) p w)(hl:Low w)(hno:∀c s,w=c::s→c≠10∧(c=35→∀d t,s=d::t→space d=true))(k:No (jZ text lim st) r N #[] none [jG p n]) :
  Ends (jZ text lim st) r (N+8) ⟨17,p,h,true,#[],none,[jG p n],none⟩:=by
 have k':=jH hw hl (fun c s e=>(hno c s e).1) k
 refine rep rfl (ac rfl) (ac rfl) ?_
 refine bS (pc:=34) (i:=0) (l:=⟨17,-1,none,none⟩) rfl (ac rfl) (ac rfl) rfl rfl rfl (fun e=>by contradiction) ?_
 by_cases q:∃s,w=35::s
 ·obtain⟨s,rfl⟩:=q
  refine eJ (pc:=21) (op:=.LITERAL) rfl rfl (ac rfl) dY hw hl rfl ?_
  exact jV (pc:=23) (op:=.IN) rfl rfl (ac rfl) kU hw.next (fun c hc=>hl c (.tail _ hc)) (fun d t e=>by rw[(hno 35 s rfl).2 rfl d t e];rfl) k'
 ·refine (jV (pc:=21) (op:=.LITERAL) rfl rfl (ac rfl) dY hw hl (fun c s e=>?_) k').mono (by exact Om.o162)
  cases hc:(c==35) with
  |false=>rfl
  |true=>exact absurd ⟨s,by rw[e,eq_of_beq hc]⟩ q
theorem j6 (hw:At (jZ text lim st) p (10::w))(hl:Low (10::w)):Ends (jZ text lim st) (some (p+1)) 10 ⟨17,p,h,true,#[],none,[jG p n],none⟩:=by
 refine (rep (N:=9) rfl (ac rfl) (ac rfl) ?_)
 refine bS (pc:=34) (i:=0) (l:=⟨17,-1,none,none⟩) rfl (ac rfl) (ac rfl) rfl rfl rfl (fun e=>by contradiction) ?_
 refine jV (pc:=21) (op:=.LITERAL) rfl rfl (ac rfl) dY hw hl (fun c s e=>by (injection e with e;subst e);rfl) fun h pc pos om=>?_
 refine eL (ls:=#[⟨17,-1,none,none⟩]) (ac rfl) rfl ?_
 refine eJ (pc:=35) (op:=.LITERAL) rfl rfl (ac rfl) jq hw hl rfl ?_
 exact cS (pc:=37) rfl (ac rfl) ((cO (aj rfl (aj rfl (aj rfl b7)))).mono (nc rfl))
theorem jv {d:Nat}{u v:List Nat}(hw:At (jZ text lim st) p (35::d::(u++10::v)))(hl:Low (35::d::(u++10::v)))(hd:space d=false)(hu:∀c∈u,(c != 10)=true)(hn:(u++10::v).length≤4294967295) :
  Ends (jZ text lim st) (some (p+2+u.length+1)) 14 ⟨17,p,h,true,#[],none,[jG p n],none⟩:=by
 refine (rep (N:=13) rfl (ac rfl) (ac rfl) ?_)
 refine bS (pc:=34) (i:=0) (l:=⟨17,-1,none,none⟩) rfl (ac rfl) (ac rfl) rfl rfl rfl (fun e=>by contradiction) ?_
 have l1:Low (d::(u++10::v)):=fun c hc=>hl c (.tail _ hc)
 have l2:Low (u++10::v):=fun c hc=>l1 c (.tail _ hc)
 refine eJ (pc:=21) (op:=.LITERAL) rfl rfl (ac rfl) dY hw hl rfl ?_
 refine eJ (pc:=23) (op:=.IN) rfl rfl (ac rfl) kU hw.next l1 (by rw[hd];rfl) ?_
 have tw:(u++10::v).takeWhile (fun c=>c != 10)=u:=by
  rw[List.takeWhile_append_of_pos hu];simp
 refine cp (pc:=28) (f:=fun c=>c != 10) rfl (ac rfl) (ac rfl) hw.next.next (fun c hc=>cV rg (l2 c hc)) (cn hn) (n:=u.length) (by rw[List.take_length,tw]) (nc rfl) (Nat.zero_le _) ?_
 refine gw (pc:=34) (i:=0) (l:=⟨17,0,some p,none⟩) rfl (ac rfl) (ac rfl) rfl rfl rfl rfl ?_
 have hw':=hw.next.next.drop (n:=u.length) (by simp)
 rw[List.drop_left] at hw'
 refine eJ (pc:=35) (op:=.LITERAL) rfl rfl (ac rfl) jq hw' (fun c hc=>l2 c (List.mem_append_right _ hc)) rfl ?_
 exact cS (pc:=37) rfl (ac rfl) ((cO (aj rfl (aj rfl (aj rfl (aj rfl (aj rfl b7)))))).mono (nc rfl))
theorem tw_drop (f:Nat→Bool):∀w:List Nat,w.drop (w.takeWhile f).length=w.dropWhile f
 | []=>rfl
 |c::w=>by
  rw[List.takeWhile_cons,List.dropWhile_cons]
  cases f c with
  |true=>exact tw_drop f w
  |false=>rfl
theorem tw_take (f:Nat→Bool):∀w:List Nat,w.take (w.takeWhile f).length=w.takeWhile f
 | []=>rfl
 |c::w=>by
  rw[List.takeWhile_cons]
  cases f c with
  |true=>exact congrArg _ (tw_take f w)
  |false=>rfl
theorem tw_all (f:Nat→Bool):∀(w:List Nat) (c:Nat),c∈w.takeWhile f→f c=true
 | [],c,h=>by contradiction
 |d::w,c,h=>by
  rw[List.takeWhile_cons] at h
  cases q:f d with
  |true=>
   rw[q] at h
   rcases List.mem_cons.mp h with h|h
   ·rw[h];exact q
   ·exact tw_all f w c h
  |false=>rw[q] at h;contradiction
theorem iU:∀{n:Nat},At (jZ text lim st) p w→Low w→n≤w.length→(∀c∈w.take n,bG c=true)→No (jZ text lim st) none (9*n+2) #[] none [jG (p+n) n]
 |0,hw,hl,hn,hb=>fun h pc pos om=>iC (Nat.zero_le _) fin_no
 |n+1,hw,hl,hn,hb=>fun h pc pos om=>by
  have ih:=iU (n:=n) hw hl (by exact Om.o73 hn) (fun c hc=>hb c (by rw[List.take_add_one];exact List.mem_append_left _ hc))
  refine (io (N:=9*n+2+8) (p:=p+n) (ac rfl) (Nat.zero_le _) ?_).mono (by exact Om.o161)
  have hw':=hw.drop (n:=n) (by exact Om.o73 hn)
  refine nN hw' (fun c hc=>hl c (List.mem_of_mem_drop hc)) (fun c s e=>?_) ih
  have hc:bG c=true:=by
   refine hb c ?_
   have:w[n]?=some c:=by rw[←List.head?_drop,e];rfl
   rw[List.take_add_one,this];exact List.mem_append_right _ (.head _)
  constructor
  ·rintro rfl;contradiction
  ·rintro rfl;contradiction
theorem junk_ok (hw:At (jZ text lim st) p w)(hl:Low w)(hn:w.length≤4294967295)(hnl:10∈w) :
  ∃r,r.isSome=junkB w∧Ends (jZ text lim st) r (9*w.length+20) (start 5 p):=by
 have e:w=w.takeWhile bG++w.dropWhile bG:=(List.takeWhile_append_dropWhile ..).symm
 have hlen:(w.takeWhile bG).length≤w.length:=(List.takeWhile_sublist _).length_le
 have hd:=tw_drop bG w
 have htk:=tw_take bG w
 have hall:=tw_all bG w
 have hw':=hw.drop (n:=(w.takeWhile bG).length) hlen
 rw[hd] at hw'
 have hl':Low (w.dropWhile bG):=fun c hc=>hl c ((List.dropWhile_sublist _).mem hc)
 have first:∀{r N},Ends (jZ text lim st) r N ⟨17,p+(w.takeWhile bG).length,p+(w.takeWhile bG).length,true,#[],none,[jG (p+(w.takeWhile bG).length) (w.takeWhile bG).length],none⟩→Ends (jZ text lim st) r (N+1) (start 5 p):=fun k=>
  cp (pc:=5) (f:=bG) rfl (ac rfl) (ac rfl) hw (fun c hc=>cV mA (hl c hc)) (cn hn) (n:=(w.takeWhile bG).length) (by rw[List.take_length]) (Nat.zero_le _) (Nat.zero_le _) k
 have noC:(∀c s,w.dropWhile bG=c::s→c≠10∧(c=35→∀d t,s=d::t→space d=true))→Ends (jZ text lim st) none (9*w.length+20) (start 5 p):=fun hno=>
  (first (nN hw' hl' hno (iU (n:=(w.takeWhile bG).length) hw hl hlen (by rw[htk];exact hall)))).mono (by exact Om.o160 hlen)
 unfold junkB
 split
 ·rename_i s e1
  rw[e1] at hw' hl'
  exact⟨_,rfl,(first (j6 hw' hl')).mono (by exact Om.o159)⟩
 ·rename_i c s e1
  cases hs:space c with
  |true=>
   refine⟨none,rfl,noC fun a b e2=>?_⟩
   rw[e1] at e2;(injection e2 with e2 e2_;subst e2 e2_)
   exact⟨by decide,fun _ d t e3=>by (injection e3 with e3;subst e3);exact hs⟩
  |false=>
   have hin:10∈s:=by
    have h1:10∈w.dropWhile bG:=by
     rw[e] at hnl
     rcases List.mem_append.mp hnl with h|h
     ·exact absurd (hall 10 h) (by decide)
     ·exact h
    rw[e1] at h1
    rcases List.mem_cons.mp h1 with h|h
    ·exact absurd h (by decide)
    ·rcases List.mem_cons.mp h with h|h
     ·rw[←h] at hs;exact absurd hs (by decide)
     ·exact h
   have hs1:s=s.takeWhile (fun c=>c != 10)++s.dropWhile (fun c=>c != 10):=(List.takeWhile_append_dropWhile ..).symm
   obtain⟨v,hv⟩:∃v,s.dropWhile (fun c=>c != 10)=10::v:=by
    cases hdw:s.dropWhile (fun c=>c != 10) with
    |nil=>
     rw[hdw,List.append_nil] at hs1
     rw[hs1] at hin
     exact absurd (tw_all _ _ _ hin) (by decide)
    |cons a v=>
     have:=List.head?_dropWhile_not (fun c=>c != 10) s
     rw[hdw] at this
     have:a=10:=by simpa using this
     rw[this];exact⟨v,rfl⟩
   rw[hv] at hs1
   rw[e1] at hw' hl'
   have hlen2:s.length≤4294967295:=by
    have:(w.dropWhile bG).length≤w.length:=(List.dropWhile_sublist _).length_le
    rw[e1] at this;simp only[List.length_cons] at this;exact Om.o158 hn this
   rw[hs1] at hw' hl' hlen2
   exact⟨_,rfl,(first (jv hw' hl' hs (tw_all _ _) hlen2)).mono (by exact Om.o157)⟩
 ·rename_i h1 h2
  refine⟨none,rfl,noC fun c s e1=>⟨?_,?_⟩⟩
  ·rintro rfl;exact h1 s e1
  ·rintro rfl d t rfl;exact absurd e1 (h2 d t)
end
end Re
end Mine
end
section
namespace Mine
open PySem PyProof.Rows PySem.W PySem.Builtin PySem.Builtin.Re
noncomputable abbrev mId:String:="re.Pattern.match"
noncomputable abbrev xx (pv fv:Value) (tup:Addr):Obj:={cls:=.type "re.Pattern",data:=.fields #[pv,fv,.int 0 0,.none,.none,.ref tup,.int 0 0]}
noncomputable abbrev wH (sv:Value) (pat:Addr) (a b:Nat) (tup:Addr):Obj:={cls:=.type "re.Match",data:=.fields #[sv,.ref pat,.int a 0,.int b 0,.int (-1) 0,.ref tup]}
theorem ow:isSubtype (.type "re.Pattern") (.type "module")=pure false:=by rw[isSubtype_type];kernel_rfl
theorem mz:builtinKind mId=some .method:=by decide +kernel
theorem kK:entryFor table mId=some Builtin.«re.Pattern.match»:=entryFor_of_tree (by kernel_rfl)
theorem kX (a b c:Value):(match Manifest.signature? mId with|some sig=>Bind.checkArgs mId {sig with full:=toString (Bind.lastOf "re.Pattern")++toString "."++toString (Bind.lastOf mId)} ⟨[a,b,c],[]⟩|none=>pure ())=pure ():=by kernel_rfl
theorem kS (a b c d:Value):(match Manifest.signature? mId with|some sig=>Bind.checkArgs mId {sig with full:=toString (Bind.lastOf "re.Pattern")++toString "."++toString (Bind.lastOf mId)} ⟨[a,b,c,d],[]⟩|none=>pure ())=pure ():=by kernel_rfl
theorem wW (a b:Value):reNamed mId "match" ["string","pos","endpos"] 1 [a,b] []=pure [some a,some b,none]:=by rfl
theorem wq (a b c:Value):reNamed mId "match" ["string","pos","endpos"] 1 [a,b,c] []=pure [some a,some b,some c]:=by rfl
section
open Sre
theorem oE {m:M}(h:m.outcome.isSome=true):m.step=m:=by unfold M.step;rw[if_pos h]
theorem fP {m:M}(h:m.outcome.isSome=true):∀n,Re.it n m=m
 |0=>rfl
 |n+1=>by show Re.it n m.step=m;rw[oE h];exact fP h n
theorem hW:∀(n:Nat) (m:M),M.runFor n m=Re.it n m
 |0,m=>rfl
 |n+1,m=>by
  unfold M.runFor
  cases h:m.outcome.isSome with
  |true=>rw[if_pos rfl];exact (fP h _).symm
  |false=>rw[if_neg (by decide)];exact hW n m.step
theorem i9:∀(a b:Nat) (m:M),Re.it (a+b) m=Re.it b (Re.it a m)
 |0,b,m=>by rw[Nat.zero_add];rfl
 |a+1,b,m=>by rw[Nat.add_right_comm];exact i9 a b m.step
end
section
variable {M:Model}{A:Around}{E:Value→Shared→Prop}{s:Shared}
theorem kB:∀{turns n:Nat} {m:Sre.M} {Q:Sre.M→Shared→Prop},n<4*turns→(Re.it n m).outcome.isSome=true→Q (Re.it n m) s→wpAny M A (reDrive turns m) Q E s
 |0,n,m,Q,hn,_,_=>absurd hn (by exact Om.o167)
 |turns+1,n,m,Q,hn,ho,h=>by
  unfold reDrive reTurnSteps
  show wpAny M A (if (Sre.M.runFor 4 m).outcome.isSome=true then pure (Sre.M.runFor 4 m) else _) Q E s
  rw[hW]
  by_cases q:n≤4
  ·have e:Re.it 4 m=Re.it n m:=by
    rw[show 4=n+(4-n) by exact Om.o166 q,i9];exact fP ho _
   rw[e,if_pos ho];exact wpAny_pure h
  ·cases hs:(Re.it 4 m).outcome.isSome with
   |true=>
    have e:Re.it n m=Re.it 4 m:=by rw[show n=4+(n-4) by exact Om.o165 q,i9];exact fP hs _
    rw[if_pos rfl];rw[e] at h;exact wpAny_pure h
   |false=>
    rw[if_neg (by decide)]
    refine wpAny_bind (wpAny_rule ?_)
    have e:Re.it n m=Re.it (n-4) (Re.it 4 m):=by rw[←i9];congr 1;exact Om.o165 q
    rw[e] at ho h
    exact kB (by exact Om.o164 hn q) ho h
theorem gA {m:Sre.M}{Q:PUnit→Shared→Prop}(h:Q ⟨⟩ s):∀(l:List Nat),wpAny M A (forIn l PUnit.unit fun i (_:PUnit)=>if m.seen.has i=true then (do rule (Sre.names.getD i "");pure (ForInStep.yield PUnit.unit)) else pure (ForInStep.yield PUnit.unit)) Q E s
 | []=>by rw[List.forIn_nil];exact wpAny_pure h
 |i::l=>by
  rw[List.forIn_cons]
  refine wpAny_bind ?_
  split
  ·exact wpAny_bind (wpAny_rule (wpAny_pure (gA h l)))
  ·exact wpAny_pure (gA h l)
theorem tX {z:Re.Z}{r:Option Nat}{N:Nat}{a:Re.A}{se:Sre.Seen}{Q:Option Sre.M→Shared→Prop}(h:Re.Ends z r N a)(hN:N<2 ^ 60)
  (hq:match r with|some e=>∀m:Sre.M,m.start=z.start→m.lastindex=-1→m.handed=e→Q (some m) s|none=>Q none s):wpAny M A (reRunToEnd (Re.mk z a se)) Q E s:=by
 obtain⟨n,hn,h1,h2,h3⟩:=h se
 unfold reRunToEnd
 refine wpAny_bind (kB (n:=n) (by omega) ?_ ?_)
 ·cases r with
  |none=>rw[h3];rfl
  |some e=>rw[h3.1];rfl
 ·refine wpAny_bind ?_
  refine gA ?_ _
  cases r with
  |none=>rw[h3];exact wpAny_pure hq
  |some e=>rw[h3.1];exact wpAny_pure (hq _ h1 h2 h3.2)
end
section
variable {M:Model}{A:Around}{E:Value→Shared→Prop}{s:Shared}
theorem gH {i:Int}{t:Tok}{Q:Int→Shared→Prop}(h0:0≤i)(h1:i≤1048576)(h:Q i s):wpAny M A (reSsize (.int i t)) Q E s:=by
 unfold reSsize
 refine wpAny_bind (wpAny_of_eq (a:=i) rfl ?_)
 have e:(decide (i < -(2 ^ 63))||decide (i ≥ 2 ^ 63))=false:=by rw[decide_eq_false (by omega),decide_eq_false (by omega)];rfl
 show wpAny M A (if (decide (i < -(2 ^ 63))||decide (i ≥ 2 ^ 63))=true then _ else _) Q E s
 rw[e,if_neg (by decide)]
 exact wpAny_pure h
structure PatAt (h:Heap)(m pat:Addr)(code:Array Nat):Prop where
 fn:h.get? m=some (j7 mId pat)
 ob:∃pv fv tup ep,h.get? pat=some (xx pv fv tup)∧h.get? tup=some (bc "tuple" (code.toList.map fun (w:Nat)=>rawInt w) ep)
theorem rp (code:Array Nat):(((code.toList.map fun (w:Nat)=>rawInt w).toArray).map reRawOf).map (·.toNat)=code:=by
 apply Array.ext
 ·simp
 ·intro i h1 h2;simp[rawInt,reRawOf]
theorem ge {m pat:Addr}{code:Array Nat}(P:PatAt s.heap m pat code){x:Str}{t:Tok}{pos lim:Int}{Q:ReTarget→Shared→Prop}
  (h:Q {pattern:=.ref pat,string:=.str x t,code,text:=x.cps,kind:=0,groups:=0,pos:=min pos.toNat x.cps.size,lim:=min lim.toNat x.cps.size} s) :
  wpAny M A (do
   let fs ←fieldsOf (.ref pat)
   let (text,kind) ←reTextOf (.str x t)
   let gc:=reRawNat (fs.getD 6 .none)
   if gc==0&&kind==1 then raiseError "TypeError" "cannot use a string pattern on a bytes-like object"
   if gc==1&&kind==0 then raiseError "TypeError" "cannot use a bytes pattern on a string-like object"
   reNoCollectionInside (.str x t) kind
   let clip (i:Int):Nat:=min i.toNat text.size
   pure {pattern:=.ref pat,string:=.str x t,code:=(←reRawItems (fs.getD 5 .none)).map (·.toNat),text,kind,groups:=reRawNat (fs.getD 2 .none),pos:=clip pos,lim:=clip lim:ReTarget}) Q E s:=by
 obtain⟨pv,fv,tup,ep,h1,h2⟩:=P.ob
 refine wpAny_bind (wpAny_fieldsOf h1 rfl ?_)
 refine wpAny_bind (wpAny_of_eq (a:=(x.cps,0)) rfl ?_)
 refine wpAny_bind (wpAny_of_eq (a:=()) rfl ?_)
 refine wpAny_bind ?_
 show wpAny M A (seqItems? (.ref tup)>>=fun o=>pure ((o.getD #[]).map reRawOf)) _ E s
 refine wpAny_bind (wpAny_seqItems h2 rfl (wpAny_pure ?_))
 show wpAny M A (pure {pattern:=.ref pat,string:=.str x t,code:=(((code.toList.map fun (w:Nat)=>rawInt w).toArray).map reRawOf).map (·.toNat),text:=x.cps,kind:=0,groups:=0,pos:=min pos.toNat x.cps.size,lim:=min lim.toNat x.cps.size:ReTarget}) Q E s
 rw[rp]
 exact wpAny_pure h
theorem tK {m pat:Addr}{code:Array Nat}(P:PatAt s.heap m pat code){x:Str}{t tp:Tok}{pos:Int}(h0:0≤pos)(h1:pos≤1048576)(hx:x.cps.size≤1048576){Q:ReTarget→Shared→Prop}
  (h:Q {pattern:=.ref pat,string:=.str x t,code,text:=x.cps,kind:=0,groups:=0,pos:=min pos.toNat x.cps.size,lim:=x.cps.size} s) :
  wpAny M A (reTarget mId "match" ⟨[.ref pat,.str x t,.int pos tp],[]⟩) Q E s:=by
 unfold reTarget
 refine wpAny_bind (wpAny_of_eq (wW _ _) ?_)
 refine wpAny_bind (gH h0 h1 ?_)
 refine wpAny_bind (wpAny_of_eq (a:=(2 ^ 63-1:Int)) rfl ?_)
 refine ge P ?_
 have e:min ((2 ^ 63-1:Int)).toNat x.cps.size=x.cps.size:=by
  have:((2 ^ 63-1:Int)).toNat=9223372036854775807:=by decide
  rw[this];exact Om.o170 hx
 rw[e];exact h
theorem uI {m pat:Addr}{code:Array Nat}(P:PatAt s.heap m pat code){x:Str}{t tp tq:Tok}{pos lim:Int}(h0:0≤pos)(h1:pos≤1048576)(h2:0≤lim)(h3:lim≤1048576){Q:ReTarget→Shared→Prop}
  (h:Q {pattern:=.ref pat,string:=.str x t,code,text:=x.cps,kind:=0,groups:=0,pos:=min pos.toNat x.cps.size,lim:=min lim.toNat x.cps.size} s) :
  wpAny M A (reTarget mId "match" ⟨[.ref pat,.str x t,.int pos tp,.int lim tq],[]⟩) Q E s:=by
 unfold reTarget
 refine wpAny_bind (wpAny_of_eq (wq _ _ _) ?_)
 refine wpAny_bind (gH h0 h1 ?_)
 refine wpAny_bind (gH h2 h3 ?_)
 exact ge P h
def zj (s:Shared)(sv:Value)(pat:Addr)(pos lim:Nat)(Q:Value→Shared→Prop):Option Nat→Prop
 |none=>Q .none s
 |some e=>Q (.ref (s.heap.objs.size+1)) {s with heap:=(s.heap.push (bc "tuple" [rawInt pos,rawInt e] 0)).push (wH sv pat pos lim s.heap.objs.size)}
theorem kI {code text:Array Nat}{pos lim:Nat}(h:(Sre.header code).1≤lim-pos):∃se,Sre.forMatch code text 0 pos lim false false=Re.mk ⟨code,text,lim,pos⟩ (Re.start (Sre.header code).2 pos) se:=by
 unfold Sre.forMatch
 refine⟨if (Sre.header code).2==0 then {} else ({}:Sre.Seen).add 14,?_⟩
 rw[if_neg (by simp only[Bool.and_eq_true,decide_eq_true_eq,not_and];intro _ _;exact Om.o169 h ‹_›)]
 rfl
theorem gz {code text:Array Nat}{pos lim:Nat}(hl:pos≤lim)(h:lim-pos<(Sre.header code).1):∃se,Sre.forMatch code text 0 pos lim false false=Re.mk ⟨code,text,lim,pos⟩ {Re.start (Sre.header code).2 pos with answer:=some false} se:=by
 unfold Sre.forMatch
 refine⟨if (Sre.header code).2==0 then {} else ({}:Sre.Seen).add 14,?_⟩
 rw[if_pos (by simp only[Bool.and_eq_true,decide_eq_true_eq,bne_iff_ne];exact Om.o168 hl h)]
 rfl
theorem oY {code text:Array Nat}{pos lim N:Nat}{sv:Value}{pat:Addr}{r:Option Nat}(hl:pos≤lim)(hN:N<2 ^ 60)(hN1:1≤N)(hr:Re.Ends ⟨code,text,lim,pos⟩ r N (Re.start (Sre.header code).2 pos)∧(Sre.header code).1≤lim-pos∨r=none∧lim-pos<(Sre.header code).1){Q:Fin→Shared→Prop}
  (h:zj s sv pat pos lim (fun v s=>Q (.done (.ret v)) s) r) :
  wpAny M A (reAnswer {pattern:=.ref pat,string:=sv,code,text,kind:=0,groups:=0,pos,lim} (Sre.forMatch code text 0 pos lim false false)) Q E s:=by
 have go:∀{a se},Re.Ends ⟨code,text,lim,pos⟩ r N a→wpAny M A (reAnswer {pattern:=.ref pat,string:=sv,code,text,kind:=0,groups:=0,pos,lim} (Re.mk ⟨code,text,lim,pos⟩ a se)) Q E s:=by
  intro a se he
  unfold reAnswer
  refine wpAny_bind (tX he hN ?_)
  cases r with
  |none=>exact wpAny_pure h
  |some e=>
   intro m h1 h2 h3
   refine wpAny_bind ?_
   unfold reNewMatch
   refine wpAny_bind (wpAny_newTuple ?_ ?_)
   ·rw[h1,h3]
    refine wpAny_newObj_type ?_ (by show (6:Nat)≤sizeLine+2;rw[sizeLine_eq];decide)
    show wpAny M A (ret (.ref (s.heap.push _).objs.size)) Q E _
    rw[Heap.size_push,h2]
    exact wpAny_pure h
   ·show (2:Nat)≤sizeLine;rw[sizeLine_eq];decide
 rcases hr with ⟨he,h1⟩|⟨rfl,h1⟩
 ·obtain⟨se,e⟩:=kI (text:=text) h1
  rw[e];exact go he
 ·obtain⟨se,e⟩:=gz (text:=text) hl h1
  rw[e];exact go (Re.Ends.mono Re.fin_no hN1)
end
section
variable {prog:Program}{w:World}{A:Around}{E:Value→Shared→Prop}{s:Shared}{m pat:Addr}{code:Array Nat}
theorem mP {pv fv:Value}{tup:Addr}(hG:s.heap.get? pat=some (xx pv fv tup)){Q:Bool→Shared→Prop}(h:Q false s):wpAny (model prog w) A (isType (.ref pat)) Q E s:=by
 have hT:s.TypeIs (.ref pat) "re.Pattern":=⟨_,hG,rfl⟩
 unfold isType
 repeat (any_goals (first|assumption|wp_step))
theorem kD {args:List Value}(hG:∃pv fv tup,s.heap.get? pat=some (xx pv fv tup)){Q:Unit→Shared→Prop}
  (ht:(match Manifest.signature? mId with|some sig=>Bind.checkArgs mId {sig with full:=toString (Bind.lastOf "re.Pattern")++toString "."++toString (Bind.lastOf mId)} ⟨.ref pat::args,[]⟩|none=>pure ())=pure ()) (h:Q () s) :
  wpAny (model prog w) A (checkBoundCall mId ⟨.ref pat::args,[]⟩) Q E s:=by
 obtain⟨pv,fv,tup,hG⟩:=hG
 have hT:s.TypeIs (.ref pat) "re.Pattern":=⟨_,hG,rfl⟩
 unfold checkBoundCall
 cases hsig:Manifest.signature? mId with
 |none=>exact wpAny_pure h
 |some sig=>
  rw[hsig] at ht
  simp only[mz]
  rw[if_neg (by decide)]
  refine wpAny_bind (wpAny_isInstance hT ow ?_)
  rw[if_neg (by decide +kernel)]
  refine wpAny_bind (mP hG ?_)
  rw[if_neg (by decide)]
  refine wpAny_bind (wpAny_typeOf hT ?_)
  exact wpAny_of_eq ht h
end
section
variable {prog:Program}{w:World}{A:Around}{s:Shared}{m pat:Addr}{code:Array Nat}
theorem kE {args:List Value}(P:PatAt s.heap m pat code){R:Result→Shared→Prop}
  (ht:(match Manifest.signature? mId with|some sig=>Bind.checkArgs mId {sig with full:=toString (Bind.lastOf "re.Pattern")++toString "."++toString (Bind.lastOf mId)} ⟨.ref pat::args,[]⟩|none=>pure ())=pure ())
  (h:∀(A':Around) (E:Value→Shared→Prop),wpAny (model prog w) A' (Builtin.«re.Pattern.match» ⟨.ref pat::args,[]⟩) (fun f s'=>∃v,f=.done (.ret v)∧R (.ok (.ret v)) s') E s):codeAny (model prog w) A (.call (.ref m) ⟨args,[]⟩) R s:=by
 refine codeAny_of_tree ?_
 refine wpAny_bind (wpAny_load P.fn ?_)
 show wpAny _ A.in1 (if (Value.type "builtin_function_or_method" != Value.type "method")=true then (do checkBoundCall mId ⟨.ref pat::args,[]⟩;again (.builtin mId ⟨.ref pat::args,[]⟩)) else _) _ _ _
 rw[if_pos (by decide)]
 refine ay fun G9 back9=>?_;obtain⟨pv,fv,tup,ep,h1,h2⟩:=P.ob;refine back9 ?_
 refine wpAny_bind (kD ⟨_,_,_,h1⟩ ht (wpAny_pure ?_))
 refine⟨Code.quiet_builtin _ (by decide +kernel),?_⟩
 refine codeAny_builtin kK ?_
 refine wpAny_mono (h _ _) (fun f s' hf=>?_) (fun _ _ x=>x)
 obtain⟨v,rfl,hv⟩:=hf
 exact hv
end
noncomputable def aP (code:Array Nat):Spec:=fun vs c K=>∃(x:Str) (p q:Nat) (r:Option Nat) (N:Nat),
 (vs=[.d (.str x),.d (.int p)]∧q=x.length∨vs=[.d (.str x),.d (.int p),.d (.int q)])∧p≤q∧q≤x.length∧x.length≤big∧(1≤N∧N<2 ^ 60)∧
 (Re.Ends ⟨code,x.cps,q,p⟩ r N (Re.start (Sre.header code).2 p)∧(Sre.header code).1≤q-p∨r=none∧q-p<(Sre.header code).1)∧
 match r with
 |some e=>K (.mt e) c
 |none=>K (.d .none) c
theorem dg {M:Model}{h:Heap}{m pat:Addr}{code:Array Nat}(P:PatAt h m pat code):∃k,Looks M h (keeperOf (.ref m)) k:=by
 refine⟨.machine,fun A Q E s k q=>?_⟩
 unfold keeperOf
 refine wpAny_bind (wpAny_load (k _ _ P.fn) ?_)
 exact wpAny_pure q
theorem PatAt.keeps {h h':Heap}{m pat:Addr}{code:Array Nat}(P:PatAt h m pat code)(k:∀b o,h.get? b=some o→h'.get? b=some o):PatAt h' m pat code:=by
 obtain⟨pv,fv,tup,ep,h1,h2⟩:=P.ob
 exact⟨k _ _ P.fn,pv,fv,tup,ep,k _ _ h1,k _ _ h2⟩
theorem jc {prog:Program}{w:World}{hb:Heap}{d:Nat}{m pat:Addr}{code:Array Nat}(P:PatAt hb m pat code):FnOk prog w hb d m (aP code):=by
 intro A _ vs ws c α s K R hs C iv hsp hq
 obtain⟨x,p,q,r,N,hv,hpq,hql,hxl,⟨hN1,hN⟩,he,hK⟩:=hsp
 have P':=P.keeps C.base
 have hxs:x.cps.size=x.length:=rfl
 unfold big at hxl
 have fin:∀{t:Tok} {A':Around} {E:Value→Shared→Prop},wpAny (model prog w) A' (reAnswer {pattern:=.ref pat,string:=.str x t,code,text:=x.cps,kind:=0,groups:=0,pos:=p,lim:=q} (Sre.forMatch code x.cps 0 p q false false)) (fun f s'=>∃v,f=.done (.ret v)∧R (.ok (.ret v)) s') E s:=by
  intro t A' E
  refine oY hpq hN hN1 he ?_
  cases r with
  |none=>exact⟨_,rfl,hq _ c α _ s.heap s.toks hK C (Le.refl ..) .none⟩
  |some e=>
   refine⟨_,rfl,?_⟩
   have hk:∀b o,s.heap.get? b=some o→((s.heap.push (bc "tuple" [rawInt p,rawInt e] 0)).push (wH (.str x t) pat p q s.heap.objs.size)).get? b=some o:=fun b o g=>Heap.get?_push_of_some _ (Heap.get?_push_of_some _ g)
   obtain⟨C',L'⟩:=C.keeps hk
   refine hq _ c α _ _ s.toks hK C' L' ⟨_,rfl,⟨⟨#[.str x t,.ref pat,.int p 0,.int q 0,.int (-1) 0,.ref s.heap.objs.size],s.heap.objs.size,p,0,?_,rfl,Heap.get?_push_of_some _ (Heap.get?_push_size _ rfl),a9 C⟩,?_⟩⟩
   ·have:=Heap.get?_push_size (s.heap.push (bc "tuple" [rawInt p,rawInt e] 0)) (o:=wH (.str x t) pat p q s.heap.objs.size) rfl
    rw[Heap.size_push] at this;exact this
   ·rintro⟨k,hk,e⟩
    obtain⟨q,g⟩:=C.ex hk
    rw[e] at g
    exact absurd (Heap.lt_size g) (by show ¬s.heap.objs.size+1<s.heap.objs.size;exact Om.o177)
 rcases hv with ⟨rfl,rfl⟩|rfl
 ·refine ay fun G9 back9=>?_;obtain⟨v,v',rfl,i,j⟩:=iv.two;refine back9 ?_
  cases i;cases j
  refine kE P' (kX _ _ _) fun A' E=>?_
  unfold Builtin.«re.Pattern.match»
  refine wpAny_bind (tK P' (by exact Om.o72) (by exact Om.o176 hxl hpq) (by exact Om.o175 hxl) ?_)
  rw[show min ((p:Int)).toNat x.cps.size=p by exact Om.o171 hpq]
  exact fin
 ·obtain⟨u,us,rfl,i1,ir⟩:=iv.uncons
  obtain⟨v,v',rfl,i2,i3⟩:=ir.two
  cases i1;cases i2;cases i3
  refine kE P' (kS _ _ _ _) fun A' E=>?_
  unfold Builtin.«re.Pattern.match»
  refine wpAny_bind (uI P' (by exact Om.o72) (by exact Om.o174 hpq hql hxl) (by exact Om.o72) (by exact Om.o173 hql hxl) ?_)
  simp only[show min ((p:Int)).toNat x.cps.size=p by exact Om.o172 hpq hql,show min ((q:Int)).toNat x.cps.size=q by exact Om.o171 hql]
  exact fin
end Mine
end
section
namespace Mine
open PySem PyProof.Rows PySem.W
noncomputable def fB:List IS:=[.asg 4 (.bin .Add (.meth (.v 1) .rfind [(.c (.str ⟨#[10]⟩)),(.c (.int 0)),(.bin .Sub (.v 4) (.c (.int 1)))]) (.c (.int 1)))]
noncomputable def wC:IS:=.for_ 6 (.call (.g (.bi .range)) [(.item (.v 2) (.bin .Sub (.v 3) (.c (.int 1)))),(.item (.v 2) (.v 3))] none) fB
noncomputable def l1B (jr:Addr):List IS:=[.assert (.v 4),.asg 5 (.v 4),wC,
 .if_ (.call (.g (.val (.ref jr))) [(.v 1),(.v 4)] none) [.asg 3 (.bin .Sub (.v 3) (.c (.int 1)))] [.brk]]
noncomputable abbrev S1 (k:Nat) (x:Str) (gl:List Nat) (i p q nn:Option V):Sl:=[some (.obj k),some (.d (.str x)),some (.d (.lst (aQ gl))),i,p,q,nn,none,none,none,none,none,none,none]
noncomputable abbrev I_ (i:Nat):Option V:=some (.d (.int (i:Nat)))
noncomputable def bf (x:Str)(gl:List Nat):Nat→Nat×Nat
 |0=>(0,0)
 |i+1=>if Re.junkB ((sg x).drop (am (sg x) (gl.getD i 0)))=true then bf x gl i else (am (sg x) (gl.getD i 0),am (sg x) (gl.getD (i+1) 0))
section
variable {P:Pm}{pr:List Nat}{k:Nat}{x:Str}{gl:List Nat}{c:aa}
theorem uZ (hk:k∈dom c)(hc:bY c c c)(hp:∀j∈pr,j∈dom c){i p:Nat}{q q' nn nn':Option V}(hq:q'=none∨∃d,q=some (.d d)∧q'=q)(hn:nn'=none∨∃d,nn=some (.d d)∧nn'=nn) :
  Wk pr ⟨S1 k x gl (I_ i) (I_ p) q nn,c⟩ ⟨S1 k x gl (I_ i) (I_ p) q' nn',c⟩:=by
 refine⟨?_,rfl,hc,hp⟩
 refine⟨⟨_,rfl,.inl ⟨rfl,hk⟩⟩,⟨_,rfl,vD _ _ _⟩,⟨_,rfl,vD _ _ _⟩,⟨_,rfl,vD _ _ _⟩,⟨_,rfl,vD _ _ _⟩,?_⟩
 have tl:slW (S1 k x gl (I_ i) (I_ p) q nn) c c 7 [none,none,none,none,none,none,none]:=trivial
 have tn:slW (S1 k x gl (I_ i) (I_ p) q nn) c c 6 (nn'::[none,none,none,none,none,none,none]):=by
  rcases hn with rfl|⟨d,e,rfl⟩
  ·exact tl
  ·rw[e];exact⟨⟨_,e▸rfl,vD _ _ _⟩,tl⟩
 rcases hq with rfl|⟨d,e,rfl⟩
 ·exact tn
 ·rw[e];rw[e] at tn;exact⟨⟨_,rfl,vD _ _ _⟩,tn⟩
theorem lF {l:List Nat}{i a:Nat}(h:l[i]?=some a):(aQ l)[i]?=some (.int (a:Nat)):=by simp[aQ,h]
theorem s4 {a b j:Nat}{d:D}(h:(bR (a:Int) (b:Int))[j]?=some d):a+j<b:=by
 unfold bR at h
 have:=(List.getElem?_eq_some_iff.mp h).1
 simp at this;exact Om.o194 this
theorem uP (a b:Nat):(bR (a:Int) (b:Int)).length=b-a:=by simp[bR]
theorem eM {n:Nat}{f e1 e2:IE}{kk:Option Nat}{l:Sl}{u v1 v2:V}{K:V→aa→Prop}(hf:∀K':V→aa→Prop,K' u c→wpE P (n+3) f l c K')(h1:∀K':V→aa→Prop,K' v1 c→wpE P (n+2) e1 l c K')(h2:∀K':V→aa→Prop,K' v2 c→wpE P (n+1) e2 l c K')
  (h:eg P c kk u [v1,v2] K):wpE P (n+4) (.call f [e1,e2] kk) l c K:=by
 rw[gh]
 refine hf _ ?_
 rw[bd]
 refine h1 _ ?_
 rw[bd]
 refine h2 _ ?_
 exact h
theorem iA {i a:Nat}(h:gl[i]?=some a)(hl:gl.length≤big){K:D→Prop}(hK:K (.int (a:Nat))):ef c (.d (.lst (aQ gl))) (.d (.int (i:Nat))) K:=by
 have hi:=(List.getElem?_eq_some_iff.mp h).1
 have hl':(aQ gl).length=gl.length:=by simp[aQ]
 refine⟨by rw[hl'];exact hl,i,.int (a:Nat),?_,lF h,hK⟩
 rw[hl']
 unfold seqIndex?
 have h1:¬((i:Int)<0):=by exact Om.o17
 simp only[h1,if_false]
 rw[decide_eq_true (by exact Om.o72),decide_eq_true (by exact Om.o53 hi)]
 simp
theorem qI (hk:k∈dom c)(hc:bY c c c)(hp:∀j∈pr,j∈dom c)(T:TextOk x){n i a b:Nat}(ha:gl[i]?=some a)(hb:gl[i+1]?=some b)(hab:a<b)(hbn:b≤nls (sg x))(hgl:gl.length≤big){K:F→Sg'→Prop}
  (h:∀nn,(nn=none∨∃d,nn=some (.d d))→K .next ⟨S1 k x gl (I_ (i+1)) (I_ (am (sg x) a)) (I_ (am (sg x) b)) nn,c⟩) {nn:Option V} (hnn:nn=none∨∃d,nn=some (.d d)) :
  wpS P pr (n+20) wC ⟨S1 k x gl (I_ (i+1)) (I_ (am (sg x) b)) (I_ (am (sg x) b)) nn,c⟩ K:=by
 have hbx:b≤big:=by
  have h1:=e7 (sg x) (m:=b-1) (n:=b) (by exact Om.o105 hab) hbn
  have h2:∀m,m≤nls (sg x)→m≤am (sg x) m:=by
   intro m
   induction m with
   |zero=>intro _;exact Nat.zero_le _
   |succ m ih=>intro hm;have:=e7 (sg x) (m:=m) (n:=m+1) (by exact Om.o43) hm;have:=ih (by exact Om.o73 hm);exact Om.o193 ‹_› this
  have h3:=h2 b hbn
  have h4:=iB (sg x) b hbn
  have:=T.len
  exact Om.o192 h3 h4 this
 have hlx:=T.len
 have hle:am (sg x) b≤(sg x).length:=iB (sg x) b hbn
 have hsl:=aD x
 unfold wC
 rw[m5]
 refine eM (n:=n+15) (u:=.bi .range) (v1:=.d (.int (a:Nat))) (v2:=.d (.int (b:Nat))) (fun K' h=>h) (fun K' h=>?_) (fun K' h=>?_) ?_
 ·refine bL (n:=n+16) (.d (.lst (aQ gl))) (.d (.int (i:Nat))) (fun K' h=>h) (fun K' h=>?_) (iA ha hgl h)
  have e:(((i+1:Nat):Int)-1)=(i:Nat):=by exact Om.o88
  show K' (.d (.int (((i+1:Nat):Int)-1))) c
  rw[e];exact h
 ·exact bL (n:=n+15) (.d (.lst (aQ gl))) (.d (.int ((i+1:Nat)))) (fun K' h=>h) (fun K' h=>h) (iA hb hgl h)
 unfold big at hbx
 refine⟨⟨by exact Om.o190,by exact Om.o191 hab hbx,by exact Om.o190,by exact Om.o189 hbx⟩,bR (a:Int) (b:Int),rfl,fun j τ=>∃nn,(nn=none∨∃d,nn=some (.d d))∧j≤b-a∧τ=⟨S1 k x gl (I_ (i+1)) (I_ (am (sg x) (b-j))) (I_ (am (sg x) b)) nn,c⟩,⟨nn,hnn,Nat.zero_le _,rfl⟩,?_,?_⟩
 ·rintro j d τ hd ⟨nn,hn,hj,rfl⟩
  have hj':=s4 hd
  have hm:b-j-1<nls (sg x):=by exact Om.o188 hbn hj'
  have bk:=ya (x:=x) hm
  rw[show b-j-1+1=b-j by exact Om.o187 hj'] at bk
  have hpos:0<am (sg x) (b-j):=by have:=e7 (sg x) (m:=0) (n:=b-j) (by exact Om.o186 hj') (by exact Om.o185 hbn);rw[ca] at this;exact this
  have hle':am (sg x) (b-j)≤(sg x).length:=iB (sg x) (b-j) (by exact Om.o185 hbn)
  refine⟨by show 6<14;exact Om.o184,?_⟩
  unfold fB
  refine av (n:=n+17) (.d (.int ((am (sg x) (b-(j+1)):Nat)))) (fun K' h=>?_) ?_
  ·refine⟨rfl,rfl,⟨by decide,?_,?_⟩,?_⟩
   ·show (0:Int)≤((am (sg x) (b-j):Nat):Int)-1;exact Om.o183 hpos
   ·show ((am (sg x) (b-j):Nat):Int)-1≤((x.length:Nat):Int);exact Om.o182 hle'
   ·show K' (.d (.int (cP x ⟨#[10]⟩ (0:Int).toNat (((am (sg x) (b-j):Nat):Int)-1).toNat+1))) c
    rw[show (((am (sg x) (b-j):Nat):Int)-1).toNat=am (sg x) (b-j)-1 by exact Om.o181,show (0:Int).toNat=0 from rfl,bk,show b-j-1=b-(j+1) by exact Om.o180]
    exact h
  ·refine aA ⟨_,uZ hk hc hp (.inr ⟨_,rfl,rfl⟩) (.inr ⟨d,rfl,rfl⟩),some (.d d),.inr ⟨d,rfl⟩,by exact Om.o179 hj',rfl⟩
 ·rintro τ ⟨nn,hn,hj,rfl⟩
  rw[uP,show b-(b-a)=a by exact Om.o178 hab]
  exact h nn hn
end
theorem nK (x:Str){p q st:Nat}{code:Array Nat}(hpq:p≤q)(hq:q≤x.length):Re.At ⟨code,x.cps,q,st⟩ p (((sg x).take q).drop p):=by
 have hl:=aD x
 refine⟨by show p+(((sg x).take q).drop p).length=q;rw[List.length_drop,List.length_take];exact Om.o203 hpq hq,fun i c h=>?_⟩
 rw[List.getElem?_drop,List.getElem?_take] at h
 split at h
 ·have h':x.cps[p+i]?=some c:=by rw[←Array.getElem?_toList];exact h
  show x.cps.getD (p+i) 0=c
  rw[Array.getD_eq_getD_getElem?,h'];rfl
 ·contradiction
theorem jd {x:Str}(T:TextOk x)(p q:Nat):Re.Low (((sg x).take q).drop p):=fun c hc=>T.ascii c (List.mem_of_mem_take (List.mem_of_mem_drop hc))
section
variable {P:Pm}{pr:List Nat}{k:Nat}{x:Str}{gl:List Nat}{c:aa}
theorem tu (T:TextOk x){p:Nat}(hp:p<x.length):10∈(sg x).drop p:=by
 have hl:=aD x
 rcases T.ends with h|h
 ·rw[h] at hl;simp at hl;exact (Om.o202 hp hl).elim
 ·rw[List.getLast?_eq_getElem?] at h
  have:((sg x).drop p)[(sg x).length-1-p]?=some 10:=by rw[List.getElem?_drop,show p+((sg x).length-1-p)=(sg x).length-1 by exact Om.o201 hp];exact h
  exact List.mem_of_getElem? this
theorem oc {jr:Addr}(T:TextOk x)(hj:P.isFn jr=true)(hjf:P.fn jr=aP Re.junkC){p n:Nat}(hp:p<x.length){l:Sl}(h1:aM l 1=some (.d (.str x)))(h4:aM l 4=some (.d (.int (p:Nat))))(K':Bool→aa→Prop)(h:K' (Re.junkB ((sg x).drop p)) c) :
  wpT P (n+5) (.call (.g (.val (.ref jr))) [(.v 1),(.v 4)] none) l c K':=by
 have hl:=aD x
 have hT:=T.len
 have hb:x.length≤big:=by exact Om.o63 hT
 have e:((sg x).take x.length).drop p=(sg x).drop p:=by rw[←hl,List.take_length]
 have hA:=nK x (p:=p) (q:=x.length) (st:=p) (code:=Re.junkC) (by exact Om.o58 hp) (Nat.le_refl _)
 rw[e] at hA
 have hlow:Re.Low ((sg x).drop p):=e▸jd T p x.length
 have hlen:((sg x).drop p).length≤1048576:=by rw[List.length_drop];unfold big at hT;exact Om.o200 hT
 obtain⟨r,hr,he⟩:=Re.junk_ok (text:=x.cps) (lim:=x.length) (st:=p) hA hlow (by exact Om.o199 hlen) (tu T hp)
 show wpE P (n+4) (.call (.g (.val (.ref jr))) [(.v 1),(.v 4)] none) l c (fun u c1=>bJ c1 u fun r=>K' r c1)
 refine eM (n:=n) (u:=.val (.ref jr)) (v1:=.d (.str x)) (v2:=.d (.int (p:Nat))) (fun K' h=>h) (bD h1) (bD h4) ?_
 refine⟨hj,?_⟩
 rw[hjf]
 refine⟨x,p,x.length,r,_,.inl ⟨rfl,rfl⟩,by exact Om.o58 hp,Nat.le_refl _,hb,⟨?_,?_⟩,.inl ⟨he,by show 1≤x.length-p;exact Om.o198 hp⟩,?_⟩
 ·exact Om.o197
 ·omega
 ·cases r with
  |none=>exact⟨fun _ q=>q,by rw[←hr] at h;exact h⟩
  |some e=>exact⟨fun _ q=>q,by rw[←hr] at h;exact h⟩
theorem rX {jr:Addr}(T:TextOk x)(G:GoodOk x gl)(hgl:gl.length≤big)(hj:P.isFn jr=true)(hjf:P.fn jr=aP Re.junkC)(hk:k∈dom c)(hc:bY c c c)(hp:∀j∈pr,j∈dom c){n:Nat}{K:F→Sg'→Prop}
  (h0:bf x gl (gl.length-1)=(0,0)→K .next ⟨S1 k x gl (I_ 0) (I_ 0) none none,c⟩)
  (h1:∀i a b nn,(nn=none∨∃d,nn=some (.d d))→gl[i]?=some a→gl[i+1]?=some b→bf x gl (gl.length-1)=(am (sg x) a,am (sg x) b)→K .next ⟨S1 k x gl (I_ (i+1)) (I_ (am (sg x) a)) (I_ (am (sg x) b)) nn,c⟩) :
  wpS P pr (n+30) (.while_ (.v 3) (l1B jr) []) ⟨S1 k x gl (I_ (gl.length-1)) (I_ x.length) none none,c⟩ K:=by
 have hlx:=aD x
 have hlast:=G.last
 rw[List.getLast?_eq_getElem?] at hlast
 refine⟨fun k' τ=>∃i g,k'=i∧gl[i]?=some g∧bf x gl i=bf x gl (gl.length-1)∧τ=⟨S1 k x gl (I_ i) (I_ (am (sg x) g)) none none,c⟩,gl.length-1,⟨_,_,rfl,hlast,rfl,by rw[mN (sg x) T.ends,hlx]⟩,?_⟩
 rintro i τ ⟨_,g,rfl,hg,hst,rfl⟩
 show ((((i:Nat):Int) != 0)=true→_)∧((((i:Nat):Int) != 0)=false→_)
 refine⟨fun hne=>?_,fun he=>?_⟩
 ·cases i with
  |zero=>contradiction
  |succ i=>
   have hi1:=(List.getElem?_eq_some_iff.mp hg).1
   obtain⟨a,ha⟩:∃a,gl[i]?=some a:=⟨_,List.getElem?_eq_getElem (by exact Om.o120 hi1)⟩
   obtain⟨hab,hbn⟩:=G.at_ ha hg
   have hpos:am (sg x) a<am (sg x) g:=e7 (sg x) hab hbn
   have hle:=iB (sg x) g hbn
   unfold l1B
   refine b6 (n:=n+27) (c':=c) (fun K' h=>?_) ?_
   ·show K' (((am (sg x) g:Nat):Int) != 0) c
    rw[show ((((am (sg x) g:Nat):Int) != 0)=true) from bne_iff_ne.mpr (by exact Om.o196 hpos)];exact h
   refine av (n:=n+26) (.d (.int ((am (sg x) g:Nat)))) (fun K' h=>h) ?_
   refine dn (n:=n+26) (qI (n:=n+6) hk hc hp T ha hg hab hbn hgl (fun nn hnn=>?_) (.inl rfl))
   have jk:bf x gl (i+1)=if Re.junkB ((sg x).drop (am (sg x) a))=true then bf x gl i else (am (sg x) a,am (sg x) g):=by
    rw[bf,List.getD_eq_getElem?_getD,List.getD_eq_getElem?_getD,ha,hg];rfl
   refine bw (n:=n+24) (Re.junkB ((sg x).drop (am (sg x) a))) (c':=c) (fun K' h=>oc (n:=n+19) T hj hjf (by exact Om.o195 hpos hle) rfl rfl K' h) ?_
   cases hq:Re.junkB ((sg x).drop (am (sg x) a)) with
   |true=>
    rw[hq,if_pos rfl] at jk
    refine av (n:=n+22) (.d (.int ((i:Nat)))) (fun K' h=>?_) (aA (aA ⟨i,_,Nat.lt_succ_self _,uZ (i:=i) hk hc hp (.inl rfl) (.inl rfl),i,a,rfl,ha,jk▸hst,rfl⟩))
    have e:(((i+1:Nat):Int)-1)=(i:Nat):=by exact Om.o88
    show K' (.d (.int (((i+1:Nat):Int)-1))) c
    rw[e];exact h
   |false=>
    rw[hq,if_neg (by decide)] at jk
    exact h1 i a g nn hnn ha hg (by rw[←hst,jk])
 ·have hi0:i=0:=by
   have:((i:Nat):Int)=0:=by simpa using he
   exact Om.o49 this
  subst hi0
  have:g=0:=by
   have h2:=G.hd
   rw[List.head?_eq_getElem?,hg] at h2
   cases h2;rfl
  subst this
  rw[ca]
  exact aA (h0 (by rw[←hst];rfl))
end
end Mine
end
section
namespace Mine
namespace Re
open PySem PySem.Sre
noncomputable def strC:Array Nat:=#[14,9,4,1,4294967295,16,34,16,39,0,7,72,16,34,16,34,16,34,24,12,0,4294967295,13,7,21,16,34,16,92,0,1,23,37,0,4294967295,7,6,16,92,3,15,15,13,16,34,5,7,0,16,34,16,34,1,15,2,0,24,12,0,4294967295,13,7,21,16,34,16,92,0,1,18,23,9,0,1,16,34,16,34,16,34,18,15,186,56,16,34,24,17,0,4294967295,13,12,21,9,1024,4,268435456,0,0,0,0,0,0,1,23,24,0,4294967295,16,92,3,24,17,0,4294967295,13,12,21,9,1024,4,268435456,0,0,0,0,0,0,1,18,24,6,0,1,16,34,1,15,130,72,16,39,16,39,16,39,24,12,0,4294967295,13,7,21,16,39,16,92,0,1,23,37,0,4294967295,7,6,16,92,3,15,15,13,16,39,5,7,0,16,39,16,39,1,15,2,0,24,12,0,4294967295,13,7,21,16,39,16,92,0,1,18,23,9,0,1,16,39,16,39,16,39,18,15,58,56,16,39,24,17,0,4294967295,13,12,21,9,1024,128,268435456,0,0,0,0,0,0,1,23,24,0,4294967295,16,92,3,24,17,0,4294967295,13,12,21,9,1024,128,268435456,0,0,0,0,0,0,1,18,24,6,0,1,16,39,1,15,2,0,1]
noncomputable def qt (b:Bool):Nat:=if b then 39 else 34
noncomputable def of (b:Bool):Nat:=if b then 128 else 0
noncomputable def f3 (q c:Nat):Bool:=c != q&&c != 92
noncomputable def f1 (q c:Nat):Bool:=c != q&&c != 92&&c != 10
noncomputable def sEnd3 (q:Nat):List Nat→Nat
 | []=>0
 | [c]=>if c=92 then 0 else 1
 |c::d::r=>if c=92 then 2+sEnd3 q r else if c=q∧d=q∧r.head?=some q then 3 else 1+sEnd3 q (d::r)
noncomputable def sEnd1 (q:Nat):List Nat→Nat
 | []=>0
 | [c]=>if c=92∨c=10 then 0 else 1
 |c::d::r=>if c=92 then 2+sEnd1 q r else if c=10 then 0 else if c=q then 1 else 1+sEnd1 q (d::r)
theorem fj (q:Nat):∀w:List Nat,sEnd3 q w=(w.takeWhile (f3 q)).length+sEnd3 q (w.dropWhile (f3 q))
 | []=>rfl
 | [c]=>by
  rw[List.takeWhile_cons,List.dropWhile_cons]
  cases h:f3 q c with
  |false=>simp
  |true=>
   have:c≠92:=by rintro rfl;simp[f3] at h
   simp[sEnd3,this]
 |c::d::r=>by
  rw[List.takeWhile_cons,List.dropWhile_cons]
  cases h:f3 q c with
  |false=>simp
  |true=>
   have h1:c≠92:=by rintro rfl;simp[f3] at h
   have h2:c≠q:=by rintro rfl;simp[f3] at h
   rw[if_pos rfl,if_pos rfl,sEnd3,if_neg h1,if_neg (fun e=>h2 e.1),fj q (d::r),List.length_cons];exact Om.o264
theorem fm (q:Nat):∀w:List Nat,sEnd1 q w=(w.takeWhile (f1 q)).length+sEnd1 q (w.dropWhile (f1 q))
 | []=>rfl
 | [c]=>by
  rw[List.takeWhile_cons,List.dropWhile_cons]
  cases h:f1 q c with
  |false=>simp
  |true=>
   have h1:c≠92:=by rintro rfl;simp[f1] at h
   have h2:c≠10:=by rintro rfl;simp[f1] at h
   simp[sEnd1,h1,h2]
 |c::d::r=>by
  rw[List.takeWhile_cons,List.dropWhile_cons]
  cases h:f1 q c with
  |false=>simp
  |true=>
   have h1:c≠92:=by rintro rfl;simp[f1] at h
   have h2:c≠q:=by rintro rfl;simp[f1] at h
   have h3:c≠10:=by rintro rfl;simp[f1] at h
   rw[if_pos rfl,if_pos rfl,sEnd1,if_neg h1,if_neg h3,if_neg h2,fm q (d::r),List.length_cons];exact Om.o264
theorem jj {code:Array Nat}{pc x:Nat}(ho:ops[code.getD pc 0]?=some .LITERAL)(hx:code.getD (pc+1) 0=x)(c:Nat):acc code pc c=some (c==x):=by
 unfold acc accepts;rw[ho,hx];rfl
theorem ug {code:Array Nat}{pc:Nat}(ho:ops[code.getD pc 0]?=some .ANY_ALL)(c:Nat):acc code pc c=some true:=by
 unfold acc accepts;simp only[ho];rfl
section
variable {z:Z}{r:Option Nat}{N pc pos h x:Nat}{om:Bool}{loops:Array Loop}{inner:Option Nat}{fs:List Fr}{w:List Nat}
theorem lw (ho:ops[z.code.getD pc 0]?=some .LITERAL):itemWidth z.code pc=2:=by unfold itemWidth;rw[ho]
theorem cq (ho:ops[z.code.getD pc 0]?=some .LITERAL)(hc:pc<z.code.size)(hx:z.code.getD (pc+1) 0=x)(hw:At z pos (x::w))(k:Ends z r N ⟨pc+2,pos+1,h,om,loops,inner,fs,none⟩):Ends z r (N+1) ⟨pc,pos,h,om,loops,inner,fs,none⟩:=
 iY ho rfl hc hw.lt (by simp only[hw.sign,jj ho hx,beq_self_eq_true]) (by rw[lw ho];exact k)
theorem dK (ho:ops[z.code.getD pc 0]?=some .LITERAL)(hc:pc<z.code.size)(hx:z.code.getD (pc+1) 0=x)(hw:At z pos w)(hno:∀s,w≠x::s)(k:No z r N loops inner fs):Ends z r (N+1) ⟨pc,pos,h,om,loops,inner,fs,none⟩:=by
 refine mi ho rfl hc (fun hp=>?_) (k _ _ _ _)
 cases w with
 |nil=>have:=hw.nil;exact (Om.o87 hp this).elim
 |cons c s=>
  rw[hw.sign,jj ho hx]
  cases q:(c==x) with
  |false=>rfl
  |true=>exact absurd (by rw[eq_of_beq q]) (hno s)
theorem yr {c:Nat}(ho:ops[z.code.getD pc 0]?=some .ANY_ALL)(hc:pc<z.code.size)(hw:At z pos (c::w))(k:Ends z r N ⟨pc+1,pos+1,h,om,loops,inner,fs,none⟩):Ends z r (N+1) ⟨pc,pos,h,om,loops,inner,fs,none⟩:=
 iY ho rfl hc hw.lt (ug ho _) (by rw[show itemWidth z.code pc=1 by unfold itemWidth;rw[ho]];exact k)
theorem yY (ho:ops[z.code.getD pc 0]?=some .ANY_ALL)(hc:pc<z.code.size)(hw:At z pos [])(k:No z r N loops inner fs):Ends z r (N+1) ⟨pc,pos,h,om,loops,inner,fs,none⟩:=
 mi ho rfl hc (fun hp=>by have:=hw.nil;exact (Om.o87 hp this).elim) (k _ _ _ _)
end
theorem in3 (b:Bool):((List.range 128).all fun c=>acc strC (of b+22) c==some (f3 (qt b) c))=true:=by cases b<;>decide +kernel
theorem zn (b:Bool):((List.range 128).all fun c=>acc strC (of b+60) c==some (f3 (qt b) c))=true:=by cases b<;>decide +kernel
theorem in1 (b:Bool):((List.range 128).all fun c=>acc strC (of b+90) c==some (f1 (qt b) c))=true:=by cases b<;>decide +kernel
theorem zm (b:Bool):((List.range 128).all fun c=>acc strC (of b+115) c==some (f1 (qt b) c))=true:=by cases b<;>decide +kernel
section
variable {text:Array Nat}{lim st:Nat}
noncomputable abbrev sZ (text:Array Nat) (lim st:Nat):Z:=⟨strC,text,lim,st⟩
theorem fA {f:Fr}{fs:List Fr}{n:Nat}(h:fs.length+(n+1)<16777216):(f::fs).length+n<16777216:=by simp only[List.length_cons];exact Om.o263 h
theorem bK {fs:List Fr}{n:Nat}(h:fs.length+n<16777216):room fs:=by unfold room;exact Om.o262 h
theorem pF (b:Bool){pos h:Nat}{w:List Nat}{fs:List Fr}{loops:Array Loop}(hs:loops.size=1)(hw:At (sZ text lim st) pos w)(hp:∀f∈fs,f.passes=true)(hr:fs.length+6<16777216){e:Nat}
  (he:(∃s,w=qt b::qt b::qt b::s)∧e=pos+3∨(¬ ∃s,w=qt b::qt b::qt b::s)∧e=pos) :
  Ends (sZ text lim st) (some e) (fs.length+16) ⟨of b+70,pos,h,true,loops,none,fs,none⟩:=by
 obtain⟨l0,rfl⟩:∃l0,loops=#[l0]:=by
  obtain⟨ls⟩:=loops
  match ls,hs with
  | [l],_=>exact⟨l,rfl⟩
 rcases he with ⟨⟨s,rfl⟩,he⟩|⟨hno,he⟩<;>rw[he]
 ·cases b <;>
  ·refine rep rfl (ac rfl) (bK hr) ?_
   refine bS (i:=1) (l:=⟨_,-1,none,none⟩) rfl (ac rfl) (bK (n:=4) (fA (by exact Om.o256 hr))) rfl rfl rfl (fun e=>by contradiction) ?_
   refine cq rfl (ac rfl) rfl hw (cq rfl (ac rfl) rfl hw.next (cq rfl (ac rfl) rfl hw.next.next ?_))
   refine gw (i:=1) (l:=⟨_,0,some pos,none⟩) rfl (ac rfl) (bK (n:=3) (fA (fA (by exact Om.o261 hr)))) rfl rfl rfl rfl ?_
   refine ox rfl (ac rfl) (cS rfl (ac rfl) ?_)
   exact (cO (aj rfl (aj rfl (aj rfl hp)))).mono (by dsimp only[List.length_cons];exact Om.o260)
 ·have no3:∀N fs',No (sZ text lim st) (some pos) N #[l0,⟨of b+70,0,some pos,none⟩] (some 1) fs'→Ends (sZ text lim st) (some pos) (N+3) ⟨of b+74,pos,pos,true,#[l0,⟨of b+70,0,some pos,none⟩],some 1,fs',none⟩:=by
   intro N fs' k
   by_cases q1:∃s,w=qt b::s
   ·obtain⟨s1,rfl⟩:=q1
    by_cases q2:∃s,s1=qt b::s
    ·obtain⟨s2,rfl⟩:=q2
     have q3:∀s,s2≠qt b::s:=fun s e=>hno ⟨s,by rw[e]⟩
     cases b<;>exact cq rfl (ac rfl) rfl hw (cq rfl (ac rfl) rfl hw.next (dK rfl (ac rfl) rfl hw.next.next q3 k))
    ·have q2':∀s,s1≠qt b::s:=fun s e=>q2 ⟨s,e⟩
     refine Ends.mono (N:=N+2) ?_ (by exact Om.o259)
     cases b<;>exact cq rfl (ac rfl) rfl hw (dK rfl (ac rfl) rfl hw.next q2' k)
   ·have q1':∀s,w≠qt b::s:=fun s e=>q1 ⟨s,e⟩
    refine Ends.mono (N:=N+1) ?_ (by exact Om.o258)
    cases b<;>exact dK rfl (ac rfl) rfl hw q1' k
  cases b <;>
  ·refine rep rfl (ac rfl) (bK hr) ?_
   refine bS (i:=1) (l:=⟨_,-1,none,none⟩) rfl (ac rfl) (bK (n:=4) (fA (by exact Om.o256 hr))) rfl rfl rfl (fun e=>by contradiction) ?_
   refine (no3 (fs.length+6) _ fun h pc p om=>?_).mono (by exact Om.o257)
   refine eL (ls:=#[l0,⟨_,-1,none,none⟩]) (bK (n:=4) (fA (by exact Om.o256 hr))) rfl ?_
   refine ox rfl (ac rfl) (cS rfl (ac rfl) ?_)
   exact (cO (aj rfl (aj rfl hp))).mono (by dsimp only[List.length_cons];exact Om.o255)
theorem dA {w:List Nat}(hl:Low w)(n:Nat):Low (w.drop n):=fun c hc=>hl c (List.mem_of_mem_drop hc)
theorem low_next {c:Nat}{w:List Nat}(hl:Low (c::w)):Low w:=fun d hd=>hl d (.tail _ hd)
theorem m6 (b:Bool){pos h pc N:Nat}{w:List Nat}{fs:List Fr}{loops:Array Loop}{inner:Option Nat}{r:Option Nat}(hp:pc=18∨pc=56)(hw:At (sZ text lim st) pos w)(hl:Low w)(hn:w.length≤4294967295)(hr:room fs)
  (k:∀n,n=(w.takeWhile (f3 (qt b))).length→Ends (sZ text lim st) r N ⟨of b+(pc+13),pos+n,pos+n,true,loops,inner,{wait:=.giveBack,pc:=of b+pc,pos:=pos+n,om:=true,count:=n,whole:=inner.isSome}::fs,none⟩) :
  Ends (sZ text lim st) r (N+1) ⟨of b+pc,pos,h,true,loops,inner,fs,none⟩:=by
 have k':=k _ rfl
 rcases hp with rfl|rfl
 ·have ha:∀c∈w,acc strC (of b+22) c=some (f3 (qt b) c):=fun c hc=>cV (in3 b) (hl c hc)
  cases b<;>exact cp rfl (ac rfl) hr hw ha (cn hn) (by rw[List.take_length]) (Nat.zero_le _) (Nat.zero_le _) k'
 ·have ha:∀c∈w,acc strC (of b+60) c=some (f3 (qt b) c):=fun c hc=>cV (zn b) (hl c hc)
  cases b<;>exact cp rfl (ac rfl) hr hw ha (cn hn) (by rw[List.take_length]) (Nat.zero_le _) (Nat.zero_le _) k'
theorem jW (b:Bool){pos h pc N:Nat}{w:List Nat}{fs:List Fr}{loops:Array Loop}{inner:Option Nat}{r:Option Nat}(hp:pc=86∨pc=111)(hw:At (sZ text lim st) pos w)(hl:Low w)(hn:w.length≤4294967295)(hr:room fs)
  (k:∀n,n=(w.takeWhile (f1 (qt b))).length→Ends (sZ text lim st) r N ⟨of b+(pc+18),pos+n,pos+n,true,loops,inner,{wait:=.giveBack,pc:=of b+pc,pos:=pos+n,om:=true,count:=n,whole:=inner.isSome}::fs,none⟩) :
  Ends (sZ text lim st) r (N+1) ⟨of b+pc,pos,h,true,loops,inner,fs,none⟩:=by
 have k':=k _ rfl
 rcases hp with rfl|rfl
 ·have ha:∀c∈w,acc strC (of b+90) c=some (f1 (qt b) c):=fun c hc=>cV (in1 b) (hl c hc)
  cases b<;>exact cp rfl (ac rfl) hr hw ha (cn hn) (by rw[List.take_length]) (Nat.zero_le _) (Nat.zero_le _) k'
 ·have ha:∀c∈w,acc strC (of b+115) c=some (f1 (qt b) c):=fun c hc=>cV (zm b) (hl c hc)
  cases b<;>exact cp rfl (ac rfl) hr hw ha (cn hn) (by rw[List.take_length]) (Nat.zero_le _) (Nat.zero_le _) k'
theorem gm (b:Bool){pos:Nat}{cnt:Int}{bg:Option Nat}{w:List Nat}{fs:List Fr}(hw:At (sZ text lim st) pos w)(hp:∀f∈fs,f.passes=true)(hr:fs.length+7<16777216){e:Nat}
  (he:(∃s,w=qt b::qt b::qt b::s)∧e=pos+3∨(¬ ∃s,w=qt b::qt b::qt b::s)∧e=pos) :
  No (sZ text lim st) (some e) (fs.length+18) #[⟨of b+31,cnt+1,some pos,none⟩] (some 0) ({wait:=.maxMore,pc:=of b+70,pos,om:=true,loop:=0,count:=cnt+1,whole:=true,began:=bg}::fs):=by
 intro h pc p om
 refine eL (ls:=#[⟨of b+31,cnt+1-1,bg,none⟩]) (bK (n:=7) hr) rfl ?_
 exact (pF b rfl hw (aj rfl hp) (fA (n:=6) hr) he).mono (by dsimp only[List.length_cons];exact Om.o254)
theorem lK {q:Nat}(hq:q≠92){w:List Nat}(h:¬ ∃s,w=q::q::s):sEnd3 q (q::w)=1+sEnd3 q w:=by
 cases w with
 |nil=>simp[sEnd3,hq]
 |cons d r=>
  rw[sEnd3,if_neg hq,if_neg]
  rintro⟨-,rfl,e⟩
  cases r with
  |nil=>contradiction
  |cons a s=>(injection e with e;subst e);exact h ⟨s,rfl⟩
theorem vc (b:Bool):qt b≠92:=by cases b<;>decide
theorem dw_head {f:Nat→Bool}{w:List Nat}{c:Nat}{s:List Nat}(e:w.dropWhile f=c::s):f c=false:=by
 have:=List.head?_dropWhile_not f w
 rw[e] at this
 simpa using this
section
variable {pos h N:Nat}{r:Option Nat}{cnt:Int}{bg:Option Nat}{fs:List Fr}
noncomputable abbrev tM (b:Bool) (pos:Nat) (cnt:Int) (bg:Option Nat):Fr:={wait:=.maxMore,pc:=of b+70,pos,om:=true,loop:=0,count:=cnt+1,whole:=true,began:=bg}
noncomputable abbrev tB (b:Bool) (pos:Nat):Fr:={wait:=.nextBranch,pc:=of b+36,pos,om:=true,whole:=true}
noncomputable abbrev tB2 (b:Bool) (pos:Nat):Fr:={wait:=.nextBranch,pc:=of b+42,pos,om:=true,whole:=true}
noncomputable abbrev tL (b:Bool) (pos:Nat) (cnt:Int):Array Loop:=#[⟨of b+31,cnt+1,some pos,none⟩]
theorem sd (b:Bool)(hc:-1≤cnt)(hc2:cnt<4294967290)(hbg:bg≠some pos)(hr:fs.length+2<16777216)
  (k:Ends (sZ text lim st) r N ⟨of b+37,pos,pos,true,tL b pos cnt,some 0,tB b pos::tM b pos cnt bg::fs,none⟩) :
  Ends (sZ text lim st) r (N+2) ⟨of b+69,pos,h,true,#[⟨of b+31,cnt,bg,none⟩],some 0,fs,none⟩:=by
 have h0:decide (cnt+1<((strC.getD (of b+31+2) 0:Nat):Int))=false:=by
  rw[show strC.getD (of b+31+2) 0=0 by cases b<;>rfl];exact decide_eq_false (by exact Om.o232 hc)
 have hm:decide (cnt+1<((strC.getD (of b+31+3) 0:Nat):Int))=true:=by
  rw[show strC.getD (of b+31+3) 0=4294967295 by cases b<;>rfl];exact decide_eq_true (by exact Om.o253 hc2)
 cases b<;>exact bS (i:=0) rfl (ac rfl) (bK hr) rfl h0 hm hbg (jl rfl (ac rfl) (bK (n:=1) (fA hr)) rfl k)
theorem n4 (b:Bool)(hr:fs.length+2<16777216)(k:Ends (sZ text lim st) r N ⟨of b+43,pos,pos,true,tL b pos cnt,some 0,tB2 b pos::tM b pos cnt bg::fs,none⟩) :
  No (sZ text lim st) r (N+1) (tL b pos cnt) (some 0) (tB b pos::tM b pos cnt bg::fs):=by
 intro h pc p om
 cases b<;>exact dz (bK (n:=1) (fA hr)) rfl k
theorem mf (b:Bool)(k:No (sZ text lim st) r N (tL b pos cnt) (some 0) (tM b pos cnt bg::fs)):No (sZ text lim st) r (N+1) (tL b pos cnt) (some 0) (tB2 b pos::tM b pos cnt bg::fs):=by
 intro h pc p om
 cases b<;>exact rh rfl (k _ _ _ _)
end
theorem ot (b:Bool):∀(k:Nat) {pos h:Nat} {w:List Nat} {fs:List Fr} {cnt:Int} {bg:Option Nat},w.length<k→At (sZ text lim st) pos w→Low w→(∀c s,w=c::s→f3 (qt b) c=false)→-1≤cnt→cnt+w.length<4294967290→
  (∀p,bg=some p→p<pos)→(∀f∈fs,f.passes=true)→fs.length+3*w.length+12<16777216→
  Ends (sZ text lim st) (some (pos+sEnd3 (qt b) w)) (20*w.length+fs.length+30) ⟨of b+69,pos,h,true,#[⟨of b+31,cnt,bg,none⟩],some 0,fs,none⟩:=by
 intro k
 induction k with
 |zero=>intro _ _ w _ _ _ hk;exact absurd hk (Nat.not_lt_zero _)
 |succ k ih=>
  intro pos h w fs cnt bg hk hw hl hf hc hc2 hbg hp hr
  have hb1:bg≠some pos:=fun e=>Nat.lt_irrefl _ (hbg pos e)
  have qn:=vc b
  have again:∀(p:Nat) (v:List Nat) (F1 F2:Fr),At (sZ text lim st) p v→Low v→v.length<w.length→pos<p→F1.passes=true→F2.passes=true→
    ∀h,Ends (sZ text lim st) (some (p+sEnd3 (qt b) v)) (20*v.length+fs.length+34) ⟨of b+56,p,h,true,tL b pos cnt,some 0,F1::F2::fs,none⟩:=by
   intro p v F1 F2 hv lv hlt hpp h1 h2 h
   have hn:v.length≤4294967295:=by exact Om.o252 hr hlt
   refine m6 b (pc:=56) (.inr rfl) hv lv hn (bK (n:=0) (by dsimp only[List.length_cons];exact Om.o237 hr)) fun n hn=>?_
   have hd:=tw_drop (f3 (qt b)) v
   rw[←hn] at hd
   have hln:n≤v.length:=by rw[hn];exact (List.takeWhile_sublist _).length_le
   have hv':=hv.drop (n:=n) hln
   have hl':(v.drop n).length=v.length-n:=List.length_drop
   rw[hd] at hv' hl'
   have e:p+sEnd3 (qt b) v=p+n+sEnd3 (qt b) (v.dropWhile (f3 (qt b))):=by rw[fj (qt b) v,←hn];exact Om.o251
   simp only[e]
   refine Ends.mono (ih (w:=v.dropWhile (f3 (qt b))) (cnt:=cnt+1) (bg:=some pos) (by exact Om.o250 hk hlt hl') hv' (by simp only[←hd];exact dA lv n) (fun c s e=>dw_head e) (by exact Om.o225 hc) (by exact Om.o249 hc2 hlt hl') (fun q hq=>by (injection hq with hq;subst hq);exact Om.o248 hpp) (aj rfl (aj h1 (aj h2 hp))) (by simp only[List.length_cons];exact Om.o247 hr hlt hl')) ?_
   dsimp only[List.length_cons];exact Om.o246 hl'
  match w,hw,hl,hf,hk,hr,again with
  | [],hw,hl,hf,hk,hr,_=>
   have out:=mf b (gm b (cnt:=cnt) (bg:=bg) hw hp (by exact Om.o240 ‹_›) (e:=pos) (.inr ⟨(fun ⟨s,e⟩=>by contradiction),rfl⟩))
   refine Ends.mono (sd b (N:=fs.length+22) hc (by exact Om.o236 hc2) hb1 (by exact Om.o235 ‹_›) ?_) (by exact Om.o245)
   have n92:∀s,([]:List Nat)≠92::s:=fun s e=>by contradiction
   have nq:∀s,([]:List Nat)≠qt b::s:=fun s e=>by contradiction
   have a2:Ends (sZ text lim st) (some pos) (fs.length+20) ⟨of b+43,pos,pos,true,tL b pos cnt,some 0,tB2 b pos::tM b pos cnt bg::fs,none⟩:=by
    cases b<;>exact dK rfl (ac rfl) rfl hw nq out
   have a3:=n4 b (by exact Om.o235 ‹_›) a2
   cases b<;>exact dK rfl (ac rfl) rfl hw n92 a3
  |c::r,hw,hl,hf,hk,hr,again=>
   have hlen:(c::r).length=r.length+1:=rfl
   by_cases h92:c=92
   ·subst h92
    have nq:∀s,92::r≠qt b::s:=fun s e=>qn (List.cons.inj e).1.symm
    cases r with
    |nil=>
     have out:=mf b (gm b (cnt:=cnt) (bg:=bg) hw hp (by exact Om.o240 ‹_›) (e:=pos) (.inr ⟨(fun ⟨s,e⟩=>qn (List.cons.inj e).1.symm),rfl⟩))
     have a2:Ends (sZ text lim st) (some pos) (fs.length+20) ⟨of b+43,pos,pos,true,tL b pos cnt,some 0,tB2 b pos::tM b pos cnt bg::fs,none⟩:=by
      cases b<;>exact dK rfl (ac rfl) rfl hw nq out
     have a3:=n4 b (by exact Om.o235 ‹_›) a2
     refine Ends.mono (sd b (N:=fs.length+23) hc (by exact Om.o236 hc2) hb1 (by exact Om.o235 ‹_›) ?_) (by exact Om.o244)
     cases b<;>exact cq rfl (ac rfl) rfl hw (yY rfl (ac rfl) hw.next a3)
    |cons d r=>
     have e:pos+sEnd3 (qt b) (92::d::r)=pos+1+1+sEnd3 (qt b) r:=by rw[sEnd3,if_pos rfl];exact Om.o230
     have ag:=again (pos+1+1) r (tB b pos) (tM b pos cnt bg) hw.next.next (low_next (low_next hl)) (by dsimp only[List.length_cons];exact Om.o243) (by exact Om.o243) rfl rfl
     simp only[e]
     dsimp only[List.length_cons] at hlen hr ⊢
     refine Ends.mono (sd b (N:=20*r.length+fs.length+37) hc (by dsimp only[List.length_cons] at hc2;exact Om.o242 hc2) hb1 (by exact Om.o235 ‹_›) ?_) (by exact Om.o241)
     cases b<;>exact cq rfl (ac rfl) rfl hw (yr rfl (ac rfl) hw.next (ox rfl (ac rfl) (ag _)))
   ·have hq:c=qt b:=by
     have:=hf c r rfl
     unfold f3 at this
     simp only[show (c != 92)=true from bne_iff_ne.mpr h92,Bool.and_true] at this
     simpa using this
    subst hq
    have n92:∀s,qt b::r≠92::s:=fun s e=>qn (List.cons.inj e).1
    by_cases h3:∃s,r=qt b::qt b::s
    ·obtain⟨s,rfl⟩:=h3
     have out:=mf b (gm b (cnt:=cnt) (bg:=bg) hw hp (by exact Om.o240 ‹_›) (e:=pos+3) (.inl ⟨⟨s,rfl⟩,rfl⟩))
     have e:pos+sEnd3 (qt b) (qt b::qt b::qt b::s)=pos+3:=by rw[sEnd3,if_neg qn,if_pos ⟨rfl,rfl,rfl⟩]
     simp only[e]
     have a2:Ends (sZ text lim st) (some (pos+3)) (fs.length+25) ⟨of b+43,pos,pos,true,tL b pos cnt,some 0,tB2 b pos::tM b pos cnt bg::fs,none⟩:=by
      cases b<;>exact cq rfl (ac rfl) rfl hw (gt rfl (ac rfl) (bK (n:=0) (by dsimp only[List.length_cons];exact Om.o237 ‹_›)) rfl (cq rfl (ac rfl) rfl hw.next (cq rfl (ac rfl) rfl hw.next.next (cS rfl (ac rfl) (qf (out _ _ _ _))))))
     have a3:=n4 b (by exact Om.o235 ‹_›) a2
     dsimp only[List.length_cons]
     refine Ends.mono (sd b (N:=fs.length+27) hc (by exact Om.o236 hc2) hb1 (by exact Om.o235 ‹_›) ?_) (by exact Om.o239)
     cases b<;>exact dK rfl (ac rfl) rfl hw n92 a3
    ·rw[lK qn h3,←Nat.add_assoc]
     have ag:=again (pos+1) r (tB2 b pos) (tM b pos cnt bg) hw.next (low_next hl) (by dsimp only[List.length_cons];exact Om.o43) (by exact Om.o43) rfl rfl
     have la:No (sZ text lim st) (some (pos+1+sEnd3 (qt b) r)) (20*r.length+fs.length+36) (tL b pos cnt) (some 0) ({wait:=.lookNot,pc:=of b+45,pos:=pos+1,om:=true,whole:=true}::tB2 b pos::tM b pos cnt bg::fs):=by
      intro h pc p om
      cases b<;>exact sR (ox rfl (ac rfl) (ag _))
     have lb:∀h,Ends (sZ text lim st) (some (pos+1+sEnd3 (qt b) r)) (20*r.length+fs.length+38) ⟨of b+48,pos+1,h,false,tL b pos cnt,some 0,{wait:=.lookNot,pc:=of b+45,pos:=pos+1,om:=true,whole:=true}::tB2 b pos::tM b pos cnt bg::fs,none⟩:=by
      intro h
      by_cases q1:∃s,r=qt b::s
      ·obtain⟨s,rfl⟩:=q1
       have q2:∀t,s≠qt b::t:=fun t e=>h3 ⟨t,by rw[e]⟩
       cases b<;>exact cq rfl (ac rfl) rfl hw.next (dK rfl (ac rfl) rfl hw.next.next q2 la)
      ·have q2:∀t,r≠qt b::t:=fun t e=>q1 ⟨t,e⟩
       refine Ends.mono (N:=20*r.length+fs.length+37) ?_ (by exact Om.o238)
       cases b<;>exact dK rfl (ac rfl) rfl hw.next q2 la
     have a2:Ends (sZ text lim st) (some (pos+1+sEnd3 (qt b) r)) (20*r.length+fs.length+40) ⟨of b+43,pos,pos,true,tL b pos cnt,some 0,tB2 b pos::tM b pos cnt bg::fs,none⟩:=by
      cases b<;>exact cq rfl (ac rfl) rfl hw (gt rfl (ac rfl) (bK (n:=0) (by dsimp only[List.length_cons];exact Om.o237 ‹_›)) rfl (lb _))
     have a3:=n4 b (by exact Om.o235 ‹_›) a2
     refine Ends.mono (sd b (N:=20*r.length+fs.length+42) hc (by exact Om.o236 hc2) hb1 (by exact Om.o235 ‹_›) ?_) (by exact Om.o234 hlen)
     cases b<;>exact dK rfl (ac rfl) rfl hw n92 a3
theorem mD {q:Nat}{w:List Nat}(hf:∀c s,w=c::s→f1 q c=false)(h92:¬ ∃d s,w=92::d::s)(hq:q≠92)(hq':q≠10):sEnd1 q w=((w.take 1).takeWhile (fun c=>c==q)).length:=by
 match w with
 | []=>rfl
 | [c]=>
  have:=hf c [] rfl
  by_cases e:c=q
  ·subst e;simp[sEnd1,hq,hq']
  ·have h2:c=92∨c=10:=by unfold f1 at this;simp only[Bool.and_eq_false_iff,bne_eq_false_iff_eq] at this;rcases this with (h|h)|h;exact absurd h e;exact .inl h;exact .inr h
   have:(c==q)=false:=beq_eq_false_iff_ne.mpr e
   simp[sEnd1,h2,this]
 |c::d::r=>
  have:=hf c (d::r) rfl
  have n92:c≠92:=by rintro rfl;exact h92 ⟨d,r,rfl⟩
  by_cases e:c=q
  ·subst e;simp[sEnd1,hq,hq']
  ·have h2:c=10:=by unfold f1 at this;simp only[Bool.and_eq_false_iff,bne_eq_false_iff_eq] at this;rcases this with (h|h)|h;exact absurd h e;exact absurd h n92;exact h
   have:(c==q)=false:=beq_eq_false_iff_ne.mpr e
   rw[sEnd1,if_neg n92,if_pos h2];simp[this]
theorem oC (b:Bool){pos h:Nat}{w:List Nat}{fs:List Fr}{loops:Array Loop}{inner:Option Nat}(hw:At (sZ text lim st) pos w)(hl:Low w)(hp:∀f∈fs,f.passes=true)(hr:fs.length+1<16777216) :
  Ends (sZ text lim st) (some (pos+((w.take 1).takeWhile (fun c=>c==qt b)).length)) (fs.length+5) ⟨of b+130,pos,h,true,loops,inner,fs,none⟩:=by
 have ha:∀c∈w,acc strC (of b+134) c=some (c==qt b):=fun c hc=>by cases b<;>exact jj rfl rfl c
 have hm:((w.take (min 1 w.length)).takeWhile (fun c=>c==qt b)).length=((w.take 1).takeWhile (fun c=>c==qt b)).length:=by
  cases w with
  |nil=>rfl
  |cons c s=>rw[show min 1 (c::s).length=1 by dsimp only[List.length_cons];exact Om.o233]
 cases b<;>exact cp (f:=fun c=>c==_) rfl (ac rfl) (bK hr) hw ha rfl hm (Nat.zero_le _) (Nat.zero_le _) (ox rfl (ac rfl) (cS rfl (ac rfl) (cO (aj rfl hp))))
theorem pj (b:Bool):∀(k:Nat) {pos h:Nat} {w:List Nat} {fs:List Fr} {cnt:Int} {bg:Option Nat},w.length<k→At (sZ text lim st) pos w→Low w→(∀c s,w=c::s→f1 (qt b) c=false)→-1≤cnt→cnt+w.length<4294967290→
  (∀p,bg=some p→p<pos)→(∀f∈fs,f.passes=true)→fs.length+3*w.length+12<16777216→
  Ends (sZ text lim st) (some (pos+sEnd1 (qt b) w)) (20*w.length+fs.length+30) ⟨of b+129,pos,h,true,#[⟨of b+104,cnt,bg,none⟩],some 0,fs,none⟩:=by
 intro k
 induction k with
 |zero=>intro _ _ w _ _ _ hk;exact absurd hk (Nat.not_lt_zero _)
 |succ k ih=>
  intro pos h w fs cnt bg hk hw hl hf hc hc2 hbg hp hr
  have hb1:bg≠some pos:=fun e=>Nat.lt_irrefl _ (hbg pos e)
  have qn:=vc b
  have h0:decide (cnt+1<((strC.getD (of b+104+2) 0:Nat):Int))=false:=by
   rw[show strC.getD (of b+104+2) 0=0 by cases b<;>rfl];exact decide_eq_false (by exact Om.o232 hc)
  have hm:decide (cnt+1<((strC.getD (of b+104+3) 0:Nat):Int))=true:=by
   rw[show strC.getD (of b+104+3) 0=4294967295 by cases b<;>rfl];exact decide_eq_true (by exact Om.o231 hc2)
  have inn:∀{r N},Ends (sZ text lim st) r N ⟨of b+108,pos,pos,true,#[⟨of b+104,cnt+1,some pos,none⟩],some 0,{wait:=.maxMore,pc:=of b+130,pos,om:=true,loop:=0,count:=cnt+1,whole:=true,began:=bg}::fs,none⟩→
    Ends (sZ text lim st) r (N+1) ⟨of b+129,pos,h,true,#[⟨of b+104,cnt,bg,none⟩],some 0,fs,none⟩:=by
   intro r N k
   cases b<;>exact bS (i:=0) rfl (ac rfl) (bK (n:=12) (by exact Om.o219 hr)) rfl h0 hm hb1 k
  by_cases h92:∃d s,w=92::d::s
  ·obtain⟨d,v,rfl⟩:=h92
   have e:pos+sEnd1 (qt b) (92::d::v)=pos+1+1+sEnd1 (qt b) v:=by rw[sEnd1,if_pos rfl];exact Om.o230
   simp only[e]
   dsimp only[List.length_cons] at hk hc2 hr ⊢
   have hn:v.length≤4294967295:=by exact Om.o229 hc hc2
   have ag:∀h,Ends (sZ text lim st) (some (pos+1+1+sEnd1 (qt b) v)) (20*v.length+fs.length+33) ⟨of b+111,pos+1+1,h,true,#[⟨of b+104,cnt+1,some pos,none⟩],some 0,{wait:=.maxMore,pc:=of b+130,pos,om:=true,loop:=0,count:=cnt+1,whole:=true,began:=bg}::fs,none⟩:=by
    intro h
    refine jW b (pc:=111) (.inr rfl) hw.next.next (low_next (low_next hl)) hn (bK (n:=0) (by dsimp only[List.length_cons];exact Om.o228 hr)) fun n hn=>?_
    have hd:=tw_drop (f1 (qt b)) v
    rw[←hn] at hd
    have hln:n≤v.length:=by rw[hn];exact (List.takeWhile_sublist _).length_le
    have hv':=hw.next.next.drop (n:=n) hln
    have hl':(v.drop n).length=v.length-n:=List.length_drop
    rw[hd] at hv' hl'
    have e:pos+1+1+sEnd1 (qt b) v=pos+1+1+n+sEnd1 (qt b) (v.dropWhile (f1 (qt b))):=by rw[fm (qt b) v,←hn];exact Om.o227
    simp only[e]
    refine Ends.mono (ih (w:=v.dropWhile (f1 (qt b))) (cnt:=cnt+1) (bg:=some pos) (by exact Om.o226 hk hl') hv' (by simp only[←hd];exact dA (low_next (low_next hl)) n) (fun c s e=>dw_head e) (by exact Om.o225 hc) (by exact Om.o224 hc2 hl') (fun q hq=>by (injection hq with hq;subst hq);exact Om.o223) (aj rfl (aj rfl hp)) (by simp only[List.length_cons];exact Om.o222 hr hl')) ?_
    dsimp only[List.length_cons];exact Om.o221 hl'
   refine Ends.mono (inn (N:=20*v.length+fs.length+35) ?_) (by exact Om.o220)
   cases b<;>exact cq rfl (ac rfl) rfl hw (yr rfl (ac rfl) hw.next (ag _))
  ·rw[mD hf h92 qn (by cases b<;>decide)]
   have out:No (sZ text lim st) (some (pos+((w.take 1).takeWhile (fun c=>c==qt b)).length)) (fs.length+7) #[⟨of b+104,cnt+1,some pos,none⟩] (some 0) ({wait:=.maxMore,pc:=of b+130,pos,om:=true,loop:=0,count:=cnt+1,whole:=true,began:=bg}::fs):=by
    intro h pc p om
    refine eL (ls:=#[⟨of b+104,cnt+1-1,bg,none⟩]) (bK (n:=12) (by exact Om.o219 hr)) rfl ?_
    exact Ends.mono (oC b hw hl (aj rfl hp) (by dsimp only[List.length_cons];exact Om.o218 hr)) (by dsimp only[List.length_cons];exact Om.o217)
   refine Ends.mono (inn (N:=fs.length+9) ?_) (by exact Om.o216)
   by_cases q:∃s,w=92::s
   ·obtain⟨s,rfl⟩:=q
    cases s with
    |cons d s=>exact absurd ⟨d,s,rfl⟩ h92
    |nil=>cases b<;>exact cq rfl (ac rfl) rfl hw (yY rfl (ac rfl) hw.next out)
   ·have q2:∀t,w≠92::t:=fun t e=>q ⟨t,e⟩
    refine Ends.mono (N:=fs.length+8) ?_ (by exact Om.o215)
    cases b<;>exact dK rfl (ac rfl) rfl hw q2 out
noncomputable def strEnd:List Nat→Nat
 | []=>0
 |q::r=>if r.head?=some q∧r.tail.head?=some q then 3+sEnd3 q (r.drop 2) else 1+sEnd1 q r
theorem tN (b:Bool){pos h:Nat}{w:List Nat}{fs:List Fr}(hw:At (sZ text lim st) pos (qt b::qt b::qt b::w))(hl:Low w)(hp:∀f∈fs,f.passes=true)(hr:fs.length+3*w.length+20<16777216) :
  Ends (sZ text lim st) (some (pos+3+sEnd3 (qt b) w)) (20*w.length+fs.length+40) ⟨of b+12,pos,h,true,#[],none,fs,none⟩:=by
 have k1:∀h,Ends (sZ text lim st) (some (pos+1+1+1+sEnd3 (qt b) w)) (20*w.length+fs.length+35) ⟨of b+18,pos+1+1+1,h,true,#[],none,fs,none⟩:=by
  intro h
  refine m6 b (pc:=18) (.inl rfl) hw.next.next.next hl (by exact Om.o212 hr) (bK (n:=0) (by exact Om.o211 hr)) fun n hn=>?_
  have hd:=tw_drop (f3 (qt b)) w
  rw[←hn] at hd
  have hln:n≤w.length:=by rw[hn];exact (List.takeWhile_sublist _).length_le
  have hv':=hw.next.next.next.drop (n:=n) hln
  have hl':(w.drop n).length=w.length-n:=List.length_drop
  rw[hd] at hv' hl'
  have e:pos+1+1+1+sEnd3 (qt b) w=pos+1+1+1+n+sEnd3 (qt b) (w.dropWhile (f3 (qt b))):=by rw[fj (qt b) w,←hn];exact Om.o214
  rw[e]
  have lp:=fun h=>ot b ((w.dropWhile (f3 (qt b))).length+1) (h:=h) (fs:={wait:=.closeLoop,pc:=of b+31,pos:=pos+1+1+1+n,om:=true,loop:=0}::{wait:=.giveBack,pc:=of b+18,pos:=pos+1+1+1+n,om:=true,count:=n}::fs) (cnt:=-1) (bg:=none) (Nat.lt_succ_self _) hv' (by simp only[←hd];exact dA hl n) (fun c s e=>dw_head e) (by exact Om.o209) (by exact Om.o208 hr hl') (fun q hq=>by contradiction) (aj rfl (aj rfl hp)) (by dsimp only[List.length_cons];exact Om.o207 hr hl')
  dsimp only[List.length_cons] at lp
  refine Ends.mono (N:=20*(w.dropWhile (f3 (qt b))).length+(fs.length+1+1)+30+1) ?_ (by exact Om.o206 hl')
  cases b<;>exact rep rfl (ac rfl) (bK (n:=0) (by dsimp only[List.length_cons];exact Om.o205 hr)) (lp _)
 refine Ends.mono (N:=20*w.length+fs.length+38) ?_ (by exact Om.o213)
 cases b<;>exact cq rfl (ac rfl) rfl hw (cq rfl (ac rfl) rfl hw.next (cq rfl (ac rfl) rfl hw.next.next (k1 _)))
theorem sL (b:Bool){pos h:Nat}{w:List Nat}{fs:List Fr}(hw:At (sZ text lim st) pos (qt b::w))(hl:Low w)(hp:∀f∈fs,f.passes=true)(hr:fs.length+3*w.length+20<16777216) :
  Ends (sZ text lim st) (some (pos+1+sEnd1 (qt b) w)) (20*w.length+fs.length+40) ⟨of b+84,pos,h,true,#[],none,fs,none⟩:=by
 have k1:∀h,Ends (sZ text lim st) (some (pos+1+sEnd1 (qt b) w)) (20*w.length+fs.length+35) ⟨of b+86,pos+1,h,true,#[],none,fs,none⟩:=by
  intro h
  refine jW b (pc:=86) (.inl rfl) hw.next hl (by exact Om.o212 hr) (bK (n:=0) (by exact Om.o211 hr)) fun n hn=>?_
  have hd:=tw_drop (f1 (qt b)) w
  rw[←hn] at hd
  have hln:n≤w.length:=by rw[hn];exact (List.takeWhile_sublist _).length_le
  have hv':=hw.next.drop (n:=n) hln
  have hl':(w.drop n).length=w.length-n:=List.length_drop
  rw[hd] at hv' hl'
  have e:pos+1+sEnd1 (qt b) w=pos+1+n+sEnd1 (qt b) (w.dropWhile (f1 (qt b))):=by rw[fm (qt b) w,←hn];exact Om.o210
  rw[e]
  have lp:=fun h=>pj b ((w.dropWhile (f1 (qt b))).length+1) (h:=h) (fs:={wait:=.closeLoop,pc:=of b+104,pos:=pos+1+n,om:=true,loop:=0}::{wait:=.giveBack,pc:=of b+86,pos:=pos+1+n,om:=true,count:=n}::fs) (cnt:=-1) (bg:=none) (Nat.lt_succ_self _) hv' (by simp only[←hd];exact dA hl n) (fun c s e=>dw_head e) (by exact Om.o209) (by exact Om.o208 hr hl') (fun q hq=>by contradiction) (aj rfl (aj rfl hp)) (by dsimp only[List.length_cons];exact Om.o207 hr hl')
  dsimp only[List.length_cons] at lp
  refine Ends.mono (N:=20*(w.dropWhile (f1 (qt b))).length+(fs.length+1+1)+30+1) ?_ (by exact Om.o206 hl')
  cases b<;>exact rep rfl (ac rfl) (bK (n:=0) (by dsimp only[List.length_cons];exact Om.o205 hr)) (lp _)
 refine Ends.mono (N:=20*w.length+fs.length+36) ?_ (by exact Om.o204)
 cases b<;>exact cq rfl (ac rfl) rfl hw (k1 _)
end
end Re
end Mine
end
section
namespace Mine
namespace Re
open PySem PySem.Sre
section
variable {text:Array Nat}{lim st:Nat}
theorem so (b:Bool){N pos h:Nat}{r:Option Nat}{w:List Nat}{fs:List Fr}(hw:At (sZ text lim st) pos w)(hno:∀s,w≠qt b::qt b::qt b::s)(k:No (sZ text lim st) r N #[] none fs) :
  Ends (sZ text lim st) r (N+3) ⟨of b+12,pos,h,true,#[],none,fs,none⟩:=by
 by_cases q1:∃s,w=qt b::s
 ·obtain⟨s1,rfl⟩:=q1
  by_cases q2:∃s,s1=qt b::s
  ·obtain⟨s2,rfl⟩:=q2
   have q3:∀s,s2≠qt b::s:=fun s e=>hno s (by rw[e])
   cases b<;>exact cq rfl (ac rfl) rfl hw (cq rfl (ac rfl) rfl hw.next (dK rfl (ac rfl) rfl hw.next.next q3 k))
  ·have q2':∀s,s1≠qt b::s:=fun s e=>q2 ⟨s,e⟩
   refine Ends.mono (N:=N+2) ?_ (by exact Om.o259)
   cases b<;>exact cq rfl (ac rfl) rfl hw (dK rfl (ac rfl) rfl hw.next q2' k)
 ·have q1':∀s,w≠qt b::s:=fun s e=>q1 ⟨s,e⟩
  refine Ends.mono (N:=N+1) ?_ (by exact Om.o258)
  cases b<;>exact dK rfl (ac rfl) rfl hw q1' k
noncomputable abbrev sB (pc pos:Nat):Fr:={wait:=.nextBranch,pc,pos,om:=true}
theorem uG (q:Nat)(r:List Nat):strEnd (q::q::q::r)=3+sEnd3 q r:=if_pos ⟨rfl,rfl⟩
theorem ub {q:Nat}{r:List Nat}(h:∀s,q::r≠q::q::q::s):strEnd (q::r)=1+sEnd1 q r:=by
 refine if_neg fun ⟨e1,e2⟩=>?_
 match r,e1,e2 with
 |a::b::s,e1,e2=>(injection e1 with e1;subst e1);(injection e2 with e2;subst e2);exact h s rfl
theorem rY (b:Bool){pos:Nat}{w:List Nat}(hw:At (sZ text lim st) pos (qt b::w))(hl:Low w)(hr:3*w.length+30<16777216)(h:Nat) :
  Ends (sZ text lim st) (some (pos+strEnd (qt b::w))) (20*w.length+50) ⟨of b+12,pos,h,true,#[],none,[sB (of b+11) pos],none⟩:=by
 by_cases q:∃s,qt b::w=qt b::qt b::qt b::s
 ·obtain⟨s,e⟩:=q
  have e':=(List.cons.inj e).2
  subst e'
  dsimp only[List.length_cons] at hr ⊢
  rw[uG,←Nat.add_assoc]
  exact Ends.mono (tN b hw (low_next (low_next hl)) (aj rfl b7) (by dsimp only[List.length_cons,List.length_nil];exact Om.o271 hr)) (by dsimp only[List.length_cons,List.length_nil];exact Om.o270)
 ·have q':∀s,qt b::w≠qt b::qt b::qt b::s:=fun s e=>q ⟨s,e⟩
  rw[ub q',←Nat.add_assoc]
  have go:∀h,Ends (sZ text lim st) (some (pos+1+sEnd1 (qt b) w)) (20*w.length+41) ⟨of b+84,pos,h,true,#[],none,[sB (of b+83) pos],none⟩:=fun h=>
   Ends.mono (sL b hw hl (aj rfl b7) (by dsimp only[List.length_cons,List.length_nil];exact Om.o269 hr)) (by dsimp only[List.length_cons,List.length_nil];exact Om.o268)
  refine Ends.mono (N:=20*w.length+42+3) (so b hw q' fun h pc p om=>?_) (by exact Om.o267)
  cases b<;>exact dz (ac rfl) rfl (go _)
theorem str_ok (b:Bool){pos:Nat}{w:List Nat}(hw:At (sZ text lim st) pos (qt b::w))(hl:Low w)(hr:3*w.length+30<16777216) :
  Ends (sZ text lim st) (some (pos+strEnd (qt b::w))) (20*w.length+60) (start 10 pos):=by
 have k:=rY b hw hl hr
 cases b with
 |false=>exact Ends.mono (N:=20*w.length+51) (jl rfl (ac rfl) (ac rfl) rfl (k _)) (by exact Om.o266)
 |true=>
  refine Ends.mono (N:=20*w.length+55) (jl rfl (ac rfl) (ac rfl) rfl ?_) (by exact Om.o265)
  have nq:∀s,qt true::w≠34::s:=fun s e=>absurd (List.cons.inj e).1 (by decide)
  refine dK rfl (ac rfl) rfl hw nq fun h pc p om=>?_
  refine dz (ac rfl) rfl ?_
  refine dK rfl (ac rfl) rfl hw nq fun h pc p om=>?_
  exact dz (ac rfl) rfl (k _)
end
end Re
end Mine
end
section
namespace Mine
open PySem PyProof.Rows PySem.W PySem.StrLaws PySem.Builtin.Str
theorem iq (x:Str)(c:Nat):Txt.contains x ⟨#[c]⟩=(sg x).contains c:=by
 unfold Txt.contains
 rw[occ_eq,fU x ⟨#[c]⟩ x.length _ 0 (fun m _=>Nat.zero_le _)]
 cases hf:(List.range' 0 (x.length+1-0)).find? (fun i=>decide (i+(⟨#[c]⟩:Str).length≤x.length)&&subAt x ⟨#[c]⟩ i) with
 |none=>
  show false=_
  symm
  rw[List.contains_eq_mem,decide_eq_false_iff_not]
  intro hm
  obtain⟨i,hi⟩:=List.getElem?_of_mem hm
  have h2:=(subAt_one x c i).mpr hi
  have hlt:=(List.getElem?_eq_some_iff.mp hi).1
  have:=List.find?_eq_none.mp hf i (List.mem_range'_1.mpr (by have:=aD x;unfold sg at *;exact Om.o276 hlt))
  rw[Bool.and_eq_true,decide_eq_true_eq] at this
  exact this h2
 |some i=>
  show true=_
  symm
  have hp:=(List.find?_eq_some_iff_append.mp hf).1
  rw[Bool.and_eq_true,decide_eq_true_eq] at hp
  rw[List.contains_eq_mem,decide_eq_true_eq]
  exact List.mem_of_getElem? ((subAt_one x c i).mp hp)
structure L2 where
 p:Nat
 last:Str
 st:List Nat
 br:List (Nat×Nat)
noncomputable def gD (c:Nat):Bool:=c==32||c==9||c==10
noncomputable def dC (l:List Nat):Option Nat:=l.reverse.find? fun c=>!gD c
theorem fG (l:List Nat)(c:Nat):dC (l++[c])=if gD c=true then dC l else some c:=by
 unfold dC
 rw[List.reverse_append,List.reverse_singleton,List.singleton_append,List.find?_cons]
 cases gD c<;>rfl
noncomputable def lastOf (r:List Nat)(last:Str):Str:=match dC r with
 |some c=>⟨#[c]⟩
 |none=>last
noncomputable def ea (p1:Nat)(last1:Str)(st:List Nat)(br:List (Nat×Nat))(w:List Nat):L2:=match w with
 | []=>⟨p1,last1,st,br⟩
 |ch::r=>
  if ch=40∨ch=91∨ch=123 then ⟨p1+1,⟨#[ch]⟩,st++[p1],br++[(p1,st.length+1)]⟩
  else if ch=41∨ch=93∨ch=125 then ⟨p1+1,⟨#[ch]⟩,st.dropLast,br++[(p1+1,st.dropLast.length)]⟩
  else if ch=34∨ch=39 then ⟨p1+Re.strEnd (ch::r),⟨#[ch]⟩,st,br++[(p1,st.length+1)]++[(p1+Re.strEnd (ch::r),st.length)]⟩
  else if ch=35 then ⟨p1+(r.takeWhile (fun c=>c != 10)).length+2,last1,st,br++[(p1,st.length+1)]++[(p1+(r.takeWhile (fun c=>c != 10)).length+2,st.length)]⟩
  else match r with
   | []=>⟨p1+1,last1,st,br⟩
   |d::_=>⟨p1+2,if d=10 then last1 else ⟨#[ch,d]⟩,st,br⟩
noncomputable def ao (x:Str)(q p:Nat):List Nat:=((sg x).take q).drop p
noncomputable def iE (x:Str)(q:Nat)(s:L2):L2:=
 ea (s.p+((ao x q s.p).takeWhile Re.ord_).length) (lastOf ((ao x q s.p).takeWhile Re.ord_) s.last) s.st s.br ((ao x q s.p).dropWhile Re.ord_)
section
variable {P:Pm}{pr:List Nat}{x:Str}{c:aa}
theorem lg {n:Nat}{f e1 e2 e3:IE}{kk:Option Nat}{l:Sl}{u v1 v2 v3:V}{K:V→aa→Prop}(hf:∀K':V→aa→Prop,K' u c→wpE P (n+4) f l c K')(h1:∀K':V→aa→Prop,K' v1 c→wpE P (n+3) e1 l c K')(h2:∀K':V→aa→Prop,K' v2 c→wpE P (n+2) e2 l c K')
  (h3:∀K':V→aa→Prop,K' v3 c→wpE P (n+1) e3 l c K') (h:eg P c kk u [v1,v2,v3] K):wpE P (n+5) (.call f [e1,e2,e3] kk) l c K:=by
 rw[gh]
 refine hf _ ?_
 rw[bd]
 refine h1 _ ?_
 rw[bd]
 refine h2 _ ?_
 rw[bd]
 refine h3 _ ?_
 exact h
theorem dO {q p:Nat}(hq:q≤x.length):(ao x q p).length=q-p:=by
 unfold ao;rw[List.length_drop,List.length_take];have:=aD x;exact Om.o275 hq
noncomputable def mOf:Option Nat→V
 |some e=>.mt (e:Nat)
 |none=>.d .none
theorem lC {a:Addr}{code:Array Nat}(T:TextOk x)(hj:P.isFn a=true)(hjf:P.fn a=aP code){p q n N:Nat}{r:Option Nat}(hpq:p<q)(hq:q≤x.length)(hN:1≤N∧N<2 ^ 60)
  (he:Re.Ends ⟨code,x.cps,q,p⟩ r N (Re.start (Sre.header code).2 p)) (hm:(Sre.header code).1=1) {l:Sl} (h1:aM l 1=some (.d (.str x))) (h4:aM l 4=some (.d (.int (p:Nat)))) (h5:aM l 5=some (.d (.int (q:Nat)))) (K':V→aa→Prop)
  (h:K' (mOf r) c):wpE P (n+5) (.call (.g (.val (.ref a))) [(.v 1),(.v 4),(.v 5)] none) l c K':=by
 have hl:=aD x
 have hT:=T.len
 refine lg (n:=n) (u:=.val (.ref a)) (v1:=.d (.str x)) (v2:=.d (.int (p:Nat))) (v3:=.d (.int (q:Nat))) (fun K' h=>h) (bD h1) (bD h4) (bD h5) ?_
 refine⟨hj,?_⟩
 rw[hjf]
 refine⟨x,p,q,r,N,.inr rfl,by exact Om.o58 hpq,hq,by exact Om.o63 hT,hN,.inl ⟨he,by rw[hm];exact Om.o198 hpq⟩,?_⟩
 cases r with
 |none=>exact⟨fun _ q=>q,h⟩
 |some e=>exact⟨fun _ q=>q,h⟩
theorem pt {a:Addr}(T:TextOk x)(hj:P.isFn a=true)(hjf:P.fn a=aP Re.chewC){p q n:Nat}(hpq:p<q)(hq:q≤x.length){l:Sl}(h1:aM l 1=some (.d (.str x)))(h4:aM l 4=some (.d (.int (p:Nat))))(h5:aM l 5=some (.d (.int (q:Nat))))(K':V→aa→Prop)
  (h:K' (if ((ao x q p).takeWhile Re.ord_).length=0 then .d .none else .mt ((p+((ao x q p).takeWhile Re.ord_).length:Nat))) c):wpE P (n+5) (.call (.g (.val (.ref a))) [(.v 1),(.v 4),(.v 5)] none) l c K':=by
 have hT:=T.len
 have hl:=aD x
 have hlen:(ao x q p).length≤4294967295:=by rw[dO hq];unfold big at hT;exact Om.o274 hq hT
 refine lC T hj hjf hpq hq (N:=4) (by decide) (Re.chew_ok (nK x (by exact Om.o58 hpq) hq) (jd T p q) hlen) rfl h1 h4 h5 K' ?_
 show K' (mOf (if ((ao x q p).takeWhile Re.ord_).length=0 then none else some (p+((ao x q p).takeWhile Re.ord_).length))) c
 split at h
 ·rename_i e;rw[if_pos e];exact h
 ·rename_i e;rw[if_neg e];exact h
theorem qT {a:Addr}(T:TextOk x)(hj:P.isFn a=true)(hjf:P.fn a=aP Re.strC){p q n:Nat}(hpq:p<q)(hq:q≤x.length){ch:Nat}{r:List Nat}(hr:ao x q p=ch::r)(hch:ch=34∨ch=39){l:Sl}(h1:aM l 1=some (.d (.str x)))(h4:aM l 4=some (.d (.int (p:Nat))))(h5:aM l 5=some (.d (.int (q:Nat))))(K':V→aa→Prop)
  (h:K' (.mt ((p+Re.strEnd (ch::r):Nat))) c):wpE P (n+5) (.call (.g (.val (.ref a))) [(.v 1),(.v 4),(.v 5)] none) l c K':=by
 have hT:=T.len
 have hl:=aD x
 have hlen:(ao x q p).length=q-p:=dO hq
 have hA:=nK x (p:=p) (q:=q) (st:=p) (code:=Re.strC) (by exact Om.o58 hpq) hq
 have hlow:=jd T p q
 change Re.At _ p (ao x q p) at hA
 change Re.Low (ao x q p) at hlow
 rw[hr] at hA hlow hlen
 simp only[List.length_cons] at hlen
 unfold big at hT
 have he:Re.Ends ⟨Re.strC,x.cps,q,p⟩ (some (p+Re.strEnd (ch::r))) (20*r.length+60) (Re.start 10 p):=by
  rcases hch with rfl|rfl
  ·exact Re.str_ok false hA (Re.low_next hlow) (by exact Om.o273 hq hT hlen)
  ·exact Re.str_ok true hA (Re.low_next hlow) (by exact Om.o273 hq hT hlen)
 exact lC T hj hjf hpq hq (N:=20*r.length+60) ⟨by exact Om.o272,by omega⟩ he rfl h1 h4 h5 K' h
end
end Mine
end
section
namespace Mine
open PySem PyProof.Rows PySem.W
noncomputable def brD (br:List (Nat×Nat)):List D:=br.map fun r=>.tup [.int (r.1:Nat),.int (r.2:Nat)]
noncomputable def Cs (c0:aa)(A B Z:Nat)(st:List Nat)(br:List (Nat×Nat)):aa:=c0++[(A,.list (aQ st))]++[(B,.bound "list.append" A)]++[(Z,.list (brD br))]
structure Cel2 (c0:aa)(A B Z k:Nat)(pr:List Nat):Prop where
 a:A∉dom c0
 b:B∉dom c0
 z:Z∉dom c0
 ab:A≠B
 az:A≠Z
 bz:B≠Z
 w:Wf c0
 k_:k∈dom c0
 pr:∀j∈pr,j∈dom c0
section
variable {c0:aa}{A B Z k:Nat}{pr:List Nat}(C:Cel2 c0 A B Z k pr){st:List Nat}{br:List (Nat×Nat)}
theorem rS:dom (Cs c0 A B Z st br)=dom c0++[A]++[B]++[Z]:=by unfold Cs;rw[af,af,af]
theorem ap {c:aa}{j i:Nat}{o:O}(h:j∉dom c):ae (c++[(j,o)]) i=if i=j then some o else ae c i:=aH h i
include C
theorem nb:B∉dom (c0++[(A,.list (aQ st))]):=by rw[af];simp[C.b,Ne.symm C.ab]
theorem nz:Z∉dom (c0++[(A,.list (aQ st))]++[(B,.bound "list.append" A)]):=by rw[af,af];simp[C.z,Ne.symm C.az,Ne.symm C.bz]
theorem pL:ae (Cs c0 A B Z st br) A=some (.list (aQ st)):=by
 unfold Cs;rw[ap (nz C),if_neg C.az,ap (nb C),if_neg C.ab,ap C.a,if_pos rfl]
theorem wE:ae (Cs c0 A B Z st br) B=some (.bound "list.append" A):=by
 unfold Cs;rw[ap (nz C),if_neg C.bz,ap (nb C),if_pos rfl]
theorem rc:ae (Cs c0 A B Z st br) Z=some (.list (brD br)):=by
 unfold Cs;rw[ap (nz C),if_pos rfl]
theorem nZ {j:Nat}(h:j∈dom c0):ae (Cs c0 A B Z st br) j=ae c0 j:=by
 have h1:j≠A:=fun e=>C.a (e▸h)
 have h2:j≠B:=fun e=>C.b (e▸h)
 have h3:j≠Z:=fun e=>C.z (e▸h)
 unfold Cs;rw[ap (nz C),if_neg h3,ap (nb C),if_neg h2,ap C.a,if_neg h1]
theorem lP {j:Nat}(h:j∈dom c0):j∈dom (Cs c0 A B Z st br):=by rw[rS];simp[h]
theorem nE (st':List Nat):cset (Cs c0 A B Z st br) A (.list (aQ st'))=Cs c0 A B Z st' br:=by
 have h1:A∈dom (c0++[(A,O.list (aQ st))]):=by rw[af];simp
 unfold Cs
 rw[aU (by rw[af];simp[h1]),aU h1,d6 C.a]
theorem s3 (br':List (Nat×Nat)):cset (Cs c0 A B Z st br) Z (.list (brD br'))=Cs c0 A B Z st br':=by
 unfold Cs
 rw[d6 (nz C)]
theorem yW:bY (Cs c0 A B Z st br) (Cs c0 A B Z st br) (Cs c0 A B Z st br):=by
 rw[celW_iff]
 intro p hp
 have hd:∀j∈dom c0,j∈dom (Cs c0 A B Z st br):=fun j hj=>lP C hj
 have hA:A∈dom (Cs c0 A B Z st br):=by rw[rS];simp
 unfold Cs at hp
 rcases List.mem_append.mp hp with hp|hp
 ·rcases List.mem_append.mp hp with hp|hp
  ·rcases List.mem_append.mp hp with hp|hp
   ·obtain⟨o,h1,h2⟩:=celW_iff.mp C.w.w p hp
    exact⟨o,by rw[nZ C (al h1)];exact h1,ek hd h2⟩
   ·have e:p=(A,.list (aQ st)):=by simpa using hp
    subst e;exact⟨_,pL C,rfl⟩
  ·have e:p=(B,.bound "list.append" A):=by simpa using hp
   subst e;exact⟨_,wE C,rfl,rfl,hA⟩
 ·have e:p=(Z,.list (brD br)):=by simpa using hp
  subst e;exact⟨_,rc C,rfl⟩
end
noncomputable abbrev S2 (k:Nat) (x:Str) (gl:List Nat) (A B Z:Nat) (i p q nn last m np ch:Option V):Sl:=[some (.obj k),some (.d (.str x)),some (.d (.lst (aQ gl))),i,p,q,nn,last,some (.obj A),some (.obj B),some (.obj Z),m,np,ch]
def dr (C:aa)(o o':Option V):Prop:=o'=none∨∃v,o=some v∧o'=some v∧vOk C v
theorem dq (C:aa)(o:Option V):dr C o none:=.inl rfl
theorem fO (C:aa)(d:D):dr C (some (.d d)) (some (.d d)):=.inr ⟨_,rfl,rfl,trivial⟩
theorem bX {l r:Sl}{c:aa}{i:Nat}{o':Option V}(h:dr c (aM l i) o')(k:slW l c c (i+1) r):slW l c c i (o'::r):=by
 rcases h with rfl|⟨v,h1,rfl,h2⟩
 ·exact k
 ·exact⟨⟨v,h1,.inl ⟨rfl,h2⟩⟩,k⟩
theorem vj {c0:aa}{A B Z k:Nat}{pr:List Nat}(C:Cel2 c0 A B Z k pr){st:List Nat}{br:List (Nat×Nat)}{x:Str}{gl:List Nat}{i p q nn last m np ch i' nn' m' np' ch':Option V}
  (hi:dr (Cs c0 A B Z st br) i i') (hp:dr (Cs c0 A B Z st br) p p) (hq:dr (Cs c0 A B Z st br) q q) (hn:dr (Cs c0 A B Z st br) nn nn') (hl:dr (Cs c0 A B Z st br) last last) (hm:dr (Cs c0 A B Z st br) m m') (hnp:dr (Cs c0 A B Z st br) np np') (hch:dr (Cs c0 A B Z st br) ch ch') :
  Wk pr ⟨S2 k x gl A B Z i p q nn last m np ch,Cs c0 A B Z st br⟩ ⟨S2 k x gl A B Z i' p q nn' last m' np' ch',Cs c0 A B Z st br⟩:=by
 have o:∀j,j∈dom (Cs c0 A B Z st br)→dr (Cs c0 A B Z st br) (some (.obj j)) (some (.obj j)):=fun j hj=>.inr ⟨_,rfl,rfl,hj⟩
 refine⟨?_,rfl,yW C,fun j hj=>lP C (C.pr j hj)⟩
 exact bX (o k (lP C C.k_)) (bX (fO _ _) (bX (fO _ _) (bX hi (bX hp (bX hq (bX hn (bX hl (bX (o A (al (pL C))) (bX (o B (al (wE C))) (bX (o Z (al (rc C))) (bX hm (bX hnp (bX hch trivial)))))))))))))
noncomputable def l6:IS:=.while_ (.and (.cmp .GtE (.v 3) (.v 4)) (.cmp .In (.item (.v 1) (.v 3)) (.c (.str ⟨#[32,9,10]⟩)))) [.asg 3 (.bin .Sub (.v 3) (.c (.int 1)))] []
section
variable {P:Pm}{c0:aa}{A B Z k:Nat}{pr:List Nat}{x:Str}{gl:List Nat}
theorem rJ (C:Cel2 c0 A B Z k pr)(T:TextOk x){p q:Nat}{last:Str}{st:List Nat}{br:List (Nat×Nat)}{nn m np ch:Option V}(hnn:dr (Cs c0 A B Z st br) nn nn)(hm:dr (Cs c0 A B Z st br) m m)(hnp:dr (Cs c0 A B Z st br) np np)(hch:dr (Cs c0 A B Z st br) ch ch)
  {run:List Nat} (hrun:∀j d,run[j]?=some d→(sg x)[p+j]?=some d) {n:Nat} {K:F→Sg'→Prop}
  (h:∀j:Nat,(j=0∧dC run=none∨∃d,0<j∧(sg x)[p+j-1]?=some d∧dC run=some d)→K .next ⟨S2 k x gl A B Z (some (.d (.int (((p+j:Nat):Int)-1)))) (I_ p) (I_ q) nn (some (.d (.str last))) m np ch,Cs c0 A B Z st br⟩) :
  wpS P pr (n+20) l6 ⟨S2 k x gl A B Z (some (.d (.int (((p+run.length:Nat):Int)-1)))) (I_ p) (I_ q) nn (some (.d (.str last))) m np ch,Cs c0 A B Z st br⟩ K:=by
 have hl:=aD x
 have hT:=T.len
 unfold l6
 refine⟨fun k' τ=>∃j,k'=j∧j≤run.length∧dC (run.take j)=dC run∧τ=⟨S2 k x gl A B Z (some (.d (.int (((p+j:Nat):Int)-1)))) (I_ p) (I_ q) nn (some (.d (.str last))) m np ch,Cs c0 A B Z st br⟩,run.length,⟨_,rfl,Nat.le_refl _,by rw[List.take_length],rfl⟩,?_⟩
 rintro j τ ⟨_,rfl,hj,hlast,rfl⟩
 show ((decide (((p:Nat):Int)≤((p+j:Nat):Int)-1))=false→_)∧((decide (((p:Nat):Int)≤((p+j:Nat):Int)-1))=true→_)
 refine⟨fun e=>?_,fun e=>?_⟩
 ·have hj0:j=0:=by have:=of_decide_eq_false e;exact Om.o282 this
  subst hj0
  refine⟨(fun e=>by contradiction),fun _=>aA (h 0 (.inl ⟨rfl,?_⟩))⟩
  rw[←hlast];rfl
 ·obtain⟨j',rfl⟩:∃j',j=j'+1:=⟨j-1,by have:=of_decide_eq_true e;exact Om.o281 this⟩
  obtain⟨d,hd⟩:∃d,run[j']?=some d:=⟨_,List.getElem?_eq_getElem (by exact Om.o74 hj)⟩
  have hxd:=hrun j' d hd
  have hlt:=(List.getElem?_eq_some_iff.mp hxd).1
  have ei:(((p+(j'+1):Nat):Int)-1)=((p+j':Nat):Int):=by exact Om.o280
  have hit:=ci hxd
  have et:run.take (j'+1)=run.take j'++[d]:=by rw[List.take_add_one,hd];rfl
  refine dh (n:=n+17) (.d (.str (Txt.item x (((p+(j'+1):Nat):Int)-1)))) (.d (.str ⟨#[32,9,10]⟩)) (fun K' h=>?_) (fun K' h=>h) ?_
  ·refine bL (n:=n+16) (.d (.str x)) (.d (.int (((p+(j'+1):Nat):Int)-1))) (fun K' h=>h) (fun K' h=>h) ⟨by exact Om.o279,by exact Om.o278 hlt,by exact Om.o63 hT,h⟩
  ·rw[ei,hit]
   show (Txt.contains ⟨#[32,9,10]⟩ ⟨#[d]⟩=true→_)∧(Txt.contains ⟨#[32,9,10]⟩ ⟨#[d]⟩=false→_)
   have hb:Txt.contains ⟨#[32,9,10]⟩ ⟨#[d]⟩=gD d:=by
    rw[iq];show ([32,9,10]:List Nat).contains d=_
    unfold gD
    simp only[List.contains_cons,List.contains_nil,Bool.or_false,Bool.or_assoc]
   rw[hb]
   refine⟨fun e=>?_,fun e=>?_⟩
   ·refine av (n:=n+17) (.d (.int (((p+j':Nat):Int)-1))) (fun K' h=>h) ?_
    refine aA ?_
    show ∃k' υ',k'<j'+1∧_
    exact⟨j',_,Nat.lt_succ_self _,vj C (fO _ _) (fO _ _) (fO _ _) hnn (fO _ _) hm hnp hch,j',rfl,by exact Om.o73 hj,by rw[←hlast,et,fG,if_pos e],rfl⟩
   ·have:=h (j'+1) (.inr ⟨d,by exact Om.o127,(by rw[show p+(j'+1)-1=p+j' by exact Om.o277];exact hxd),(by rw[←hlast,et,fG,if_neg (by rw[e];decide)])⟩)
    rw[ei] at this
    exact aA this
end
section
variable {P:Pm}{c0:aa}{A B Z k:Nat}{pr:List Nat}{x:Str}{gl:List Nat}{st:List Nat}{br:List (Nat×Nat)}
theorem yH (C:aa)(e:Int):dr C (some (.mt e)) (some (.mt e)):=.inr ⟨_,rfl,rfl,trivial⟩
theorem e6 {n:Nat}{f e1:IE}{kk:Option Nat}{l:Sl}{c:aa}{u v1:V}{K:V→aa→Prop}(hf:∀K':V→aa→Prop,K' u c→wpE P (n+2) f l c K')(h1:∀K':V→aa→Prop,K' v1 c→wpE P (n+1) e1 l c K')
  (h:eg P c kk u [v1] K):wpE P (n+3) (.call f [e1] kk) l c K:=by
 rw[gh]
 refine hf _ ?_
 rw[bd]
 refine h1 _ ?_
 exact h
theorem ro {n:Nat}{o e1:IE}{m:Mn}{l:Sl}{c:aa}{u v1:V}{K:V→aa→Prop}(ho:∀K':V→aa→Prop,K' u c→wpE P (n+2) o l c K')(hm:dM c u m)(h1:∀K':V→aa→Prop,K' v1 c→wpE P (n+1) e1 l c K')
  (h:nh c u m [v1] K):wpE P (n+3) (.meth o m [e1]) l c K:=by
 rw[eU]
 refine ho _ ⟨hm,?_⟩
 rw[bd]
 refine h1 _ ?_
 exact h
theorem mZ {n:Nat}{e1 e2:IE}{l:Sl}{c:aa}{d1 d2:D}{K:V→aa→Prop}(h1:∀K':V→aa→Prop,K' (.d d1) c→wpE P (n+2) e1 l c K')(h2:∀K':V→aa→Prop,K' (.d d2) c→wpE P (n+1) e2 l c K')
  (h:K (.d (.tup [d1,d2])) c):wpE P (n+4) (.tup [e1,e2]) l c K:=by
 rw[sU,bd]
 refine h1 _ ?_
 rw[bd]
 refine h2 _ ?_
 exact⟨(by show 2≤big;decide),h⟩
theorem bM (l:List Nat):(aQ l).length=l.length:=by simp[aQ]
theorem nL (l:List (Nat×Nat)):(brD l).length=l.length:=by simp[brD]
theorem tj (C:Cel2 c0 A B Z k pr):bW (Cs c0 A B Z st br) (.obj A)=some (false,aQ st):=by
 show (match ae (Cs c0 A B Z st br) A with|some (.list xs)=>some (false,xs)|_=>none)=_
 rw[pL C]
theorem zq (C:Cel2 c0 A B Z k pr):bW (Cs c0 A B Z st br) (.obj Z)=some (false,brD br):=by
 show (match ae (Cs c0 A B Z st br) Z with|some (.list xs)=>some (false,xs)|_=>none)=_
 rw[rc C]
theorem gL (C:Cel2 c0 A B Z k pr){n:Nat}{l:Sl}(h8:aM l 8=some (.obj A))(hs:st.length≤big)(K':V→aa→Prop)(h:K' (.d (.int (st.length:Nat))) (Cs c0 A B Z st br)) :
  wpE P (n+4) (.call (.g (.bi .len)) [(.v 8)] none) l (Cs c0 A B Z st br) K':=by
 refine e6 (n:=n+1) (u:=.bi .len) (v1:=.obj A) (fun K' h=>h) (bD h8) ?_
 show tz (Cs c0 A B Z st br) (.obj A) K'
 show aw (bW (Cs c0 A B Z st br) (.obj A)) _
 rw[tj C]
 exact⟨by rw[bM];exact hs,by rw[bM];exact h⟩
theorem nU (C:Cel2 c0 A B Z k pr){n:Nat}{l:Sl}(h8:aM l 8=some (.obj A))(hs:st.length≤big)(K':V→aa→Prop)(h:K' (.d (.int ((st.length+1:Nat)))) (Cs c0 A B Z st br)) :
  wpE P (n+5) (.bin .Add (.call (.g (.bi .len)) [(.v 8)] none) (.c (.int 1))) l (Cs c0 A B Z st br) K':=by
 rw[cN]
 refine gL C h8 hs _ ?_
 have e:((st.length:Nat):Int)+1=((st.length+1:Nat):Int):=by exact Om.o291
 show K' (.d (.int (((st.length:Nat):Int)+1))) _
 rw[e];exact h
theorem fc (C:Cel2 c0 A B Z k pr){n p v:Nat}{e:IE}{r:List IS}{l:Sl}{K:F→Sg'→Prop}(h10:aM l 10=some (.obj Z))(h4:aM l 4=some (.d (.int (p:Nat))))(hb:br.length≤big)
  (he:∀K':V→aa→Prop,K' (.d (.int (v:Nat))) (Cs c0 A B Z st br)→wpE P (n+1) e l (Cs c0 A B Z st br) K') (h:wpB P pr (n+7) r ⟨l,Cs c0 A B Z st (br++[(p,v)])⟩ K) :
  wpB P pr (n+8) (.expr (.meth (.v 10) .append [(.tup [(.v 4),e])])::r) ⟨l,Cs c0 A B Z st br⟩ K:=by
 refine eG (n:=n+6) (.d .none) (c':=Cs c0 A B Z st (br++[(p,v)])) (fun K' hK=>?_) h
 refine ro (n:=n+3) (u:=.obj Z) (v1:=.d (.tup [.int (p:Nat),.int (v:Nat)])) (bD h10) ?_ (fun K' h=>mZ (n:=n) (bD h4) he h) ?_
 ·refine⟨rfl,?_⟩
  rw[rc C];trivial
 refine⟨rfl,?_⟩
 rw[rc C]
 show (brD br).length≤big∧K' (.d .none) (cset (Cs c0 A B Z st br) Z (.list (brD br++[.tup [.int (p:Nat),.int (v:Nat)]])))
 refine⟨by rw[nL];exact hb,?_⟩
 have e:brD br++[D.tup [.int (p:Nat),.int (v:Nat)]]=brD (br++[(p,v)]):=by simp[brD]
 rw[e,s3 C];exact hK
theorem sW (C:Cel2 c0 A B Z k pr){n p:Nat}{r:List IS}{l:Sl}{K:F→Sg'→Prop}(h9:aM l 9=some (.obj B))(h4:aM l 4=some (.d (.int (p:Nat))))(hs:st.length≤big)(h:wpB P pr (n+5) r ⟨l,Cs c0 A B Z (st++[p]) br⟩ K) :
  wpB P pr (n+6) (.expr (.call (.v 9) [(.v 4)] none)::r) ⟨l,Cs c0 A B Z st br⟩ K:=by
 refine eG (n:=n+4) (.d .none) (c':=Cs c0 A B Z (st++[p]) br) (fun K' hK=>?_) h
 refine e6 (n:=n+1) (u:=.obj B) (v1:=.d (.int (p:Nat))) (bD h9) (bD h4) ?_
 show eP (ae (Cs c0 A B Z st br) B) _
 rw[wE C]
 refine⟨rfl,?_⟩
 show cz (ae (Cs c0 A B Z st br) A) _
 rw[pL C]
 refine⟨by rw[bM];exact hs,?_⟩
 have e:aQ st++[D.int (p:Nat)]=aQ (st++[p]):=by simp[aQ]
 rw[e,nE C];exact hK
noncomputable def q7 (cr:Addr):List IS:=[.asg 11 (.call (.g (.val (.ref cr))) [(.v 1),(.v 4),(.v 5)] none),
 .if_ (.v 11) [.asg 12 (.meth (.v 11) .end_ []),.asg 3 (.bin .Sub (.v 12) (.c (.int 1))),l6,.if_ (.cmp .GtE (.v 3) (.v 4)) [.asg 7 (.item (.v 1) (.v 3))] [],.asg 4 (.v 12),.if_ (.cmp .GtE (.v 4) (.v 5)) [.brk] []] []]
theorem si {q p:Nat}(hq:q≤x.length)(j d:Nat)(h:((ao x q p).takeWhile Re.ord_)[j]?=some d):(sg x)[p+j]?=some d:=by
 have h1:(ao x q p)[j]?=some d:=by
  have hlt:=(List.getElem?_eq_some_iff.mp h).1
  rw[←Re.tw_take Re.ord_ (ao x q p),List.getElem?_take,if_pos hlt] at h;exact h
 unfold ao at h1
 rw[List.getElem?_drop,List.getElem?_take] at h1
 split at h1
 ·exact h1
 ·contradiction
theorem pi (C:Cel2 c0 A B Z k pr)(T:TextOk x){cr:Addr}(hj:P.isFn cr=true)(hjf:P.fn cr=aP Re.chewC){p q:Nat}(hpq:p<q)(hq:q≤x.length){last:Str}{i nn m np ch:Option V}(hnn:nn=none∨∃d,nn=some (.d d))(hch:ch=none){n:Nat}{r:List IS}{K:F→Sg'→Prop}
  (hb:(ao x q p).dropWhile Re.ord_=[]→∀i m np,K .brk ⟨S2 k x gl A B Z i (I_ (p+((ao x q p).takeWhile Re.ord_).length)) (I_ q) nn (some (.d (.str (lastOf ((ao x q p).takeWhile Re.ord_) last)))) m np ch,Cs c0 A B Z st br⟩)
  (hn:(ao x q p).dropWhile Re.ord_≠[]→∀i m np,wpB P pr (n+38) r ⟨S2 k x gl A B Z i (I_ (p+((ao x q p).takeWhile Re.ord_).length)) (I_ q) nn (some (.d (.str (lastOf ((ao x q p).takeWhile Re.ord_) last)))) m np ch,Cs c0 A B Z st br⟩ K) :
  wpB P pr (n+40) (q7 cr++r) ⟨S2 k x gl A B Z i (I_ p) (I_ q) nn (some (.d (.str last))) m np ch,Cs c0 A B Z st br⟩ K:=by
 have hnn':∀C,dr C nn nn:=fun C=>by rcases hnn with rfl|⟨d,rfl⟩;exact dq _ _;exact fO _ _
 subst hch
 have hl:=aD x
 have hT:=T.len
 have hlen:=dO (p:=p) hq
 have hsplit:((ao x q p).takeWhile Re.ord_).length+((ao x q p).dropWhile Re.ord_).length=q-p:=by
  rw[←List.length_append,List.takeWhile_append_dropWhile,hlen]
 have hrun:=si (x:=x) (p:=p) hq
 generalize hw:(ao x q p).takeWhile Re.ord_=run at *
 generalize hd:(ao x q p).dropWhile Re.ord_=dr' at *
 show wpB P pr (n+40) (.asg 11 _::.if_ (.v 11) _ []::r) _ K
 refine av (n:=n+38) (if run.length=0 then .d .none else .mt ((p+run.length:Nat))) (fun K' h=>pt (n:=n+33) T hj hjf hpq hq rfl rfl rfl K' (by rw[hw];exact h)) ?_
 by_cases h0:run.length=0
 ·rw[if_pos h0]
  have hr0:run=[]:=List.length_eq_zero_iff.mp h0
  have hne:dr'≠[]:=fun e=>by rw[e,h0] at hsplit;simp at hsplit;exact Om.o290 hpq hsplit
  refine bw (n:=n+37) false (c':=Cs c0 A B Z st br) (fun K' h=>h) (aA ?_)
  have:=hn hne i (some (.d .none)) np
  subst hr0
  exact this
 ·rw[if_neg h0]
  refine bw (n:=n+37) true (c':=Cs c0 A B Z st br) (fun K' h=>h) ?_
  show wpB P pr (n+37) [_,_,_,_,_,_] _ _
  refine av (n:=n+35) (.d (.int ((p+run.length:Nat)))) (fun K' h=>by rw[eU];exact bD (n:=n+33) (v:=.mt ((p+run.length:Nat))) rfl _ ⟨rfl,rfl,rfl,h⟩) ?_
  refine av (n:=n+34) (.d (.int (((p+run.length:Nat):Int)-1))) (fun K' h=>h) ?_
  refine dn (n:=n+34) (rJ (n:=n+14) C T (hnn' _) (yH _ _) (fO _ _) (dq _ _) hrun fun j hj=>?_)
  have go:∀last1,last1=lastOf run last→∀i,wpB P pr (n+33) [.asg 4 (.v 12),.if_ (.cmp .GtE (.v 4) (.v 5)) [.brk] []] ⟨S2 k x gl A B Z i (I_ p) (I_ q) nn (some (.d (.str last1))) (some (.mt ((p+run.length:Nat)))) (some (.d (.int ((p+run.length:Nat))))) none,Cs c0 A B Z st br⟩
    (fun f τ=>match f with | .next=>wpB P pr (n+38) r τ K|f=>K f τ):=by
   intro last1 e i
   subst e
   refine av (n:=n+31) (.d (.int ((p+run.length:Nat)))) (fun K' h=>h) ?_
   by_cases hr:dr'=[]
   ·rw[hr] at hsplit
    dsimp only[List.length_nil,Nat.add_zero] at hsplit
    refine bw (n:=n+30) true (c':=Cs c0 A B Z st br) (fun K' h=>?_) ?_
    ·show K' (decide (((q:Nat):Int)≤((p+run.length:Nat):Int))) _
     rw[decide_eq_true (by exact Om.o289 hsplit)];exact h
    ·exact hb hr i _ _
   ·have:0<dr'.length:=List.length_pos_iff.mpr hr
    refine bw (n:=n+30) false (c':=Cs c0 A B Z st br) (fun K' h=>?_) ?_
    ·show K' (decide (((q:Nat):Int)≤((p+run.length:Nat):Int))) _
     rw[decide_eq_false (by exact Om.o288 hsplit this)];exact h
    ·exact aA (aA (hn hr i _ _))
  rcases hj with ⟨rfl,hlast⟩|⟨d,hj0,hxd,hlast⟩
  ·refine bw (n:=n+32) false (c':=Cs c0 A B Z st br) (fun K' h=>?_) (aA (go last ?_ _))
   ·show K' (decide (((p:Nat):Int)≤((p+0:Nat):Int)-1)) _
    rw[decide_eq_false (by exact Om.o287)];exact h
   ·unfold lastOf;rw[hlast]
  ·refine bw (n:=n+32) true (c':=Cs c0 A B Z st br) (fun K' h=>?_) ?_
   ·show K' (decide (((p:Nat):Int)≤((p+j:Nat):Int)-1)) _
    rw[decide_eq_true (by exact Om.o286 hj0)];exact h
   ·have ei:(((p+j:Nat):Int)-1)=((p+j-1:Nat):Int):=by exact Om.o285 hj0
    have hlt:=(List.getElem?_eq_some_iff.mp hxd).1
    refine av (n:=n+30) (.d (.str (Txt.item x (((p+j:Nat):Int)-1)))) (fun K' h=>bL (n:=n+29) (.d (.str x)) (.d (.int (((p+j:Nat):Int)-1))) (fun K' h=>h) (fun K' h=>h) ⟨by exact Om.o284 ei,by exact Om.o283 hlt,by exact Om.o63 hT,h⟩) ?_
    rw[ei,ci hxd]
    exact aA (go _ (by unfold lastOf;rw[hlast]) _)
end
noncomputable abbrev mx:IE:=.call (.g (.bi .len)) [(.v 8)] none
noncomputable abbrev lM (e:IE):IS:=.expr (.meth (.v 10) .append [(.tup [(.v 4),e])])
noncomputable abbrev oe:IS:=.asg 4 (.bin .Add (.v 4) (.c (.int 1)))
noncomputable def rU:List IS:=[.expr (.call (.v 9) [(.v 4)] none),lM mx,.asg 7 (.v 13),oe,.cont]
noncomputable def i6:List IS:=[.if_ (.v 8) [.del_ (.v 8) (.c (.int (-1)))] [],.asg 7 (.v 13),oe,lM mx,.cont]
noncomputable def xe (sr:Addr):List IS:=[lM (.bin .Add mx (.c (.int 1))),.asg 7 (.v 13),.asg 4 (.meth (.call (.g (.val (.ref sr))) [(.v 1),(.v 4),(.v 5)] none) .end_ []),lM mx,.cont]
noncomputable def vB:List IS:=[lM (.bin .Add mx (.c (.int 1))),.asg 4 (.bin .Add (.meth (.v 1) .find [(.c (.str ⟨#[10]⟩)),(.v 4),(.v 5)]) (.c (.int 1))),.assert (.cmp .Gt (.v 4) (.c (.int 0))),lM mx,.cont]
noncomputable def w9:List IS:=[.assert (.cmp .Eq (.v 13) (.c (.str ⟨#[92]⟩))),oe,.assert (.cmp .Lt (.v 4) (.v 5)),
 .if_ (.cmp .NotEq (.item (.v 1) (.v 4)) (.c (.str ⟨#[10]⟩))) [.asg 7 (.bin .Add (.v 13) (.item (.v 1) (.v 4)))] [],oe]
noncomputable def uS (sr:Addr):List IS:=.asg 13 (.item (.v 1) (.v 4))::.if_ (.cmp .In (.v 13) (.c (.str ⟨#[40,91,123]⟩))) rU []::.if_ (.cmp .In (.v 13) (.c (.str ⟨#[41,93,125]⟩))) i6 [] ::
 .if_ (.or (.cmp .Eq (.v 13) (.c (.str ⟨#[34]⟩))) (.cmp .Eq (.v 13) (.c (.str ⟨#[39]⟩)))) (xe sr) []::.if_ (.cmp .Eq (.v 13) (.c (.str ⟨#[35]⟩))) vB []::w9
section
variable {P:Pm}{c0:aa}{A B Z k:Nat}{pr:List Nat}{x:Str}{gl:List Nat}{st:List Nat}{br:List (Nat×Nat)}{p q n ch:Nat}{last:Str}{i nn m np:Option V}{K:F→Sg'→Prop}
noncomputable abbrev chO (ch:Nat):Option V:=some (.d (.str ⟨#[ch]⟩))
theorem pV (p:Nat):((p:Nat):Int)+1=((p+1:Nat):Int):=by exact Om.o291
theorem xa {n:Nat}{a i:IE}{r:List IS}{l:Sl}{c:aa}{u v:V}{K:F→Sg'→Prop}(ho:∀K':V→aa→Prop,K' u c→wpE P n a l c K')(hi:∀K':V→aa→Prop,K' v c→wpE P n i l c K')(h:ur c u v (fun c3=>wpB P pr (n+1) r ⟨l,c3⟩ K)) :
  wpB P pr (n+2) (.del_ a i::r) ⟨l,c⟩ K:=by
 exact ho _ (hi _ h)
theorem sS (C:Cel2 c0 A B Z k pr)(hs:st.length+2≤big)(hb:br.length+2≤big)
  (h:K .cont ⟨S2 k x gl A B Z i (I_ (p+1)) (I_ q) nn (chO ch) m np (chO ch),Cs c0 A B Z (st++[p]) (br++[(p,st.length+1)])⟩) :
  wpB P pr (n+20) rU ⟨S2 k x gl A B Z i (I_ p) (I_ q) nn (some (.d (.str last))) m np (chO ch),Cs c0 A B Z st br⟩ K:=by
 unfold rU
 refine sW (n:=n+14) C rfl rfl (by exact Om.o293 hs) ?_
 refine fc (n:=n+11) (v:=st.length+1) C rfl rfl (by exact Om.o293 hb) (fun K' h=>gL (n:=n+8) C rfl (by rw[List.length_append];dsimp only[List.length_cons,List.length_nil];exact Om.o294 hs) K' (by rw[List.length_append];exact h)) ?_
 refine av (n:=n+16) (.d (.str ⟨#[ch]⟩)) (fun K' h=>h) ?_
 refine av (n:=n+15) (.d (.int ((p+1:Nat)))) (fun K' h=>by rw[←pV] at h;exact h) ?_
 exact h
theorem oo (C:Cel2 c0 A B Z k pr)(hs:st.length+2≤big)(hb:br.length+2≤big)
  (h:K .cont ⟨S2 k x gl A B Z i (I_ (p+1)) (I_ q) nn (chO ch) m np (chO ch),Cs c0 A B Z st.dropLast (br++[(p+1,st.dropLast.length)])⟩) :
  wpB P pr (n+20) i6 ⟨S2 k x gl A B Z i (I_ p) (I_ q) nn (some (.d (.str last))) m np (chO ch),Cs c0 A B Z st br⟩ K:=by
 unfold i6
 have go:wpB P pr (n+19) [.asg 7 (.v 13),oe,lM mx,.cont] ⟨S2 k x gl A B Z i (I_ p) (I_ q) nn (some (.d (.str last))) m np (chO ch),Cs c0 A B Z st.dropLast br⟩ K:=by
  refine av (n:=n+17) (.d (.str ⟨#[ch]⟩)) (fun K' h=>h) ?_
  refine av (n:=n+16) (.d (.int ((p+1:Nat)))) (fun K' h=>by rw[←pV] at h;exact h) ?_
  refine fc (n:=n+9) (v:=st.dropLast.length) C rfl rfl (by exact Om.o293 hb) (fun K' h=>gL (n:=n+6) C rfl (by rw[List.length_dropLast];exact Om.o302 hs) K' h) ?_
  exact h
 have htr:∀K':Bool→aa→Prop,K' (!st.isEmpty) (Cs c0 A B Z st br)→wpT P (n+18) (.v 8) (S2 k x gl A B Z i (I_ p) (I_ q) nn (some (.d (.str last))) m np (chO ch)) (Cs c0 A B Z st br) K':=fun K' h=>by
  show aw (bW (Cs c0 A B Z st br) (.obj A)) _
  rw[tj C]
  refine⟨by rw[bM];exact Om.o293 hs,?_⟩
  have e:(aQ st).isEmpty=st.isEmpty:=by cases st<;>rfl
  rw[e];exact h
 refine bw (n:=n+18) (!st.isEmpty) (c':=Cs c0 A B Z st br) htr ?_
 cases st with
 |nil=>exact aA go
 |cons a r=>
  show wpB P pr (n+18) [.del_ (.v 8) (.c (.int (-1)))] _ _
  refine xa (n:=n+16) (u:=.obj A) (v:=.d (.int (-1))) (fun K' h=>h) (fun K' h=>h) ?_
  refine⟨rfl,?_⟩
  rw[pL C]
  refine⟨by simp[aQ],by rw[bM];exact Om.o293 hs,aA ?_⟩
  have e:(aQ (a::r)).dropLast=aQ (a::r).dropLast:=by unfold aQ;rw[List.map_dropLast]
  rw[e,nE C];exact go
theorem te (C:Cel2 c0 A B Z k pr)(T:TextOk x){sr:Addr}(hj:P.isFn sr=true)(hjf:P.fn sr=aP Re.strC)(hpq:p<q)(hq:q≤x.length){r:List Nat}(hr:ao x q p=ch::r)(hch:ch=34∨ch=39)(hs:st.length+2≤big)(hb:br.length+2≤big)
  (h:K .cont ⟨S2 k x gl A B Z i (I_ (p+Re.strEnd (ch::r))) (I_ q) nn (chO ch) m np (chO ch),Cs c0 A B Z st (br++[(p,st.length+1)]++[(p+Re.strEnd (ch::r),st.length)])⟩) :
  wpB P pr (n+20) (xe sr) ⟨S2 k x gl A B Z i (I_ p) (I_ q) nn (some (.d (.str last))) m np (chO ch),Cs c0 A B Z st br⟩ K:=by
 unfold xe
 refine fc (n:=n+12) (v:=st.length+1) C rfl rfl (by exact Om.o293 hb) (fun K' h=>nU (n:=n+8) C rfl (by exact Om.o293 hs) K' h) ?_
 refine av (n:=n+17) (.d (.str ⟨#[ch]⟩)) (fun K' h=>h) ?_
 refine av (n:=n+16) (.d (.int ((p+Re.strEnd (ch::r):Nat)))) (fun K' h=>?_) ?_
 ·rw[eU]
  refine qT (n:=n+10) T hj hjf hpq hq hr hch rfl rfl rfl _ ⟨rfl,?_⟩
  exact⟨rfl,rfl,h⟩
 refine fc (n:=n+9) (v:=st.length) C rfl rfl (by rw[List.length_append];dsimp only[List.length_cons,List.length_nil];exact Om.o294 hb) (fun K' h=>gL (n:=n+6) C rfl (by exact Om.o293 hs) K' h) ?_
 exact h
theorem fT {j d:Nat}(hq:q≤x.length)(h:(ao x q p)[j]?=some d):(sg x)[p+j]?=some d∧p+j<q:=by
 unfold ao at h
 rw[List.getElem?_drop,List.getElem?_take] at h
 split at h
 ·rename_i hl;exact⟨h,hl⟩
 ·contradiction
theorem xp (C:Cel2 c0 A B Z k pr)(T:TextOk x)(hq:q≤x.length){r:List Nat}(hr:ao x q p=35::r)(hnl:10∈r)(hs:st.length+2≤big)(hb:br.length+2≤big)
  (h:K .cont ⟨S2 k x gl A B Z i (I_ (p+(r.takeWhile (fun c=>c != 10)).length+2)) (I_ q) nn (some (.d (.str last))) m np (chO ch),Cs c0 A B Z st (br++[(p,st.length+1)]++[(p+(r.takeWhile (fun c=>c != 10)).length+2,st.length)])⟩) :
  wpB P pr (n+20) vB ⟨S2 k x gl A B Z i (I_ p) (I_ q) nn (some (.d (.str last))) m np (chO ch),Cs c0 A B Z st br⟩ K:=by
 have hl:=aD x
 have hex:∀r':List Nat,10∈r'→r'[(r'.takeWhile (fun c=>c != 10)).length]?=some 10∧∀j,j<(r'.takeWhile (fun c=>c != 10)).length→r'[j]?≠some 10:=by
  intro r'
  induction r' with
  |nil=>intro h;contradiction
  |cons c r' ih=>
   intro hm
   by_cases hc:c=10
   ·subst hc;exact⟨rfl,fun j hj=>by simp at hj⟩
   ·have hb:(c != 10)=true:=bne_iff_ne.mpr hc
    have:=ih (by rcases List.mem_cons.mp hm with h|h;exact absurd h.symm hc;exact h)
    rw[List.takeWhile_cons,hb,if_pos rfl,List.length_cons]
    refine⟨by rw[List.getElem?_cons_succ];exact this.1,fun j hj=>?_⟩
    cases j with
    |zero=>simp[hc]
    |succ j=>rw[List.getElem?_cons_succ];exact this.2 j (by exact Om.o301 hj)
 obtain⟨h1,h2⟩:=hex r hnl
 have a1:(sg x)[p+((r.takeWhile (fun c=>c != 10)).length+1)]?=some 10∧p+((r.takeWhile (fun c=>c != 10)).length+1)<q:=fT hq (by rw[hr,List.getElem?_cons_succ];exact h1)
 have a0:(sg x)[p]?=some 35:=(fT (j:=0) hq (by rw[hr];rfl)).1
 have hf:ey x ⟨#[10]⟩ p q+1=((p+(r.takeWhile (fun c=>c != 10)).length+2:Nat):Int):=by
  obtain⟨j,e,j1,j2,j3,j4⟩:=l9 (x:=x) (i:=p) (hi:=q) hq ⟨_,by exact Om.o298,a1.2,a1.1⟩
  rw[e]
  have hj:j=p+((r.takeWhile (fun c=>c != 10)).length+1):=by
   rcases Nat.lt_trichotomy j (p+((r.takeWhile (fun c=>c != 10)).length+1)) with h|h|h
   ·exfalso
    by_cases hjp:j=p
    ·rw[hjp,a0] at j3;contradiction
    ·obtain⟨t,ht⟩:∃t,j=p+(t+1):=⟨j-p-1,by exact Om.o300 j1 hjp⟩
     refine h2 t (by exact Om.o299 h ht) ?_
     have:(ao x q p)[t+1]?=some 10:=by
      unfold ao;rw[List.getElem?_drop,List.getElem?_take,if_pos (by omega),←ht];exact j3
     rw[hr,List.getElem?_cons_succ] at this;exact this
   ·exact h
   ·exact absurd a1.1 (j4 _ (by exact Om.o298) h)
  rw[hj];exact Om.o297
 unfold vB
 refine fc (n:=n+12) (v:=st.length+1) C rfl rfl (by exact Om.o293 hb) (fun K' h=>nU (n:=n+8) C rfl (by exact Om.o293 hs) K' h) ?_
 refine av (n:=n+17) (.d (.int ((p+(r.takeWhile (fun c=>c != 10)).length+2:Nat)))) (fun K' h=>?_) ?_
 ·refine⟨rfl,rfl,⟨?_,?_,?_⟩,?_⟩
  ·show (0:Int)≤((p:Nat):Int);exact Om.o72
  ·show (0:Int)≤((q:Nat):Int);exact Om.o72
  ·show ((q:Nat):Int)≤((x.length:Nat):Int);exact Om.o296 hq
  ·show K' (.d (.int (ey x ⟨#[10]⟩ ((p:Nat):Int).toNat ((q:Nat):Int).toNat+1))) _
   rw[Int.toNat_natCast,Int.toNat_natCast,hf];exact h
 refine b6 (n:=n+16) (c':=Cs c0 A B Z st (br++[(p,st.length+1)])) (fun K' h=>?_) ?_
 ·show K' (decide ((0:Int)<((p+(r.takeWhile (fun c=>c != 10)).length+2:Nat):Int))) _
  rw[decide_eq_true (by exact Om.o295)];exact h
 refine fc (n:=n+9) (v:=st.length) C rfl rfl (by rw[List.length_append];dsimp only[List.length_cons,List.length_nil];exact Om.o294 hb) (fun K' h=>gL (n:=n+6) C rfl (by exact Om.o293 hs) K' h) ?_
 exact h
theorem wz (T:TextOk x)(hq:q≤x.length){d:Nat}{r:List Nat}(hr:ao x q p=92::d::r)
  (h:K .next ⟨S2 k x gl A B Z i (I_ (p+2)) (I_ q) nn (some (.d (.str (if d=10 then last else ⟨#[92,d]⟩)))) m np (chO 92),Cs c0 A B Z st br⟩) :
  wpB P pr (n+20) w9 ⟨S2 k x gl A B Z i (I_ p) (I_ q) nn (some (.d (.str last))) m np (chO 92),Cs c0 A B Z st br⟩ K:=by
 have hl:=aD x
 have hT:=T.len
 obtain⟨a1,a2⟩:=fT (j:=1) (d:=d) hq (by rw[hr];rfl)
 have hit:=ci a1
 have hlt:=(List.getElem?_eq_some_iff.mp a1).1
 unfold w9
 refine b6 (n:=n+18) (c':=Cs c0 A B Z st br) (fun K' h=>h) ?_
 refine av (n:=n+17) (.d (.int ((p+1:Nat)))) (fun K' h=>by rw[←pV] at h;exact h) ?_
 refine b6 (n:=n+16) (c':=Cs c0 A B Z st br) (fun K' h=>?_) ?_
 ·show K' (decide (((p+1:Nat):Int)<((q:Nat):Int))) _
  rw[decide_eq_true (by exact Om.o70 a2)];exact h
 have itm:∀{n:Nat} {l:Sl},aM l 1=some (.d (.str x))→aM l 4=some (.d (.int ((p+1:Nat))))→∀K':V→aa→Prop,K' (.d (.str ⟨#[d]⟩)) (Cs c0 A B Z st br)→wpE P (n+2) (.item (.v 1) (.v 4)) l (Cs c0 A B Z st br) K':=fun h1 h4 K' h=>
  bL (.d (.str x)) (.d (.int ((p+1:Nat)))) (bD h1) (bD h4) ⟨by exact Om.o71,by exact Om.o70 hlt,by exact Om.o63 hT,by rw[hit];exact h⟩
 have fin:wpB P pr (n+16) [oe] ⟨S2 k x gl A B Z i (I_ (p+1)) (I_ q) nn (some (.d (.str (if d=10 then last else ⟨#[92,d]⟩)))) m np (chO 92),Cs c0 A B Z st br⟩ K:=
  av (n:=n+14) (.d (.int ((p+2:Nat)))) (fun K' h=>by rw[show ((p+2:Nat):Int)=((p+1:Nat):Int)+1 by exact Om.o292] at h;exact h) (aA h)
 refine bw (n:=n+15) (!decide (d=10)) (c':=Cs c0 A B Z st br) (fun K' h=>?_) ?_
 ·refine dh (n:=n+14) (.d (.str ⟨#[d]⟩)) (.d (.str ⟨#[10]⟩)) (itm rfl rfl) (fun K' h=>h) ?_
  show K' (!((⟨#[d]⟩:Str)==⟨#[10]⟩)) _
  rw[mF];exact h
 ·by_cases hd:d=10
  ·rw[if_pos hd] at fin
   rw[decide_eq_true hd]
   exact aA fin
  ·rw[if_neg hd] at fin
   rw[decide_eq_false hd]
   refine av (n:=n+13) (.d (.str ⟨#[92,d]⟩)) (fun K' h=>?_) (aA fin)
   rw[cN]
   refine bD rfl _ ?_
   exact itm rfl rfl _ ⟨(by show 1+1≤big;decide),h⟩
end
section
variable {P:Pm}{c0:aa}{A B Z k:Nat}{pr:List Nat}{x:Str}{gl:List Nat}{st:List Nat}{br:List (Nat×Nat)}{p q n ch:Nat}{last:Str}{i nn m np:Option V}{K:F→Sg'→Prop}
theorem yP {c:aa}{l:Sl}{y:Str}(h13:aM l 13=chO ch)(K':Bool→aa→Prop)(h:K' ((sg y).contains ch) c):wpT P (n+2) (.cmp .In (.v 13) (.c (.str y))) l c K':=by
 refine dh (n:=n+1) (.d (.str ⟨#[ch]⟩)) (.d (.str y)) (bD h13) (fun K' h=>h) ?_
 show K' (Txt.contains y ⟨#[ch]⟩) c
 rw[iq];exact h
theorem wA {c:aa}{l:Sl}{a:Nat}(h13:aM l 13=chO ch)(K':Bool→aa→Prop)(h:K' (decide (ch=a)) c):wpT P (n+2) (.cmp .Eq (.v 13) (.c (.str ⟨#[a]⟩))) l c K':=by
 refine dh (n:=n+1) (.d (.str ⟨#[ch]⟩)) (.d (.str ⟨#[a]⟩)) (bD h13) (fun K' h=>h) ?_
 show K' ((⟨#[ch]⟩:Str)==⟨#[a]⟩) c
 rw[mF];exact h
theorem c3 (a b c ch:Nat):(sg ⟨#[a,b,c]⟩).contains ch=decide (ch=a∨ch=b∨ch=c):=by
 show ([a,b,c]:List Nat).contains ch=_
 simp only[List.contains_cons,List.contains_nil,Bool.or_false]
 by_cases h1:ch=a<;>by_cases h2:ch=b<;>by_cases h3:ch=c<;>simp[h1,h2,h3]
noncomputable abbrev T2 (k:Nat) (x:Str) (gl:List Nat) (A B Z q:Nat) (i nn m np ch:Option V) (c0:aa) (s:L2):Sg':=⟨S2 k x gl A B Z i (I_ s.p) (I_ q) nn (some (.d (.str s.last))) m np ch,Cs c0 A B Z s.st s.br⟩
theorem tx {ch:Nat}(hsp:Re.special ch=true)(h1:¬(ch=40∨ch=91∨ch=123))(h2:¬(ch=41∨ch=93∨ch=125))(h3:¬(ch=34∨ch=39))(h4:¬ch=35):ch=92:=by
 unfold Re.special at hsp
 simp only[Bool.or_eq_true,beq_iff_eq] at hsp
 rcases hsp with ((((((((h|h)|h)|h)|h)|h)|h)|h)|h)|h
 ·exact absurd (.inr (.inl h)) h1
 ·exact absurd (.inr (.inl h)) h2
 ·exact absurd (.inl h) h1
 ·exact absurd (.inl h) h2
 ·exact absurd (.inr (.inr h)) h1
 ·exact absurd (.inr (.inr h)) h2
 ·exact absurd h h4
 ·exact absurd (.inr h) h3
 ·exact absurd (.inl h) h3
 ·exact h
theorem rP (C:Cel2 c0 A B Z k pr)(T:TextOk x){sr:Addr}(hj:P.isFn sr=true)(hjf:P.fn sr=aP Re.strC)(hpq:p<q)(hq:q≤x.length){r:List Nat}(hr:ao x q p=ch::r)(hsp:Re.special ch=true)(hend:(ch::r).getLast?=some 10)(hs:st.length+2≤big)(hb:br.length+2≤big)
  (h:∀f ch',(f=.next∨f=.cont)→K f (T2 k x gl A B Z q i nn m np ch' c0 (ea p last st br (ch::r)))) :
  wpB P pr (n+30) (uS sr) ⟨S2 k x gl A B Z i (I_ p) (I_ q) nn (some (.d (.str last))) m np none,Cs c0 A B Z st br⟩ K:=by
 have hl:=aD x
 have hT:=T.len
 have a0:(sg x)[p]?=some ch:=(fT (j:=0) (d:=ch) hq (by rw[hr];rfl)).1
 have hlt:=(List.getElem?_eq_some_iff.mp a0).1
 unfold uS
 refine av (n:=n+28) (.d (.str ⟨#[ch]⟩)) (fun K' h=>bL (n:=n+27) (.d (.str x)) (.d (.int (p:Nat))) (fun K' h=>h) (fun K' h=>h) ⟨by exact Om.o54,by exact Om.o53 hlt,by exact Om.o63 hT,by rw[ci a0];exact h⟩) ?_
 refine bw (n:=n+27) (decide (ch=40∨ch=91∨ch=123)) (c':=Cs c0 A B Z st br) (fun K' h=>yP (n:=n+25) rfl K' (by rw[c3];exact h)) ?_
 by_cases h1:ch=40∨ch=91∨ch=123
 ·rw[decide_eq_true h1]
  have e:ea p last st br (ch::r)=⟨p+1,⟨#[ch]⟩,st++[p],br++[(p,st.length+1)]⟩:=by unfold ea;dsimp only;rw[if_pos h1]
  rw[e] at h
  exact sS (n:=n+7) C hs hb (h .cont _ (.inr rfl))
 rw[decide_eq_false h1]
 refine aA ?_
 refine bw (n:=n+26) (decide (ch=41∨ch=93∨ch=125)) (c':=Cs c0 A B Z st br) (fun K' h=>yP (n:=n+24) rfl K' (by rw[c3];exact h)) ?_
 by_cases h2:ch=41∨ch=93∨ch=125
 ·rw[decide_eq_true h2]
  have e:ea p last st br (ch::r)=⟨p+1,⟨#[ch]⟩,st.dropLast,br++[(p+1,st.dropLast.length)]⟩:=by unfold ea;dsimp only;rw[if_neg h1,if_pos h2]
  rw[e] at h
  exact oo (n:=n+6) C hs hb (h .cont _ (.inr rfl))
 rw[decide_eq_false h2]
 refine aA ?_
 refine bw (n:=n+25) (decide (ch=34∨ch=39)) (c':=Cs c0 A B Z st br) (fun K' h=>?_) ?_
 ·simp only[vv]
  refine wA (n:=n+22) rfl _ ⟨fun e=>?_,fun e=>?_⟩
  ·have:=of_decide_eq_true e
   rw[decide_eq_true (.inl this)] at h;exact h
  ·have n34:=of_decide_eq_false e
   refine wA (n:=n+22) rfl _ ?_
   have:decide (ch=39)=decide (ch=34∨ch=39):=by
    by_cases q:ch=39
    ·rw[decide_eq_true q,decide_eq_true (.inr q)]
    ·rw[decide_eq_false q,decide_eq_false (fun o=>o.elim n34 q)]
   simp only[this];exact h
 by_cases h3:ch=34∨ch=39
 ·rw[decide_eq_true h3]
  have e:ea p last st br (ch::r)=⟨p+Re.strEnd (ch::r),⟨#[ch]⟩,st,br++[(p,st.length+1)]++[(p+Re.strEnd (ch::r),st.length)]⟩:=by unfold ea;dsimp only;rw[if_neg h1,if_neg h2,if_pos h3]
  rw[e] at h
  exact te (n:=n+5) C T hj hjf hpq hq hr h3 hs hb (h .cont _ (.inr rfl))
 rw[decide_eq_false h3]
 refine aA ?_
 refine bw (n:=n+24) (decide (ch=35)) (c':=Cs c0 A B Z st br) (fun K' h=>wA (n:=n+22) rfl K' h) ?_
 by_cases h4:ch=35
 ·rw[decide_eq_true h4]
  subst h4
  have hnl:10∈r:=by
   cases r with
   |nil=>contradiction
   |cons d r=>rw[List.getLast?_cons_cons] at hend;exact List.mem_of_getLast? hend
  have e:ea p last st br (35::r)=⟨p+(r.takeWhile (fun c=>c != 10)).length+2,last,st,br++[(p,st.length+1)]++[(p+(r.takeWhile (fun c=>c != 10)).length+2,st.length)]⟩:=by unfold ea;dsimp only;rw[if_neg h1,if_neg h2,if_neg h3,if_pos rfl]
  rw[e] at h
  exact xp (n:=n+4) C T hq hr hnl hs hb (h .cont _ (.inr rfl))
 rw[decide_eq_false h4]
 refine aA ?_
 have h5:=tx hsp h1 h2 h3 h4
 subst h5
 cases r with
 |nil=>contradiction
 |cons d r=>
  have e:ea p last st br (92::d::r)=⟨p+2,if d=10 then last else ⟨#[92,d]⟩,st,br⟩:=by unfold ea;dsimp only;rw[if_neg h1,if_neg h2,if_neg h3,if_neg h4]
  rw[e] at h
  exact wz (n:=n+5) T hq hr (h .next _ (.inl rfl))
structure Ln (x:Str)(q:Nat)(s:L2):Prop where
 p:s.p≤q
 st:s.st.length≤s.p
 br:s.br.length≤2*s.p+1
theorem gn (q:Nat):∀w:List Nat,Re.sEnd3 q w≤w.length
 | []=>Nat.le_refl _
 | [c]=>by unfold Re.sEnd3;split<;>simp
 |c::d::r=>by
  unfold Re.sEnd3
  have h1:=gn q r
  have h2:=gn q (d::r)
  dsimp only[List.length_cons] at h2 ⊢
  split
  ·exact Om.o323 h1
  ·split
   ·rename_i h
    cases r with
    |nil=>exact absurd h.2.2 (by simp)
    |cons a r=>dsimp only[List.length_cons];exact Om.o325
   ·exact Om.o324 h2
theorem gj (q:Nat):∀w:List Nat,Re.sEnd1 q w≤w.length
 | []=>Nat.le_refl _
 | [c]=>by unfold Re.sEnd1;split<;>simp
 |c::d::r=>by
  unfold Re.sEnd1
  have h1:=gj q r
  have h2:=gj q (d::r)
  dsimp only[List.length_cons] at h2 ⊢
  split
  ·exact Om.o323 h1
  ·split
   ·exact Om.o322
   ·split<;>omega
theorem oA (ch:Nat)(r:List Nat):1≤Re.strEnd (ch::r)∧Re.strEnd (ch::r)≤(ch::r).length:=by
 have e:Re.strEnd (ch::r)=if r.head?=some ch∧r.tail.head?=some ch then 3+Re.sEnd3 ch (r.drop 2) else 1+Re.sEnd1 ch r:=rfl
 have h1:=gj ch r
 rw[e]
 split
 ·rename_i h
  match r,h with
  |a::b::r,h=>
   have:=gn ch r
   exact Om.o321 this
  | [],h=>exact absurd h.1 (by simp)
  | [a],h=>exact absurd h.2 (by simp)
 ·dsimp only[List.length_cons];exact Om.o320 h1
theorem xb {last1:Str}{w:List Nat}(hw:p+w.length=q)(hne:w≠[])(hend:w.getLast?=some 10)(hst:st.length≤p)(hbr:br.length≤2*p+1):Ln x q (ea p last1 st br w)∧p<(ea p last1 st br w).p:=by
 cases w with
 |nil=>exact absurd rfl hne
 |cons ch r=>
  simp only[List.length_cons] at hw
  unfold ea
  dsimp only
  split
  ·refine⟨⟨?_,?_,?_⟩,?_⟩<;>simp only[List.length_append,List.length_cons,List.length_nil]<;>omega
  split
  ·refine⟨⟨?_,?_,?_⟩,?_⟩<;>simp only[List.length_append,List.length_cons,List.length_nil,List.length_dropLast]<;>omega
  split
  ·have:=oA ch r
   simp only[List.length_cons] at this
   refine⟨⟨?_,?_,?_⟩,?_⟩<;>simp only[List.length_append,List.length_cons,List.length_nil]<;>omega
  split
  ·have h1:(r.takeWhile (fun c=>c != 10)).length<r.length:=by
    have h10:10∈r:=by
     rename_i h4
     cases r with
     |nil=>subst h4;contradiction
     |cons d r=>rw[List.getLast?_cons_cons] at hend;exact List.mem_of_getLast? hend
    have hle:(r.takeWhile (fun c=>c != 10)).length≤r.length:=(List.takeWhile_sublist _).length_le
    refine Nat.lt_of_le_of_ne hle fun e=>?_
    have e2:=Re.tw_take (fun c=>c != 10) r
    rw[e,List.take_length] at e2
    rw[e2] at h10
    exact absurd (Re.tw_all _ _ _ h10) (by decide)
   refine⟨⟨?_,?_,?_⟩,?_⟩<;>simp only[List.length_append,List.length_cons,List.length_nil]<;>omega
  ·cases r with
   |nil=>simp only[List.length_nil] at hw;exact⟨⟨(by show p+1≤q;exact Om.o319 hw),(by show st.length≤p+1;exact Om.o13 hst),(by show br.length≤2*(p+1)+1;exact Om.o318 hbr)⟩,(by show p<p+1;exact Om.o43)⟩
   |cons d r=>simp only[List.length_cons] at hw;exact⟨⟨(by show p+2≤q;exact Om.o317 hw),(by show st.length≤p+2;exact Om.o316 hst),(by show br.length≤2*(p+2)+1;exact Om.o315 hbr)⟩,(by show p<p+2;exact Om.o44)⟩
theorem lx (hq:q≤x.length)(hend:(sg x)[q-1]?=some 10)(hpq:p<q):(ao x q p).getLast?=some 10:=by
 have hlen:=dO (p:=p) hq
 rw[List.getLast?_eq_getElem?,hlen]
 unfold ao
 rw[List.getElem?_drop,List.getElem?_take,if_pos (by exact Om.o314 hpq),show p+(q-p-1)=q-1 by exact Om.o313 hpq];exact hend
theorem qw (C:Cel2 c0 A B Z k pr)(T:TextOk x)(hbig:2*x.length+10≤big){cr sr:Addr}(hc1:P.isFn cr=true)(hc2:P.fn cr=aP Re.chewC)(hj:P.isFn sr=true)(hjf:P.fn sr=aP Re.strC)(hq:q≤x.length)(hend:0<q→(sg x)[q-1]?=some 10)(hnn:nn=none∨∃d,nn=some (.d d))
  {J:L2→Prop} (hJ:∀s,J s→s.p<q→J (iE x q s)) {s0:L2} (hJ0:J s0) (hL0:Ln x q s0)
  (h:∀s i m np ch,J s→s.p=q→Ln x q s→K .next (T2 k x gl A B Z q i nn m np ch c0 s)) :
  wpS P pr (n+60) (.while_ (.cmp .Lt (.v 4) (.v 5)) (q7 cr++uS sr) []) (T2 k x gl A B Z q i nn none none none c0 s0) K:=by
 have hl:=aD x
 refine⟨fun k' τ=>∃s i,k'=q-s.p∧J s∧Ln x q s∧τ=T2 k x gl A B Z q i nn none none none c0 s,_,⟨s0,i,rfl,hJ0,hL0,rfl⟩,?_⟩
 rintro k' τ ⟨s,i,rfl,hJs,hLs,rfl⟩
 obtain⟨hL1,hL2,hL3⟩:=hLs
 refine⟨fun e=>?_,fun e=>?_⟩
 ·have hpq:s.p<q:=by have:=of_decide_eq_true e;exact Om.o62 this
  have hJ':=hJ s hJs hpq
  have hre:=lx (p:=s.p) hq (hend (by exact Om.o135 hpq)) hpq
  have hlen:=dO (p:=s.p) hq
  have hsplit:((ao x q s.p).takeWhile Re.ord_).length+((ao x q s.p).dropWhile Re.ord_).length=q-s.p:=by
   rw[←List.length_append,List.takeWhile_append_dropWhile,hlen]
  have hdrop:=Re.tw_drop Re.ord_ (ao x q s.p)
  have again:∀(f:F) (s':L2) (i m np ch:Option V),(f=.next∨f=.cont)→J s'→Ln x q s'→s.p<s'.p→
    (match f with
     | .next | .cont=>∃k' υ',k'<q-s.p∧Wk pr (T2 k x gl A B Z q i nn m np ch c0 s') υ'∧∃s2 i,k'=q-s2.p∧J s2∧Ln x q s2∧υ'=T2 k x gl A B Z q i nn none none none c0 s2
     | .brk=>K .next (T2 k x gl A B Z q i nn m np ch c0 s')
     | .ret v=>K (.ret v) (T2 k x gl A B Z q i nn m np ch c0 s')):=by
   intro f s' i m np ch hf hJ2 hL2 hlt
   have hnn':∀C,dr C nn nn:=fun C=>by rcases hnn with rfl|⟨d,rfl⟩;exact dq _ _;exact fO _ _
   have:=hL2.p
   rcases hf with rfl|rfl<;>exact⟨q-s'.p,_,by exact Om.o61 hlt this,vj C (dq _ _) (fO _ _) (fO _ _) (hnn' _) (fO _ _) (dq _ _) (dq _ _) (dq _ _),s',none,rfl,hJ2,hL2,rfl⟩
  refine pi (n:=n+19) C T hc1 hc2 hpq hq hnn rfl (fun hd i m np=>?_) (fun hd i m np=>?_)
  ·have e:iE x q s=⟨s.p+((ao x q s.p).takeWhile Re.ord_).length,lastOf ((ao x q s.p).takeWhile Re.ord_) s.last,s.st,s.br⟩:=by unfold iE;simp only[hd];rfl
   rw[hd] at hsplit
   dsimp only[List.length_nil,Nat.add_zero] at hsplit
   have hp:s.p+((ao x q s.p).takeWhile Re.ord_).length=q:=by exact Om.o312 hpq hsplit
   simp only[e] at hJ'
   exact h _ i m np none hJ' hp ⟨by simp only;exact Om.o311 hp,by simp only;exact Om.o308 hL2,by simp only;exact Om.o307 hL3⟩
  ·have hw:s.p+((ao x q s.p).takeWhile Re.ord_).length+((ao x q s.p).dropWhile Re.ord_).length=q:=by exact Om.o310 hpq hsplit
   have hr2:ao x q (s.p+((ao x q s.p).takeWhile Re.ord_).length)=(ao x q s.p).dropWhile Re.ord_:=by
    simp only[←hdrop];unfold ao;simp only[List.drop_drop]
   have hge:((ao x q s.p).dropWhile Re.ord_).getLast?=some 10:=by
    rw[←hr2];exact lx hq (hend (by exact Om.o135 hpq)) (by have:0<((ao x q s.p).dropWhile Re.ord_).length:=List.length_pos_iff.mpr hd;exact Om.o309 hw this)
   obtain⟨hln,hgt⟩:=xb (x:=x) (last1:=lastOf ((ao x q s.p).takeWhile Re.ord_) s.last) hw hd hge (st:=s.st) (br:=s.br) (by exact Om.o308 hL2) (by exact Om.o307 hL3)
   have e2:iE x q s=ea (s.p+((ao x q s.p).takeWhile Re.ord_).length) (lastOf ((ao x q s.p).takeWhile Re.ord_) s.last) s.st s.br ((ao x q s.p).dropWhile Re.ord_):=rfl
   simp only[e2] at hJ'
   cases hdw:(ao x q s.p).dropWhile Re.ord_ with
   |nil=>exact absurd hdw hd
   |cons ch r=>
    rw[hdw] at hr2 hge hln hgt hJ'
    have hsp:Re.special ch=true:=by
     have:=Re.dw_head hdw
     unfold Re.ord_ at this
     simpa using this
    refine rP (n:=n+27) C T hj hjf (by have:=hln.p;exact Om.o306 hgt this) hq hr2 hsp hge (by exact Om.o305 hbig hq hL2 hw) (by exact Om.o304 hbig hq hL3 hw) fun f ch' hf=>?_
    exact again f _ i m np ch' hf hJ' hln (by exact Om.o3 hgt)
 ·have hp:s.p=q:=by have:=of_decide_eq_false e;exact Om.o303 hL1 this
  exact aA (h s i none none none hJs hp ⟨hL1,hL2,hL3⟩)
end
noncomputable abbrev cU:Str:=Str.ofString "stmt_start"
noncomputable abbrev lj:Str:=Str.ofString "stmt_end"
noncomputable abbrev fJ:Str:=Str.ofString "lastch"
noncomputable abbrev lz:Str:=Str.ofString "lastopenbracketpos"
noncomputable abbrev nBr:Str:=Str.ofString "stmt_bracketing"
noncomputable def nP:List IS:=[.asgA (.v 0) fJ (.v 7),.asgA (.v 0) lz (.ite (.v 8) (.item (.v 8) (.c (.int (-1)))) (.c .none)),.asgA (.v 0) nBr (.call (.g (.bi .tuple)) [(.v 10)] none)]
noncomputable def uO (cr sr:Addr)(A B Z:Nat):List IS:=.unpA (.v 0) cU (.v 0) lj (.v 4) (.v 5)::.asg 7 (.c (.str ⟨#[]⟩))::.asg 8 (.lst [] (some A))::.asg 9 (.bnd (.v 8) B)::.asg 10 (.lst [(.tup [(.v 4),(.c (.int 0))])] (some Z)) ::
 .while_ (.cmp .Lt (.v 4) (.v 5)) (q7 cr++uS sr) []::nP
noncomputable def dc (st jr cr sr:Addr)(A B Z:Nat):List IS:=.if_ (.cmp .GtE (.attr (.v 0) nSl) (.c (.int 2))) [.ret none] []::.expr (.umeth (.v 0) st nS1 [])::.asgA (.v 0) nSl (.c (.int 2))::.unp2 1 2 (.attr (.v 0) cm) (.attr (.v 0) nGl) ::
 .asg 3 (.bin .Sub (.call (.g (.bi .len)) [(.v 2)] none) (.c (.int 1)))::.asg 4 (.call (.g (.bi .len)) [(.v 1)] none)::.while_ (.v 3) (l1B jr) [] ::
 .if_ (.cmp .Eq (.v 3) (.c (.int 0))) [.assert (.cmp .Eq (.v 4) (.c (.int 0))),.asg 5 (.v 4)] []::uO cr sr A B Z
inductive Rch (x:Str)(q:Nat)(s0:L2):L2→Prop
 |refl:Rch x q s0 s0
 |step {s:L2}:Rch x q s0 s→s.p<q→Rch x q s0 (iE x q s)
noncomputable def L0 (p:Nat):L2:=⟨p,⟨#[]⟩,[],[(p,0)]⟩
noncomputable def fZ (st:List Nat):D:=match st.getLast? with
 |some a=>.int (a:Nat)
 |none=>.none
noncomputable def e9 (fs:List (Str×V))(s:L2):List (Str×V):=put (put (put fs fJ (.d (.str s.last))) lz (.d (fZ s.st))) nBr (.d (.tup (brD s.br)))
noncomputable def stm (x:Str):Nat×Nat:=bf x (aS (fin x)) ((aS (fin x)).length-1)
noncomputable def studied2 (fs:List (Str×V))(x:Str)(s:L2):List (Str×V):=e9 (put (put (put (studied fs x) nSl (.d (.int 2))) cU (.d (.int ((stm x).1:Nat)))) lj (.d (.int ((stm x).2:Nat)))) s
structure Attr2 (P:Pm):Prop extends AttrOk P where
 st:P.attr cU=true
 en:P.attr lj=true
 la:P.attr fJ=true
 op:P.attr lz=true
 br:P.attr nBr=true
section
variable {P:Pm}{c0 c:aa}{A B Z k dk:Nat}{pr:List Nat}{x:Str}{gl:List Nat}{n q:Nat}{i nn m np ch:Option V}{K:F→Sg'→Prop}{fs:List (Str×V)}
theorem pT {j:Nat}{st:List Nat}{br:List (Nat×Nat)}(h:j∈dom c0)(o:O):cset (Cs c0 A B Z st br) j o=Cs (cset c0 j o) A B Z st br:=by
 unfold Cs
 rw[aU (by rw[af,af];simp[h]),aU (by rw[af];simp[h]),aU h]
theorem Cel2.cset (C:Cel2 c0 A B Z k pr){fs':List (Str×V)}(hdk:ae c0 dk=some (.ns fs))(hf:fsW (cset c0 dk (.ns fs')) (cset c0 dk (.ns fs')) fs' fs'):Cel2 (cset c0 dk (.ns fs')) A B Z k pr:=
 ⟨by rw[ai];exact C.a,by rw[ai];exact C.b,by rw[ai];exact C.z,C.ab,C.az,C.bz,C.w.set hdk hf,by rw[ai];exact C.k_,fun j hj=>by rw[ai];exact C.pr j hj⟩
theorem u3 {c:aa}{dk:Nat}{fs:List (Str×V)}(W:Wf c)(hdk:ae c dk=some (.ns fs))(nm:Str)(d:D):fsW (cset c dk (.ns (put fs nm (.d d)))) (cset c dk (.ns (put fs nm (.d d)))) (put fs nm (.d d)) (put fs nm (.d d)):=
 aq (vD _ _ _) (bu (fun j hj=>by rw[ai];exact hj) (W.fs hdk))
theorem rs (C:Cel2 c0 A B Z k pr){st:List Nat}{br:List (Nat×Nat)}(hk:ae c0 k=some (.inst P.C dk))(hdk:ae c0 dk=some (.ns fs)){nm:Str}(hat:P.attr nm=true)(hsz:fs.length≤1000){e:IE}{d:D}{r:List IS}{l:Sl}(h0:aM l 0=some (.obj k))
  (he:∀K':V→aa→Prop,K' (.d d) (Cs c0 A B Z st br)→wpE P (n+1) e l (Cs c0 A B Z st br) K') (h:Cel2 (cset c0 dk (.ns (put fs nm (.d d)))) A B Z k pr→wpB P pr (n+2) r ⟨l,Cs (cset c0 dk (.ns (put fs nm (.d d)))) A B Z st br⟩ K) :
  wpB P pr (n+3) (.asgA (.v 0) nm e::r) ⟨l,Cs c0 A B Z st br⟩ K:=by
 refine cQ (n:=n+1) (.d d) (c':=Cs c0 A B Z st br) (k:=k) (dk:=dk) (fs:=fs) he (bD h0) (by rw[nZ C C.k_];exact hk) (by rw[nZ C (al hdk)];exact hdk) hat hsz ?_
 rw[pT (al hdk)]
 exact h (C.cset hdk (u3 C.w hdk nm d))
theorem ba (fs:List (Str×V))(nm:Str)(v:V){m:Nat}(h:fs.length≤m):(put fs nm v).length≤m+1:=by have:=df fs nm v;exact Om.o329 h this
theorem ti (C:Cel2 c0 A B Z k pr)(At:Attr2 P)(hk:ae c0 k=some (.inst P.C dk))(hdk:ae c0 dk=some (.ns fs))(hsz:fs.length≤950)(hkd:k≠dk){s:L2}(hs:s.st.length≤big)(hb:s.br.length≤big){l:Sl}(h0:aM l 0=some (.obj k))(h7:aM l 7=some (.d (.str s.last)))(h8:aM l 8=some (.obj A))(h10:aM l 10=some (.obj Z))
  (h:Cel2 (cset c0 dk (.ns (e9 fs s))) A B Z k pr→K .next ⟨l,Cs (cset c0 dk (.ns (e9 fs s))) A B Z s.st s.br⟩):wpB P pr (n+20) nP ⟨l,Cs c0 A B Z s.st s.br⟩ K:=by
 have dkd:=al hdk
 have hk':∀f,ae (cset c0 dk (.ns f)) k=some (.inst P.C dk):=fun f=>by rw[ar dkd,if_neg hkd];exact hk
 have hd':∀f,ae (cset c0 dk (.ns f)) dk=some (.ns f):=fun f=>by rw[ar dkd,if_pos rfl]
 unfold nP
 refine rs (n:=n+17) C hk hdk At.la (by exact Om.o328 hsz) h0 (bD h7) fun C1=>?_
 refine rs (n:=n+16) (d:=fZ s.st) C1 (hk' _) (hd' _) At.op (Nat.le_trans (ba fs _ _ hsz) (by exact Om.o327)) h0 (fun K' hK=>?_) fun C2=>?_
 ·show aw (aM l 8) fun v=>bJ (Cs (cset c0 dk (.ns (put fs fJ (.d (.str s.last))))) A B Z s.st s.br) v _
  rw[h8]
  show aw (bW (Cs (cset c0 dk (.ns (put fs fJ (.d (.str s.last))))) A B Z s.st s.br) (.obj A)) _
  rw[tj C1]
  refine⟨by rw[bM];exact hs,fun e=>?_,fun e=>?_⟩
  ·cases hst:s.st.getLast? with
   |none=>
    have:s.st=[]:=List.getLast?_eq_none_iff.mp hst
    rw[this] at e;contradiction
   |some a=>
    have hop:fZ s.st=.int (a:Nat):=by unfold fZ;rw[hst]
    rw[hop] at hK
    refine bL (n:=n+15) (.obj A) (.d (.int (-1))) (bD h8) (fun K' h=>h) ?_
    show aw (bW (Cs (cset c0 dk (.ns (put fs fJ (.d (.str s.last))))) A B Z s.st s.br) (.obj A)) _
    rw[tj C1]
    have hne:0<s.st.length:=by cases hq:s.st with|nil=>rw[hq] at hst;contradiction|cons _ _=>simp
    refine⟨by rw[bM];exact hs,s.st.length-1,.int (a:Nat),?_,?_,hK⟩
    ·rw[bM]
     show (if (decide (0≤(if (-1:Int)<0 then -1+(s.st.length:Int) else -1))&&decide ((if (-1:Int)<0 then -1+(s.st.length:Int) else -1)<(s.st.length:Int)))=true then some (if (-1:Int)<0 then -1+(s.st.length:Int) else -1).toNat else none)=_
     rw[if_pos (show (-1:Int)<0 by decide),decide_eq_true (by exact Om.o28 hne),decide_eq_true (by exact Om.o27),Bool.and_self,if_pos rfl]
     congr 1;exact Om.o26
    ·rw[List.getLast?_eq_getElem?] at hst;exact lF hst
  ·have hst:s.st=[]:=by
    cases hq:s.st with
    |nil=>rfl
    |cons a r=>rw[hq] at e;contradiction
   have hop:fZ s.st=.none:=by unfold fZ;rw[hst];rfl
   rw[hop] at hK
   exact hK
 rw[aV] at C2 ⊢
 refine rs (n:=n+15) (d:=.tup (brD s.br)) C2 (hk' _) (hd' _) At.br (Nat.le_trans (ba _ _ _ (ba fs _ _ hsz)) (by exact Om.o326)) h0 (fun K' hK=>?_) fun C3=>?_
 ·refine e6 (n:=n+13) (u:=.bi .tuple) (v1:=.obj Z) (fun K' h=>h) (bD h10) ?_
  show aw (bW (Cs (cset c0 dk (.ns (put (put fs fJ (.d (.str s.last))) lz (.d (fZ s.st))))) A B Z s.st s.br) (.obj Z)) _
  rw[zq C2]
  exact⟨rfl,by rw[nL];exact hb,hK⟩
 rw[aV] at C3 ⊢
 exact aA (h C3)
end
section
variable {P:Pm}{c0 c:aa}{A B Z k dk:Nat}{pr:List Nat}{x:Str}{gl:List Nat}{n p q:Nat}{i nn m np ch:Option V}{K:F→Sg'→Prop}{fs:List (Str×V)}
theorem uJ {n:Nat}{o1 o2 a b:IE}{n1 n2:Str}{r:List IS}{l:Sl}{u v:D}(hk:ae c k=some (.inst P.C dk))(hdk:ae c dk=some (.ns fs))(hkd:k≠dk)(h1:P.attr n1=true)(h2:P.attr n2=true)(hsz:fs.length≤990)
  (ha:∀K':V→aa→Prop,K' (.d u) c→wpE P n a l c K') (hb:∀K':V→aa→Prop,K' (.d v) c→wpE P n b l c K') (ho1:∀(c':aa) (K':V→aa→Prop),K' (.obj k) c'→wpE P n o1 l c' K') (ho2:∀(c':aa) (K':V→aa→Prop),K' (.obj k) c'→wpE P n o2 l c' K')
  (h:wpB P pr (n+1) r ⟨l,cset c dk (.ns (put (put fs n1 (.d u)) n2 (.d v)))⟩ K):wpB P pr (n+2) (.unpA o1 n1 o2 n2 a b::r) ⟨l,c⟩ K:=by
 have dkd:=al hdk
 refine ha _ (hb _ ?_)
 refine ho1 _ _ (cM hk hdk h1 (by exact Om.o336 hsz) ?_)
 refine ho2 _ _ (cM (k:=k) (dk:=dk) (fs:=put fs n1 (.d u)) (by rw[ar dkd,if_neg hkd];exact hk) (by rw[ar dkd,if_pos rfl]) h2 (Nat.le_trans (ba fs _ _ hsz) (by exact Om.o335)) ?_)
 rw[aV];exact h
theorem wK {x:Str}{q:Nat}{s0:L2}:∀s,Rch x q s0 s→s.p<q→Rch x q s0 (iE x q s):=fun s h hp=>.step h hp
theorem xd (At:Attr2 P)(W:Wf c)(hk:ae c k=some (.inst P.C dk))(hdk:ae c dk=some (.ns fs))(hsz:fs.length≤940)(T:TextOk x)(hbig:2*x.length+10≤big){cr sr:Addr}(hc1:P.isFn cr=true)(hc2:P.fn cr=aP Re.chewC)(hj:P.isFn sr=true)(hjf:P.fn sr=aP Re.strC)
  (hA:A∉dom c) (hB:B∉dom c) (hZ:Z∉dom c) (ab:A≠B) (az:A≠Z) (bz:B≠Z) (hpr:∀j∈pr,j∈dom c) (hpq:p≤q) (hq:q≤x.length) (hend:0<q→(sg x)[q-1]?=some 10) (hnn:nn=none∨∃d,nn=some (.d d))
  (h:∀s l,Rch x q (L0 p) s→s.p=q→Cel2 (cset c dk (.ns (e9 (put (put fs cU (.d (.int (p:Nat)))) lj (.d (.int (q:Nat)))) s))) A B Z k pr→
   K .next ⟨l,Cs (cset c dk (.ns (e9 (put (put fs cU (.d (.int (p:Nat)))) lj (.d (.int (q:Nat)))) s))) A B Z s.st s.br⟩) :
  wpB P pr (n+80) (uO cr sr A B Z) ⟨S1 k x gl i (I_ p) (I_ q) nn,c⟩ K:=by
 have hkd:k≠dk:=fun e=>by rw[e,hdk] at hk;simp at hk
 have dkd:=al hdk
 have kd:=al hk
 unfold uO
 refine uJ (n:=n+78) (u:=.int (p:Nat)) (v:=.int (q:Nat)) hk hdk hkd At.st At.en (by exact Om.o334 hsz) (fun K' h=>h) (fun K' h=>h) (fun c' K' h=>h) (fun c' K' h=>h) ?_
 generalize hf:put (put fs cU (.d (.int (p:Nat)))) lj (.d (.int (q:Nat)))=f at *
 have W1:Wf (cset c dk (.ns f)):=by
  rw[←hf]
  refine W.set hdk (aq (vD _ _ _) (aq (vD _ _ _) (bu (fun j hj=>by rw[ai];exact hj) (W.fs hdk))))
 have hfl:f.length≤950:=by rw[←hf];exact Nat.le_trans (ba _ _ _ (ba fs _ _ hsz)) (by exact Om.o333)
 have hk1:ae (cset c dk (.ns f)) k=some (.inst P.C dk):=by rw[ar dkd,if_neg hkd];exact hk
 have hd1:ae (cset c dk (.ns f)) dk=some (.ns f):=by rw[ar dkd,if_pos rfl]
 have d1:dom (cset c dk (.ns f))=dom c:=ai ..
 have CC:Cel2 (cset c dk (.ns f)) A B Z k pr:=⟨by rw[d1];exact hA,by rw[d1];exact hB,by rw[d1];exact hZ,ab,az,bz,W1,by rw[d1];exact kd,fun j hj=>by rw[d1];exact hpr j hj⟩
 have ecc:∀s,cset (cset c dk (.ns f)) dk (.ns (e9 f s))=cset c dk (.ns (e9 f s)):=fun s=>aV ..
 generalize cset c dk (.ns f)=c1 at *
 refine av (n:=n+77) (.d (.str ⟨#[]⟩)) (fun K' h=>h) ?_
 refine bP (n:=n+76) (.obj A) (c':=c1++[(A,.list [])]) (fun K' h=>⟨(by decide),CC.a,h⟩) ?_
 refine bP (n:=n+75) (.obj B) (c':=c1++[(A,.list [])]++[(B,.bound "list.append" A)]) (fun K' h=>u6 (n:=n+73) (xs:=[]) rfl (by rw[show ([]:List D)=aQ [] from rfl,ap CC.a,if_pos rfl]) (nb (st:=[]) CC) _ h) ?_
 refine bP (n:=n+74) (.obj Z) (c':=Cs c1 A B Z [] [(p,0)]) (fun K' h=>?_) ?_
 ·rw[s9,bd]
  refine mZ (n:=n+68) (d1:=.int (p:Nat)) (d2:=.int 0) (fun K' h=>h) (fun K' h=>h) ?_
  exact⟨(by show 1≤big;decide),nz (st:=[]) CC,h⟩
 refine dn (n:=n+74) (qw (n:=n+14) CC T hbig hc1 hc2 hj hjf hq hend hnn (J:=Rch x q (L0 p)) wK (s0:=L0 p) .refl ⟨hpq,Nat.zero_le _,by show 1≤2*p+1;exact Om.o332⟩ fun s i m np ch hr hp hl=>?_)
 show wpB P pr (n+74) nP ⟨S2 k x gl A B Z i (I_ s.p) (I_ q) nn (some (.d (.str s.last))) m np ch,Cs c1 A B Z s.st s.br⟩ K
 refine ti (n:=n+54) CC At hk1 hd1 hfl hkd (by have:=hl.st;exact Om.o331 hbig hq hp this) (by have:=hl.br;exact Om.o330 hbig hq hp this) rfl rfl rfl rfl fun C3=>?_
 rw[ecc] at C3 ⊢
 exact h s _ hr hp C3
end
theorem vb {l:List Nat}(h:l.Pairwise (·<·)):∀(i a:Nat),l[i]?=some a→i≤a
 |0,a,_=>Nat.zero_le _
 |i+1,a,e=>by
  obtain⟨h1,e1⟩:=List.getElem?_eq_some_iff.mp e
  have h2:=vb h i (l[i]'(by exact Om.o120 h1)) (List.getElem?_eq_getElem _)
  have h3:=List.pairwise_iff_getElem.mp h i (i+1) (by exact Om.o120 h1) h1 (by exact Om.o43)
  exact Om.o350 e1 h2 h3
theorem rR:∀l:List Nat,nls l≤l.length
 | []=>Nat.le_refl _
 |c::l=>by unfold nls;have:=rR l;dsimp only[List.length_cons];split<;>omega
theorem ka {x:Str}{gl:List Nat}(G:GoodOk x gl):1≤gl.length∧gl.length≤(sg x).length+1:=by
 have hl:=G.last
 rw[List.getLast?_eq_getElem?] at hl
 have h1:=(List.getElem?_eq_some_iff.mp hl).1
 have h2:=vb G.up _ _ hl
 have h3:=rR (sg x)
 exact Om.o349 h1 h2 h3
theorem jw {x:Str}{gl:List Nat}(G:GoodOk x gl):∀i,i+1≤gl.length→(bf x gl i).1≤(bf x gl i).2∧(bf x gl i).2≤x.length∧(0<(bf x gl i).2→(sg x)[(bf x gl i).2-1]?=some 10)
 |0,_=>⟨Nat.le_refl _,Nat.zero_le _,fun h=>absurd h (Nat.lt_irrefl _)⟩
 |i+1,hi=>by
  unfold bf
  split
  ·exact jw G i (by exact Om.o348 hi)
  ·obtain⟨a,ha⟩:∃a,gl[i]?=some a:=⟨_,List.getElem?_eq_getElem (by exact Om.o347 hi)⟩
   obtain⟨b,hb⟩:∃b,gl[i+1]?=some b:=⟨_,List.getElem?_eq_getElem (by exact Om.o346 hi)⟩
   obtain⟨h1,h2⟩:=G.at_ ha hb
   rw[List.getD_eq_getElem?_getD,List.getD_eq_getElem?_getD,ha,hb]
   have h3:=e7 (sg x) h1 h2
   have h4:=iB (sg x) b h2
   have h5:=aD x
   obtain⟨b',rfl⟩:∃b',b=b'+1:=⟨b-1,by exact Om.o345 h1⟩
   have h6:=(fH (sg x) b' (by exact Om.o74 h2)).2.1
   refine⟨?_,?_,fun _=>h6⟩
   ·show am (sg x) a≤am (sg x) (b'+1);exact Om.o58 h3
   ·show am (sg x) (b'+1)≤x.length;exact Om.o344 h4
section
variable {P:Pm}{c0 c:aa}{A B Z k dk g b:Nat}{x:Str}{n:Nat}{fs:List (Str×V)}
theorem xc {pr:List Nat}(C:Cel2 c0 A B Z k pr){st:List Nat}{br:List (Nat×Nat)}:bY (Cs c0 A B Z st br) c0 c0:=by
 rw[celW_iff]
 intro p hp
 obtain⟨o,h1,h2⟩:=celW_iff.mp C.w.w p hp
 exact⟨o,by rw[nZ C (al h1)];exact h1,ek (fun _ h=>h) h2⟩
noncomputable abbrev nS2:Str:=Str.ofString "_study2"
theorem ne9:nGl≠nSl:=fun e=>ne1 e.symm
theorem oH {st jr cr sr:Addr}(At:Attr2 P)(pa:ParAt P.C c k dk fs)(F:Fresh fs x)(hbig:2*x.length+10≤big)(hg:g∉dom c)(hb:b∉dom c)(hA:A∉dom c)(hB:B∉dom c)(hZ:Z∉dom c)(ab:A≠B)(az:A≠Z)(bz:B≠Z)
  (hs:P.isFn st=true) (hsf:P.fn st=d7 P.C g b) (hj:P.isFn jr=true) (hjf:P.fn jr=aP Re.junkC) (hc1:P.isFn cr=true) (hc2:P.fn cr=aP Re.chewC) (hs1:P.isFn sr=true) (hs2:P.fn sr=aP Re.strC) {K:V→aa→Prop}
  (h:∀s,Rch x (stm x).2 (L0 (stm x).1) s→s.p=(stm x).2→K (.d .none) (cset c dk (.ns (studied2 fs x s)))) :
  wpB P (dom c) (n+130) (dc st jr cr sr A B Z) ⟨start [.obj k] 13,c⟩ (EndP c K):=by
 have hkd:k≠dk:=fun e=>by have:=pa.k_;rw[e,pa.d_] at this;simp at this
 have dkd:=al pa.d_
 have kd:=al pa.k_
 have T:=F.t
 have G:=mV x
 obtain⟨gl1,gl2⟩:=ka G
 have hT:=T.len
 have hlx:=aD x
 have hxb:x.length≤big:=by exact Om.o63 hT
 have hgb:(aS (fin x)).length≤big:=by exact Om.o343 gl2 hT
 obtain⟨q1,q2,q3⟩:=jw G ((aS (fin x)).length-1) (by exact Om.o342 gl1)
 have hstd:(studied fs x).length≤903:=by
  unfold studied
  exact Nat.le_trans (ba _ _ _ (ba _ _ _ (ba _ _ _ F.len))) (by exact Om.o341)
 have rd:=ju fs x
 have hco:look (put (studied fs x) nSl (.d (.int 2))) cm=some (.d (.str x)):=by
  rw[ah,if_neg db]
  unfold studied
  rw[ah,if_neg (by decide +kernel),ah,if_neg (by decide +kernel),ah,if_neg db];exact F.co
 have hgl:look (put (studied fs x) nSl (.d (.int 2))) nGl=some (.d (.lst (aQ (aS (fin x))))):=by rw[ah,if_neg ne9];exact rd.gl
 unfold dc
 refine bw (n:=n+128) false (c':=c) (fun K' h=>?_) (aA ?_)
 ·rw[eX];exact cI (n:=n+125) rfl pa.k_ pa.d_ At.sl F.sl rfl _ h
 refine eG (n:=n+127) (.d .none) (c':=cset c dk (.ns (studied fs x))) (fun K' h=>ma (n:=n+124) rfl pa hs hsf K' (.inr ⟨x,F,hg,hb,h⟩)) ?_
 have p1:=pa.studied x
 refine cQ (n:=n+126) (.d (.int 2)) (c':=cset c dk (.ns (studied fs x))) (k:=k) (dk:=dk) (fs:=studied fs x) (fun K' h=>h) (fun K' h=>h) p1.k_ p1.d_ At.sl (by exact Om.o340 hstd) ?_
 rw[aV]
 have hk1:ae (cset c dk (.ns (put (studied fs x) nSl (.d (.int 2))))) k=some (.inst P.C dk):=by rw[ar dkd,if_neg hkd];exact pa.k_
 have hd1:ae (cset c dk (.ns (put (studied fs x) nSl (.d (.int 2))))) dk=some (.ns (put (studied fs x) nSl (.d (.int 2)))):=by rw[ar dkd,if_pos rfl]
 have d1:dom (cset c dk (.ns (put (studied fs x) nSl (.d (.int 2)))))=dom c:=ai ..
 have W1:Wf (cset c dk (.ns (put (studied fs x) nSl (.d (.int 2))))):=by
  have:=p1.w.set p1.d_ (u3 p1.w p1.d_ nSl (.int 2))
  rw[aV] at this;exact this
 have fl:(put (studied fs x) nSl (.d (.int 2))).length≤940:=Nat.le_trans (ba _ _ _ hstd) (by exact Om.o339)
 have ecc:∀f,cset (cset c dk (.ns (put (studied fs x) nSl (.d (.int 2))))) dk (.ns f)=cset c dk (.ns f):=fun f=>aV ..
 have e2:∀s,studied2 fs x s=e9 (put (put (put (studied fs x) nSl (.d (.int 2))) cU (.d (.int ((stm x).1:Nat)))) lj (.d (.int ((stm x).2:Nat)))) s:=fun s=>rfl
 generalize put (studied fs x) nSl (.d (.int 2))=f2 at *
 generalize cset c dk (.ns f2)=c1 at *
 refine nF (n:=n+125) (.str x) (.lst (aQ (aS (fin x)))) (fun K' h=>cI (n:=n+123) rfl hk1 hd1 At.co hco rfl _ h) (fun K' h=>cI (n:=n+123) rfl hk1 hd1 At.gl hgl rfl _ h) ?_
 refine av (n:=n+124) (.d (.int (((aS (fin x)).length-1:Nat)))) (fun K' h=>?_) ?_
 ·rw[cN]
  refine e6 (n:=n+120) (u:=.bi .len) (v1:=.d (.lst (aQ (aS (fin x))))) (fun K' h=>h) (fun K' h=>h) ?_
  refine⟨by rw[bM];exact hgb,?_⟩
  have e:(((aS (fin x)).length-1:Nat):Int)=(((aQ (aS (fin x))).length:Nat):Int)-1:=by rw[bM];exact Om.o338 gl1
  rw[e] at h;exact h
 refine av (n:=n+123) (.d (.int (x.length:Nat))) (fun K' h=>⟨hxb,h⟩) ?_
 have kd1:k∈dom c1:=by rw[d1];exact kd
 have pr1:∀j∈dom c,j∈dom c1:=fun j hj=>by rw[d1];exact hj
 have fin2:∀{i nn:Option V},(nn=none∨∃d,nn=some (.d d))→wpB P (dom c) (n+122) (uO cr sr A B Z) ⟨S1 k x (aS (fin x)) i (I_ (stm x).1) (I_ (stm x).2) nn,c1⟩ (EndP c K):=by
  intro i nn hnn
  refine xd (n:=n+42) At W1 hk1 hd1 fl T hbig hc1 hc2 hs1 hs2 (by rw[d1];exact hA) (by rw[d1];exact hB) (by rw[d1];exact hZ) ab az bz pr1 q1 q2 q3 hnn fun s l hr hp CC=>?_
  rw[ecc] at CC ⊢
  exact⟨.d .none,_,vD _ _ _,xc CC,fun j hj=>by rw[ai];exact hj,by rw[←e2];exact h s hr hp⟩
 refine dn (n:=n+123) (rX (n:=n+93) T G hgb hj hjf kd1 W1.w pr1 (fun h0=>?_) fun i a b nn hnn ha hb h1=>?_)
 ·refine bw (n:=n+121) true (c':=c1) (fun K' h=>h) ?_
  refine b6 (n:=n+119) (c':=c1) (fun K' h=>h) ?_
  refine av (n:=n+118) (.d (.int 0)) (fun K' h=>h) (aA ?_)
  have:=fin2 (i:=I_ 0) (nn:=none) (.inl rfl)
  have e:stm x=(0,0):=h0
  rw[e] at this;exact this
 ·refine bw (n:=n+121) false (c':=c1) (fun K' h=>?_) (aA ?_)
  ·show K' ((((i+1:Nat):Int))==0) c1
   rw[show ((((i+1:Nat):Int))==0)=false from beq_eq_false_iff_ne.mpr (by exact Om.o337)];exact h
  ·have:=fin2 (i:=I_ (i+1)) hnn
   have e:stm x=(am (sg x) a,am (sg x) b):=h1
   rw[e] at this;exact this
theorem jN {st jr cr sr:Addr}(At:Attr2 P)(pa:ParAt P.C c k dk fs)(h1:look fs nSl=some (.d (.int 2))){K:V→aa→Prop}(h:K (.d .none) c):wpB P (dom c) (n+130) (dc st jr cr sr A B Z) ⟨start [.obj k] 13,c⟩ (EndP c K):=by
 unfold dc
 refine bw (n:=n+128) true (c':=c) (fun K' h=>?_) ?_
 ·rw[eX];exact cI (n:=n+125) rfl pa.k_ pa.d_ At.sl h1 rfl _ h
 ·exact EndP.same pa.w (fun _ h=>h) rfl h
end
end Mine
end
section
namespace Mine
namespace Re
open PySem PySem.Sre
noncomputable def closeC:Array Nat:=#[14,4,0,4,4294967295,24,9,0,4294967295,13,4,8,12,0,1,7,15,16,114,16,101,16,116,16,117,16,114,16,110,15,58,13,16,98,16,114,16,101,16,97,16,107,15,45,19,16,99,16,111,16,110,16,116,16,105,16,110,16,117,16,101,15,26,13,16,114,16,97,16,105,16,115,16,101,15,13,11,16,112,16,97,16,115,16,115,15,2,0,6,10,1]
noncomputable def five:List (List Nat):=[[114,101,116,117,114,110],[98,114,101,97,107],[99,111,110,116,105,110,117,101],[114,97,105,115,101],[112,97,115,115]]
noncomputable def bnd (s:List Nat):Bool:=match s with
 | []=>true
 |c::_=>!iL c
noncomputable def hit (ws v:List Nat):Bool:=ws.isPrefixOf v&&bnd (v.drop ws.length)
noncomputable def tryB (v:List Nat):Bool:=five.any fun ws=>hit ws v
noncomputable def closeB (w:List Nat):Bool:=tryB (w.dropWhile space)
noncomputable def jA (code:Array Nat):Nat→List Nat→Bool
 |_,[]=>true
 |pc,x::r=>code.getD pc 0==16&&code.getD (pc+1) 0==x&&decide (pc<code.size)&&jA code (pc+2) r
theorem iH {code:Array Nat}{pc x:Nat}{r:List Nat}(h:jA code pc (x::r)=true):ops[code.getD pc 0]?=some .LITERAL∧code.getD (pc+1) 0=x∧pc<code.size∧jA code (pc+2) r=true:=by
 simp only[jA,Bool.and_eq_true,beq_iff_eq,decide_eq_true_eq] at h
 exact⟨by rw[h.1.1.1];rfl,h.1.1.2,h.1.2,h.2⟩
section
variable {z:Z}{r:Option Nat}{N:Nat}{om:Bool}{loops:Array Loop}{inner:Option Nat}{fs:List Fr}
theorem nu:∀{ws:List Nat} {pc pos h:Nat} {v:List Nat},jA z.code pc ws=true→At z pos v→ws.isPrefixOf v=false→No z r N loops inner fs→Ends z r (N+ws.length) ⟨pc,pos,h,om,loops,inner,fs,none⟩
 | [],_,_,_,v,_,_,hp,_=>by rw[List.isPrefixOf_nil_left] at hp;cases hp
 |x::ws,pc,pos,h,v,hl,hw,hp,k=>by
  obtain⟨h1,h2,h3,h4⟩:=iH hl
  by_cases q:∃s,v=x::s
  ·obtain⟨s,rfl⟩:=q
   rw[List.isPrefixOf_cons_cons,beq_self_eq_true,Bool.true_and] at hp
   exact cq h1 h3 h2 hw (nu h4 hw.next hp k)
  ·exact Ends.mono (dK h1 h3 h2 hw (fun s e=>q ⟨s,e⟩) k) (by dsimp only[List.length_cons];exact Om.o366)
theorem lI:∀{ws:List Nat} {pc pos h:Nat} {s:List Nat},jA z.code pc ws=true→At z pos (ws++s)→Ends z r N ⟨pc+2*ws.length,pos+ws.length,h,om,loops,inner,fs,none⟩→Ends z r (N+ws.length) ⟨pc,pos,h,om,loops,inner,fs,none⟩
 | [],_,_,_,_,_,_,k=>k
 |x::ws,pc,pos,h,s,hl,hw,k=>by
  obtain⟨h1,h2,h3,h4⟩:=iH hl
  refine cq h1 h3 h2 hw (lI h4 hw.next ?_)
  rw[show pc+2+2*ws.length=pc+2*(x::ws).length by dsimp only[List.length_cons];exact Om.o365,show pos+1+ws.length=pos+(x::ws).length by dsimp only[List.length_cons];exact Om.o23]
  exact k
end
section
variable {text:Array Nat}{lim st:Nat}
noncomputable abbrev cZ (text:Array Nat) (lim st:Nat):Z:=⟨closeC,text,lim,st⟩
noncomputable abbrev cG (p n:Nat):Fr:={wait:=.giveBack,pc:=5,pos:=p,om:=true,count:=n}
noncomputable abbrev cB (a p:Nat):Fr:={wait:=.nextBranch,pc:=a,pos:=p,om:=true}
theorem tt:((List.range 128).all fun c=>isWordUni c==iL c)=true:=by decide +kernel
theorem kZ {c:Nat}(h:c<128):isWordUni c=iL c:=by simpa using qH tt h
theorem nG {z:Z}:∀{ws:List Nat} {pos:Nat} {s:List Nat},At z pos (ws++s)→ws≠[]→z.text.getD (pos+ws.length-1) 0=ws.getLastD 0
 | [],_,_,_,h=>absurd rfl h
 | [x],_,_,hw,_=>hw.sign
 |x::y::ws,pos,s,hw,_=>by
  have:=nG (ws:=y::ws) hw.next (List.cons_ne_nil _ _)
  rw[show pos+(x::y::ws).length-1=pos+1+(y::ws).length-1 by dsimp only[List.length_cons];exact Om.o364,this];rfl
theorem ud {ws s:List Nat}{a p n h:Nat}(hl:jA closeC (a+1) ws=true)(hj:closeC.getD (a+1+2*ws.length) 0=15)(hj2:a+1+2*ws.length+1+closeC.getD (a+1+2*ws.length+1) 0=88)(hsz:a+1+2*ws.length<closeC.size)
  (hne:ws≠[]) (hwd:iL (ws.getLastD 0)=true) (hw:At (cZ text lim st) p (ws++s)) (hlow:Low (ws++s)) {r:Option Nat} {N:Nat} (k:if bnd s=true then r=some (p+ws.length)∧4≤N else No (cZ text lim st) r N #[] none [cB a p,cG p n]) :
  Ends (cZ text lim st) r (N+2+ws.length) ⟨a+1,p,h,true,#[],none,[cB a p,cG p n],none⟩:=by
 refine lI hl hw (ox (by rw[show (cZ text lim st).code.getD (a+1+2*ws.length) 0=15 from hj];rfl) hsz ?_)
 rw[show a+1+2*ws.length+1+(cZ text lim st).code.getD (a+1+2*ws.length+1) 0=88 from hj2]
 have hbef:=nG hw hne
 have hlast:ws.getLastD 0<128:=by
  refine hlow _ (List.mem_append_left _ ?_)
  cases ws with
  |nil=>exact absurd rfl hne
  |cons x r=>rw[List.getLastD_cons,←List.getLast_eq_getLastD (List.cons_ne_nil x r)];exact List.getLast_mem _
 have hws:0<ws.length:=List.length_pos_iff.mpr hne
 have hlen:=hw.1
 rw[List.length_append] at hlen
 have hhere:(decide (p+ws.length<lim)&&isWordUni (text.getD (p+ws.length) 0))=!bnd s:=by
  have hd:=hw.drop (n:=ws.length) (by simp)
  rw[List.drop_left] at hd
  cases s with
  |nil=>have:=hd.nil;rw[show (cZ text lim st).lim=lim from rfl] at this;rw[this,decide_eq_false (Nat.lt_irrefl _)];rfl
  |cons c s=>
   rw[decide_eq_true (show p+ws.length<lim from hd.lt),Bool.true_and,show text.getD (p+ws.length) 0=c from hd.sign,kZ (hlow c (by simp))]
   simp[bnd]
 have hb:((cZ text lim st).lim != 0&&((decide (p+ws.length > 0)&&isWordUni ((cZ text lim st).text.getD (p+ws.length-1) 0)) != (decide (p+ws.length<(cZ text lim st).lim)&&isWordUni ((cZ text lim st).text.getD (p+ws.length) 0)))==true)=bnd s:=by
  rw[hbef,kZ hlast,hwd,decide_eq_true (show p+ws.length > 0 by exact Om.o363 hws)]
  rw[show (decide (p+ws.length<(cZ text lim st).lim)&&isWordUni ((cZ text lim st).text.getD (p+ws.length) 0))=!bnd s from hhere]
  rw[show ((cZ text lim st).lim != 0)=true from bne_iff_ne.mpr (by rw[←hlen];exact Om.o362 hws)]
  cases bnd s<;>rfl
 refine xy rfl (ac rfl) rfl hb ?_
 cases hq:bnd s with
 |true=>
  rw[hq,if_pos rfl] at k
  obtain⟨rfl,hN⟩:=k
  rw[if_pos rfl]
  exact Ends.mono (cS rfl (ac rfl) (cO (aj rfl (aj rfl b7)))) hN
 |false=>
  rw[hq,if_neg (by decide)] at k
  rw[if_neg (by decide)]
  exact k _ _ _ _
structure AltOk (a:Nat)(ws:List Nat):Prop where
 nz:(closeC.getD a 0==0)=false
 l:jA closeC (a+1) ws=true
 j:closeC.getD (a+1+2*ws.length) 0=15
 j2:a+1+2*ws.length+1+closeC.getD (a+1+2*ws.length+1) 0=88
 sz:a+1+2*ws.length<closeC.size
 ne:ws≠[]
 wd:iL (ws.getLastD 0)=true
 len:ws.length≤8
noncomputable def vS (a:Nat)(ws:List Nat):Bool:=!(closeC.getD a 0==0)&&jA closeC (a+1) ws&&closeC.getD (a+1+2*ws.length) 0==15&&a+1+2*ws.length+1+closeC.getD (a+1+2*ws.length+1) 0==88 &&
 decide (a+1+2*ws.length<closeC.size)&&(ws != [])&&iL (ws.getLastD 0)&&decide (ws.length≤8)
theorem jJ {a:Nat}{ws:List Nat}(h:vS a ws=true):AltOk a ws:=by
 simp only[vS,Bool.and_eq_true,beq_iff_eq,decide_eq_true_eq,bne_iff_ne,Bool.not_eq_true'] at h
 exact⟨h.1.1.1.1.1.1.1,h.1.1.1.1.1.1.2,h.1.1.1.1.1.2,h.1.1.1.1.2,h.1.1.1.2,h.1.1.2,h.1.2,h.2⟩
noncomputable def kY:Nat→List (List Nat)→Bool
 |a,[]=>closeC.getD a 0==0
 |a,ws::r=>vS a ws&&kY (a+closeC.getD a 0) r
noncomputable def gc (alts:List (List Nat))(v:List Nat)(p:Nat)(R:Option Nat):Option Nat:=match alts with
 | []=>R
 |ws::r=>if hit ws v=true then some (p+ws.length) else gc r v p R
theorem kQ {ws:List Nat}{a p n h N:Nat}{v:List Nat}{R:Option Nat}(ho:AltOk a ws)(hw:At (cZ text lim st) p v)(hl:Low v)(hN:4≤N)(k:hit ws v=false→No (cZ text lim st) R N #[] none [cB a p,cG p n]) :
  Ends (cZ text lim st) (if hit ws v=true then some (p+ws.length) else R) (N+10) ⟨a+1,p,h,true,#[],none,[cB a p,cG p n],none⟩:=by
 have hlen:=ho.len
 cases hp:ws.isPrefixOf v with
 |false=>
  have hh:hit ws v=false:=by unfold hit;rw[hp];rfl
  rw[hh,if_neg (by decide)]
  exact Ends.mono (nu ho.l hw hp (k hh)) (by exact Om.o361 hlen)
 |true=>
  obtain⟨s,rfl⟩:=List.isPrefixOf_iff_prefix.mp hp
  have hh:hit ws (ws++s)=bnd s:=by unfold hit;rw[hp,List.drop_left];rfl
  refine Ends.mono (ud (N:=N) ho.l ho.j ho.j2 ho.sz ho.ne ho.wd hw hl ?_) (by exact Om.o360 hlen)
  rw[hh] at k ⊢
  cases hb:bnd s with
  |true=>exact⟨rfl,hN⟩
  |false=>exact k hb
theorem na:∀{r:List (List Nat)} {ws:List Nat} {a p n N:Nat} {v:List Nat} {R:Option Nat},kY a (ws::r)=true→At (cZ text lim st) p v→Low v→4≤N→
  (((ws::r).any fun ws=>hit ws v)=false→No (cZ text lim st) R N #[] none [cG p n])→∀h,Ends (cZ text lim st) (gc (ws::r) v p R) (N+11*(r.length+1)) ⟨a+1,p,h,true,#[],none,[cB a p,cG p n],none⟩
 | [],ws,a,p,n,N,v,R,ho,hw,hl,hN,k,h=>by
  simp only[kY,Bool.and_eq_true] at ho
  refine Ends.mono (N:=N+11) (kQ (N:=N+1) (jJ ho.1) hw hl (by exact Om.o359 hN) fun hh h pc pos om=>rh ho.2 (k ?_ _ _ _ _)) (by simp)
  rw[List.any_cons,hh];rfl
 |ws'::r,ws,a,p,n,N,v,R,ho,hw,hl,hN,k,h=>by
  have ho':=ho
  simp only[kY,Bool.and_eq_true] at ho
  have nz:=(jJ ho.2.1).nz
  refine Ends.mono (N:=N+11*(r.length+1)+1+10) (kQ (jJ ho.1) hw hl (by exact Om.o358) fun hh h pc pos om=>dz (ac rfl) nz (na (r:=r) (ws:=ws') (N:=N) ?_ hw hl hN (fun q=>k ?_) _)) (by simp only[List.length_cons];exact Om.o357)
  ·simp only[kY,Bool.and_eq_true];exact ho.2
  ·rw[List.any_cons,hh];exact q
theorem iS {v:List Nat}{p:Nat}{R:Option Nat}:∀{alts:List (List Nat)},(alts.any fun ws=>hit ws v)=true→(gc alts v p R).isSome=true
 | [],h=>by contradiction
 |ws::r,h=>by
  rw[List.any_cons] at h
  unfold gc
  cases hh:hit ws v with
  |true=>rfl
  |false=>rw[hh] at h;rw[if_neg (by decide)];exact iS h
theorem e8 {v:List Nat}{p:Nat}{R:Option Nat}:∀{alts:List (List Nat)},(alts.any fun ws=>hit ws v)=false→gc alts v p R=R
 | [],h=>rfl
 |ws::r,h=>by
  rw[List.any_cons,Bool.or_eq_false_iff] at h
  unfold gc
  rw[h.1,if_neg (by decide)];exact e8 h.2
theorem iI {p n h N:Nat}{v:List Nat}{R:Option Nat}(hw:At (cZ text lim st) p v)(hl:Low v)(hN:4≤N)(k:tryB v=false→No (cZ text lim st) R N #[] none [cG p n]) :
  Ends (cZ text lim st) (gc five v p R) (N+56) ⟨15,p,h,true,#[],none,[cG p n],none⟩:=
 jl rfl (ac rfl) (ac rfl) rfl (na (a:=16) (by decide +kernel) hw hl hN k _)
theorem pP:((List.range 128).all fun c=>acc closeC 9 c==some (space c))=true:=by decide +kernel
theorem oi {c:Nat}{s:List Nat}(h:space c=true):tryB (c::s)=false:=by
 have ne:∀x:Nat,space x=false→(x==c)=false:=fun x hx=>beq_eq_false_iff_ne.mpr (by rintro rfl;rw[hx] at h;contradiction)
 unfold tryB five
 simp only[List.any_cons,List.any_nil,hit,List.isPrefixOf_cons_cons,ne 114 rfl,ne 98 rfl,ne 99 rfl,ne 112 rfl,Bool.false_and,Bool.false_or]
theorem gK {p:Nat}{w:List Nat}:∀{n:Nat},At (cZ text lim st) p w→Low w→n≤w.length→(∀c∈w.take n,space c=true)→No (cZ text lim st) none (60*n+4) #[] none [cG (p+n) n]
 |0,hw,hl,hn,hb=>fun h pc pos om=>(iC (N:=1) (Nat.zero_le _) fin_no).mono (by exact Om.o356)
 |n+1,hw,hl,hn,hb=>fun h pc pos om=>by
  have ih:=gK (n:=n) hw hl (by exact Om.o73 hn) (fun c hc=>hb c (by rw[List.take_add_one];exact List.mem_append_left _ hc))
  have hw':=hw.drop (n:=n) (by exact Om.o73 hn)
  obtain⟨c,s,e⟩:∃c s,w.drop n=c::s:=by
   cases hd:w.drop n with
   |nil=>have:=congrArg List.length hd;rw[List.length_drop] at this;dsimp only[List.length_nil] at this;exact (Om.o355 hn this).elim
   |cons c s=>exact⟨c,s,rfl⟩
  have hc:space c=true:=by
   refine hb c ?_
   have:w[n]?=some c:=by rw[←List.head?_drop,e];rfl
   rw[List.take_add_one,this];exact List.mem_append_right _ (.head _)
  have go:=fun h=>iI (h:=h) (n:=n) (R:=none) (N:=60*n+4) hw' (dA hl n) (by exact Om.o353) (fun _=>ih)
  rw[e,e8 (oi hc)] at go
  exact Ends.mono (io (N:=60*n+60) (p:=p+n) (ac rfl) (Nat.zero_le _) (go _)) (by exact Om.o354)
theorem close_ok {p:Nat}{w:List Nat}(hw:At (cZ text lim st) p w)(hl:Low w)(hn:w.length≤4294967295):∃r,r.isSome=closeB w∧Ends (cZ text lim st) r (60*w.length+70) (start 5 p):=by
 have hlen:(w.takeWhile space).length≤w.length:=(List.takeWhile_sublist _).length_le
 have hd:=tw_drop space w
 have hw':=hw.drop (n:=(w.takeWhile space).length) hlen
 rw[hd] at hw'
 have hl':Low (w.dropWhile space):=fun c hc=>hl c ((List.dropWhile_sublist _).mem hc)
 have go:=fun h=>iI (h:=h) (n:=(w.takeWhile space).length) (R:=none) (N:=60*w.length+4) hw' hl' (by exact Om.o353) (fun _=>fun h pc pos om=>Ends.mono (gK (n:=(w.takeWhile space).length) hw hl hlen (by rw[tw_take];exact tw_all space w) h pc pos om) (by exact Om.o352 hlen))
 refine⟨gc five (w.dropWhile space) (p+(w.takeWhile space).length) none,?_,?_⟩
 ·unfold closeB
  cases q:tryB (w.dropWhile space) with
  |true=>exact iS q
  |false=>rw[e8 q];rfl
 ·exact Ends.mono (cp (pc:=5) (f:=space) rfl (ac rfl) (ac rfl) hw (fun c hc=>cV pP (hl c hc)) (cn hn) (n:=(w.takeWhile space).length) (by rw[List.take_length]) (Nat.zero_le _) (Nat.zero_le _) (go _)) (by exact Om.o351)
end
end Re
end Mine
end
section
namespace Mine
open PySem PyProof.Rows PySem.W
noncomputable abbrev nIs:Str:=Str.ofString "is_block_closer"
noncomputable abbrev ym:Str:=Str.ofString "set_code"
noncomputable def yh:List Str:=[nS1,nS2,nIs,ym]
noncomputable def uy:List Str:=[Str.ofString "indentwidth",Str.ofString "tabwidth",cm,nSl,nGl,nCt,cU,lj,fJ,lz,nBr]
def NoM (fs:List (Str×V)):Prop:=∀m∈yh,look fs m=none
theorem vH:∀m∈yh,∀a∈uy,m≠a:=by decide +kernel
theorem NoM.put {fs:List (Str×V)}(h:NoM fs){a:Str}(ha:a∈uy)(v:V):NoM (put fs a v):=fun m hm=>by
 rw[ah,if_neg (vH m hm a ha)];exact h m hm
theorem NoM.studied2 {fs:List (Str×V)}(h:NoM fs)(x:Str)(s:L2):NoM (studied2 fs x s):=by
 unfold Mine.studied2 e9 studied
 refine NoM.put (NoM.put (NoM.put (NoM.put (NoM.put (NoM.put (NoM.put (NoM.put (NoM.put h ?_ _) ?_ _) ?_ _) ?_ _) ?_ _) ?_ _) ?_ _) ?_ _) ?_ _<;>decide +kernel
theorem NoM.setd {fs:List (Str×V)}(h:NoM fs)(x:Str):NoM (setd fs x):=by
 unfold Mine.setd
 refine NoM.put (NoM.put h ?_ _) ?_ _<;>decide +kernel
structure Done2 (fs:List (Str×V))(x:Str):Prop where
 sl:look fs nSl=some (.d (.int 2))
 co:look fs cm=some (.d (.str x))
 st:look fs cU=some (.d (.int ((stm x).1:Nat)))
 t:TextOk x
noncomputable def aG (x:Str):Bool:=Re.closeB ((sg x).drop (stm x).1)
theorem vg {fs:List (Str×V)}{x:Str}(F:Fresh fs x)(s:L2):Done2 (studied2 fs x s) x:=by
 unfold studied2 e9
 refine⟨?_,?_,?_,F.t⟩
 ·rw[ah,if_neg (by decide +kernel),ah,if_neg (by decide +kernel),ah,if_neg (by decide +kernel),ah,if_neg (by decide +kernel),ah,if_neg (by decide +kernel),ah,if_pos rfl]
 ·rw[ah,if_neg (by decide +kernel),ah,if_neg (by decide +kernel),ah,if_neg (by decide +kernel),ah,if_neg (by decide +kernel),ah,if_neg (by decide +kernel),ah,if_neg db]
  unfold studied
  rw[ah,if_neg (by decide +kernel),ah,if_neg (by decide +kernel),ah,if_neg db];exact F.co
 ·rw[ah,if_neg (by decide +kernel),ah,if_neg (by decide +kernel),ah,if_neg (by decide +kernel),ah,if_neg (by decide +kernel),ah,if_pos rfl]
noncomputable def eD (C:Addr)(g b A B Z:Nat):Spec:=fun vs c K=>∃k dk fs,vs=[.obj k]∧ParAt C c k dk fs∧
 ((look fs nSl=some (.d (.int 2))∧K (.d .none) c)∨∃x,Fresh fs x∧2*x.length+10≤big∧(g∉dom c∧b∉dom c∧A∉dom c∧B∉dom c∧Z∉dom c)∧
  ∀s,Rch x (stm x).2 (L0 (stm x).1) s→s.p=(stm x).2→K (.d .none) (cset c dk (.ns (studied2 fs x s))))
noncomputable def eB (C:Addr)(g b A B Z:Nat):Spec:=fun vs c K=>∃k dk fs x,vs=[.obj k]∧ParAt C c k dk fs∧NoM fs∧
 ((Done2 fs x∧K (.d (.bool (aG x))) c)∨(Fresh fs x∧2*x.length+10≤big∧(g∉dom c∧b∉dom c∧A∉dom c∧B∉dom c∧Z∉dom c)∧
  ∀s,K (.d (.bool (aG x))) (cset c dk (.ns (studied2 fs x s)))))
noncomputable def eR (s2 cl:Addr):List IS:=[.expr (.umeth (.v 0) s2 nS2 []),.ret (some (.cmp .IsNot (.call (.g (.val (.ref cl))) [(.attr (.v 0) cm),(.attr (.v 0) cU)] none) (.c .none)))]
section
variable {P:Pm}{c:aa}{A B Z k dk g b n:Nat}{x:Str}{fs:List (Str×V)}
theorem wF (x:Str):(stm x).1≤x.length:=by
 have G:=mV x
 obtain⟨gl1,gl2⟩:=ka G
 obtain⟨q1,q2,q3⟩:=jw G ((aS (fin x)).length-1) (by exact Om.o342 gl1)
 exact Nat.le_trans q1 q2
theorem jm {w:List Nat}(h:w.length<4):Re.closeB w=false:=by
 unfold Re.closeB Re.tryB
 rw[List.any_eq_false]
 intro ws hws hh
 have hl:(w.dropWhile Re.space).length≤w.length:=(List.dropWhile_sublist _).length_le
 have h4:4≤ws.length:=by
  have:∀ws∈Re.five,4≤ws.length:=by decide
  exact this ws hws
 unfold Re.hit at hh
 rw[Bool.and_eq_true] at hh
 have:=(List.isPrefixOf_iff_prefix.mp hh.1).length_le
 exact Om.o373 h hl h4 this
theorem f5 {cl:Addr}(T:TextOk x)(hj:P.isFn cl=true)(hjf:P.fn cl=aP Re.closeC){l:Sl}{e1 e2:IE}(h1:∀K':V→aa→Prop,K' (.d (.str x)) c→wpE P (n+2) e1 l c K')(h2:∀K':V→aa→Prop,K' (.d (.int ((stm x).1:Nat))) c→wpE P (n+1) e2 l c K')(K':V→aa→Prop)
  (h:K' (.d (.bool (aG x))) c):wpE P (n+5) (.cmp .IsNot (.call (.g (.val (.ref cl))) [e1,e2] none) (.c .none)) l c K':=by
 have hl:=aD x
 have hT:=T.len
 have hp:=wF x
 have hb:x.length≤big:=by exact Om.o63 hT
 generalize hpp:(stm x).1=p at *
 have e:((sg x).take x.length).drop p=(sg x).drop p:=by rw[←hl,List.take_length]
 have hA:=nK x (p:=p) (q:=x.length) (st:=p) (code:=Re.closeC) hp (Nat.le_refl _)
 rw[e] at hA
 have hlow:Re.Low ((sg x).drop p):=e▸jd T p x.length
 have hlen:((sg x).drop p).length=x.length-p:=by rw[List.length_drop];exact Om.o372
 have hc:aG x=Re.closeB ((sg x).drop p):=by unfold aG;rw[hpp]
 rw[hc] at h
 rw[jT]
 refine eM (n:=n) (u:=.val (.ref cl)) (v1:=.d (.str x)) (v2:=.d (.int (p:Nat))) (fun K' h=>h) h1 h2 ?_
 refine⟨hj,?_⟩
 rw[hjf]
 unfold big at hb
 by_cases h4:x.length-p<4
 ·rw[jm (by exact Om.o371 hlen h4)] at h
  exact⟨x,p,x.length,none,1,.inl ⟨rfl,rfl⟩,hp,Nat.le_refl _,hb,by decide,.inr ⟨rfl,h4⟩,fun _ q=>q,trivial,h⟩
 ·obtain⟨r,hr,he⟩:=Re.close_ok (text:=x.cps) (lim:=x.length) (st:=p) hA hlow (by exact Om.o370 hb hlen)
  refine⟨x,p,x.length,r,_,.inl ⟨rfl,rfl⟩,hp,Nat.le_refl _,hb,⟨?_,?_⟩,.inl ⟨he,by show 4≤x.length-p;exact Om.o369 h4⟩,?_⟩
  ·exact Om.o368
  ·omega
  ·rw[←hr] at h
   cases r with
   |none=>exact⟨fun _ q=>q,trivial,h⟩
   |some e=>exact⟨fun _ q=>q,trivial,h⟩
theorem ou {s2 cl:Addr}(At:Attr2 P)(pa:ParAt P.C c k dk fs)(hm:NoM fs)(hs:P.isFn s2=true)(hsf:P.fn s2=eD P.C g b A B Z)(hj:P.isFn cl=true)(hjf:P.fn cl=aP Re.closeC){K:V→aa→Prop}
  (h:(Done2 fs x∧K (.d (.bool (aG x))) c)∨(Fresh fs x∧2*x.length+10≤big∧(g∉dom c∧b∉dom c∧A∉dom c∧B∉dom c∧Z∉dom c)∧∀s,K (.d (.bool (aG x))) (cset c dk (.ns (studied2 fs x s))))) :
  wpB P (dom c) (n+20) (eR s2 cl) ⟨start [.obj k] 0,c⟩ (EndP c K):=by
 have hkd:k≠dk:=fun e=>by have:=pa.k_;rw[e,pa.d_] at this;simp at this
 have dkd:=al pa.d_
 unfold eR
 rcases h with ⟨D,hK⟩|⟨F,hb,hdom,hK⟩
 ·refine eG (n:=n+18) (.d .none) (c':=c) (fun K' h=>gP (n:=n+15) rfl pa.k_ pa.d_ (hm _ (by decide +kernel)) hs K' ?_) ?_
  ·rw[hsf];exact⟨k,dk,fs,rfl,pa,.inl ⟨D.sl,fun _ q=>q,h⟩⟩
  refine gR (n:=n+17) (.d (.bool (aG x))) (c':=c) (fun K' h=>f5 (n:=n+12) D.t hj hjf (fun K' h=>cI (n:=n+12) rfl pa.k_ pa.d_ At.co D.co rfl K' h) (fun K' h=>cI (n:=n+11) rfl pa.k_ pa.d_ At.st D.st rfl K' h) K' h) ?_
  exact EndP.same pa.w (fun _ h=>h) rfl hK
 ·rw[show n+20=(n+18)+2 by exact Om.o367]
  rw[qG]
  refine gP (n:=n+15) rfl pa.k_ pa.d_ (hm _ (by decide +kernel)) hs _ ?_
  rw[hsf]
  refine⟨k,dk,fs,rfl,pa,.inr ⟨x,F,hb,hdom,fun s hr hp=>⟨fun _ q=>by rw[ai];exact q,?_⟩⟩⟩
  have D:=vg F s
  have hk1:ae (cset c dk (.ns (studied2 fs x s))) k=some (.inst P.C dk):=by rw[ar dkd,if_neg hkd];exact pa.k_
  have hd1:ae (cset c dk (.ns (studied2 fs x s))) dk=some (.ns (studied2 fs x s)):=by rw[ar dkd,if_pos rfl]
  have W1:Wf (cset c dk (.ns (studied2 fs x s))):=by
   refine pa.w.set pa.d_ ?_
   unfold studied2 e9 studied
   exact aq (vD _ _ _) (aq (vD _ _ _) (aq (vD _ _ _) (aq (vD _ _ _) (aq (vD _ _ _) (aq (vD _ _ _) (aq (vD _ _ _) (aq (vD _ _ _) (aq (vD _ _ _) (bu (fun j hj=>by rw[ai];exact hj) (pa.w.fs pa.d_))))))))))
  refine gR (n:=n+17) (.d (.bool (aG x))) (c':=cset c dk (.ns (studied2 fs x s))) (fun K' h=>f5 (n:=n+12) D.t hj hjf (fun K' h=>cI (n:=n+12) rfl hk1 hd1 At.co D.co rfl K' h) (fun K' h=>cI (n:=n+11) rfl hk1 hd1 At.st D.st rfl K' h) K' h) ?_
  exact EndP.same W1 (fun j h=>by rw[ai];exact h) rfl (hK s)
end
theorem Wf.drop {c:aa}(W:Wf c){kk:Nat}{o:O}(hk:kk∉dom c):bY (c++[(kk,o)]) c c:=by
 rw[celW_iff]
 intro p hp
 obtain⟨o',h3,h4⟩:=celW_iff.mp W.w p hp
 have hm:=al h3
 exact⟨o',by rw[aH hk,if_neg (fun e:p.1=kk=>hk (by rw[←e];exact hm))];exact h3,ek (fun _ h=>h) h4⟩
theorem uj (a:Int){m:Int}(h:0<m):0≤a.fmod m∧a.fmod m<m:=⟨Int.fmod_nonneg_of_pos a h,Int.fmod_lt_of_pos a h⟩
theorem lm:∀l:List Int,PyData.canLayAll0 (pys (l.map .int))=true∧PyData.depthAll (pys (l.map .int))=0
 | []=>⟨rfl,rfl⟩
 |a::l=>by
  obtain⟨h1,h2⟩:=lm l
  exact⟨by show (true&&PyData.canLayAll0 (pys (l.map .int)))=true;rw[h1];rfl,by show max 0 (PyData.depthAll (pys (l.map .int)))=0;rw[h2];rfl⟩
section
variable {P:Pm}{pr:List Nat}
theorem mT {c:aa}{xs:List D}{i:Int}{d:D}(h0:0≤i)(h1:xs[i.toNat]?=some d)(hb:xs.length≤big){K:D→Prop}(h:K d):ef c (.d (.lst xs)) (.d (.int i)) K:=by
 have hlt:=(List.getElem?_eq_some_iff.mp h1).1
 refine⟨hb,i.toNat,d,?_,h1,h⟩
 unfold seqIndex?
 have hn:¬i<0:=by exact Om.o20 h0
 simp only[hn,if_false]
 rw[if_pos (by simp only[Bool.and_eq_true,decide_eq_true_eq];exact Om.o374 h0 hlt)]
theorem fV {n:Nat}{op:Operator}{a b:IE}{l:Sl}{c:aa}{K:V→aa→Prop}(u v:V)(ha:∀K':V→aa→Prop,K' u c→wpE P n a l c K')(hb:∀K':V→aa→Prop,K' v c→wpE P n b l c K')(h:hF c op u v (fun d=>K (.d d) c)):wpE P (n+1) (.bin op a b) l c K:=by
 exact ha _ (hb _ h)
end
theorem xI (U:aa):fsW U U fs0 fs0:=⟨rfl,vD _ _ _,rfl,vD _ _ _,trivial⟩
noncomputable def jU (st cl:Addr)(t1 t2:Nat):List IS:=[
 .expr (.umeth (.v 0) st ym [(.v 1)]),
 .asgC 3 (.comp (.umeth (.v 1) cl nIs []) (.call (.g (.bi .range)) [(.c (.int 2))] none) none [0] t1),
 .ret (some (.and (.cmp .Eq (.v 3) (.lst [(.v 2),(.v 2)] none)) (.cmp .Eq (.comp (.call (.g (.bi .isinstance)) [(.v 0),(.g (.bi .bool))] none) (.v 3) none [] t2) (.lst [(.c (.bool true)),(.c (.bool true))] none))))]
theorem vK {c:aa}(W:Wf c){t:Nat}(ht:t∉dom c)(acc:List D):Wf (c++[(t,.list acc)]):=by
 refine⟨?_,?_⟩
 ·rw[celW_iff]
  intro p hp
  rcases List.mem_append.mp hp with hp|hp
  ·obtain⟨o,h1,h2⟩:=celW_iff.mp W.w p hp
   have hm:=al h1
   exact⟨o,by rw[aH ht,if_neg (fun e:p.1=t=>ht (by simp only[←e];exact hm))];exact h1,ek (fun j hj=>by rw[af];exact List.mem_append_left _ hj) h2⟩
  ·have e:p=(t,.list acc):=by simpa using hp
   subst e;exact⟨.list acc,by rw[aH ht,if_pos rfl],rfl⟩
 ·rw[af,List.nodup_append]
  refine⟨W.nd,by simp,fun a ha b hb e=>ht ?_⟩
  have:b=t:=by simpa using hb
  simp only[←this,←e];exact ha
theorem nQ {C:Addr}{c:aa}{k dk:Nat}{fs:List (Str×V)}(p:ParAt C c k dk fs){t:Nat}(ht:t∉dom c)(acc:List D):ParAt C (c++[(t,.list acc)]) k dk fs:=by
 have h1:k≠t:=fun e=>ht (e▸al p.k_)
 have h2:dk≠t:=fun e=>ht (e▸al p.d_)
 exact⟨vK p.w ht acc,by rw[aH ht,if_neg h1];exact p.k_,by rw[aH ht,if_neg h2];exact p.d_,p.no⟩
theorem mO {c:aa}{dk:Nat}{fs:List (Str×V)}(W:Wf c)(hdk:ae c dk=some (.ns fs))(x:Str)(s:L2):Wf (cset c dk (.ns (studied2 fs x s))):=by
 refine W.set hdk ?_
 unfold studied2 e9 studied
 exact aq (vD _ _ _) (aq (vD _ _ _) (aq (vD _ _ _) (aq (vD _ _ _) (aq (vD _ _ _) (aq (vD _ _ _) (aq (vD _ _ _) (aq (vD _ _ _) (aq (vD _ _ _) (bu (fun j hj=>by rw[ai];exact hj) (W.fs hdk))))))))))
theorem jf {fs:List (Str×V)}(x:Str)(s:L2){m:Nat}(h:fs.length≤m):(studied2 fs x s).length≤m+9:=by
 unfold studied2 e9 studied
 exact ba _ _ _ (ba _ _ _ (ba _ _ _ (ba _ _ _ (ba _ _ _ (ba _ _ _ (ba _ _ _ (ba _ _ _ (ba _ _ _ h))))))))
def far (g b A B Z:Nat)(c:aa):Prop:=g∉dom c∧b∉dom c∧A∉dom c∧B∉dom c∧Z∉dom c
noncomputable def gu (C:Addr)(g b A B Z t1 t2:Nat):Spec:=fun vs c K=>∃k dk fs x due,vs=[.obj k,.d (.str x),.d (.bool due)]∧ParAt C c k dk fs∧NoM fs∧fs.length≤800∧TextOk x∧2*x.length+10≤big∧aG x=due∧
 far g b A B Z c∧t1∉dom c∧t2∉dom c∧∀fs',NoM fs'→fs'.length≤fs.length+11→Wf (cset c dk (.ns fs'))→K (.d (.bool true)) (cset c dk (.ns fs'))
section
variable {P:Pm}{pr:List Nat}{c:aa}{A B Z k dk g b n t1 t2:Nat}{x:Str}{fs:List (Str×V)}
theorem xw {n i j:Nat}{f:Addr}{nm:Str}{l:Sl}{c:aa}{k dk:Nat}{fs:List (Str×V)}{v:V}(hi:aM l i=some (.obj k))(hj:aM l j=some v)(hk:ae c k=some (.inst P.C dk))(hdk:ae c dk=some (.ns fs))(hno:look fs nm=none)(hf:P.isFn f=true)(K':V→aa→Prop)
  (h:P.fn f [.obj k,v] c (fun v c3=>eT c c3∧K' v c3)):wpE P (n+3) (.umeth (.v i) f nm [(.v j)]) l c K':=by
 simp only[iG]
 refine bD (n:=n+1) hi _ ?_
 refine⟨k0 hk hdk hno,?_⟩
 simp only[bd]
 exact bD (n:=n) hj _ ⟨hf,h⟩
theorem uV (a b:Bool)(c:aa){K:Bool→Prop}(h:K true):e5 c .Eq (.d (.lst [.bool a,.bool b])) (.d (.lst [.bool a,.bool b])) K:=by
 refine⟨rfl,rfl,by cases a<;>cases b<;>rfl,?_⟩
 have e:PySem.Spec.same (D.lst [.bool a,.bool b]).py (D.lst [.bool a,.bool b]).py=true:=by
  cases a<;>cases b<;>simp[D.py,pys,PySem.Spec.same,PySem.Spec.sameAll]
 simp only[e];exact h
theorem nS {n:Nat}{a b:IE}{l:Sl}{c:aa}{K:V→aa→Prop}:wpE P (n+1) (.and a b) l c K=wpE P n a l c fun u c1=>bJ c1 u fun r=>(r=false→K u c1)∧(r=true→wpE P n b l c1 K):=rfl
theorem lA {n kk:Nat}{a b:IE}{t:Option IE}{fr:List Nat}{l:Sl}{c:aa}{K:V→aa→Prop}:wpE P (n+1) (.comp a b t fr kk) l c K=wpE P n b l c (lc (wpE P n) (wpT P n) a t (fr.map (aM l)) kk K):=rfl
theorem qp {n i:Nat}{e:IE}{r:List IS}{σ:Sg'}{K:F→Sg'→Prop}:wpB P pr (n+2) (.asgC i e::r) σ K=wpE P n e σ.l σ.c fun v c1=>wpB P pr (n+1) r ⟨σ.l.set i (some v),c1⟩ K:=rfl
theorem sY {st cl:Addr}(pa:ParAt P.C c k dk fs)(hm:NoM fs)(hfl:fs.length≤800)(T:TextOk x)(hbig:2*x.length+10≤big)(hfar:far g b A B Z c)(ht1:t1∉dom c)(ht2:t2∉dom c)(h1g:far g b A B Z [(t1,.list [])])
  (hs:P.isFn st=true) (hsf:P.fn st=js P.C) (hc:P.isFn cl=true) (hcf:P.fn cl=eB P.C g b A B Z) {K:V→aa→Prop}
  (h:∀fs',NoM fs'→fs'.length≤fs.length+11→Wf (cset c dk (.ns fs'))→K (.d (.bool true)) (cset c dk (.ns fs'))) :
  wpB P (dom c) (n+40) (jU st cl t1 t2) ⟨start [.obj k,.d (.str x),.d (.bool (aG x))] 1,c⟩ (EndP c K):=by
 have hkd:k≠dk:=fun e=>by have:=pa.k_;rw[e,pa.d_] at this;simp at this
 have dkd:=al pa.d_
 have p1:=pa.setd x
 have hm1:=hm.setd x
 have F1:Fresh (setd fs x) x:=lV T (by exact Om.o379 hfl)
 have hl1:(setd fs x).length≤fs.length+2:=by unfold setd;exact ba _ _ _ (ba _ _ _ (Nat.le_refl _))
 have d1:∀f,dom (cset c dk (.ns f))=dom c:=fun f=>ai ..
 have pS:∀s,ParAt P.C (cset c dk (.ns (studied2 (setd fs x) x s))) k dk (studied2 (setd fs x) x s):=fun s=>by
  have W:=mO p1.w p1.d_ x s
  simp only[aV] at W
  exact⟨W,by rw[ar dkd,if_neg hkd];exact pa.k_,by rw[ar dkd,if_pos rfl],(hm1.studied2 x s) _ (by decide +kernel)⟩
 unfold jU
 refine eG (n:=n+38) (.d .none) (c':=cset c dk (.ns (setd fs x))) (fun K' h=>?_) ?_
 ·refine xw (n:=n+35) (k:=k) (dk:=dk) (v:=.d (.str x)) rfl rfl pa.k_ pa.d_ (hm _ (by decide +kernel)) hs K' ?_
  rw[hsf]
  exact⟨k,dk,fs,x,rfl,pa,by exact Om.o378 hfl,T,fun j hj=>by rw[ai];exact hj,h⟩
 have kk1:∀f,t1∉dom (cset c dk (.ns f)):=fun f=>by rw[d1];exact ht1
 have kk2:∀f,t2∉dom (cset c dk (.ns f)):=fun f=>by rw[d1];exact ht2
 have farA:∀f acc,far g b A B Z (cset c dk (.ns f)++[(t1,.list acc)]):=fun f acc=>by
  refine ay fun G9 back9=>?_;obtain⟨a1,a2,a3,a4,a5⟩:=hfar;refine back9 ?_
  refine ay fun G9 back9=>?_;obtain⟨b1,b2,b3,b4,b5⟩:=h1g;refine back9 ?_
  have q:∀j,j∉dom c→j∉dom [(t1,O.list [])]→j∉dom (cset c dk (.ns f)++[(t1,.list acc)]):=fun j h1 h2 h3=>by
   rw[af,d1] at h3
   rcases List.mem_append.mp h3 with h3|h3
   ·exact h1 h3
   ·exact h2 h3
  exact⟨q _ a1 b1,q _ a2 b2,q _ a3 b3,q _ a4 b4,q _ a5 b5⟩
 have two:∀(K':V→aa→Prop),(∀s,K' (.d (.lst [.bool (aG x),.bool (aG x)])) (cset c dk (.ns (studied2 (setd fs x) x s))))→
   wpE P (n+37) (.comp (.umeth (.v 1) cl nIs []) (.call (.g (.bi .range)) [(.c (.int 2))] none) none [0] t1) [some (.obj k),some (.d (.str x)),some (.d (.bool (aG x))),none] (cset c dk (.ns (setd fs x))) K':=by
  intro K' hK'
  simp only[lA]
  refine⟨⟨by decide,by decide,by decide,by decide⟩,[.int 0,.int 1],rfl,by decide,kk1 _,fun i acc c'=>(i=0∧acc=[]∧c'=cset c dk (.ns (setd fs x)))∨(0<i∧i≤2∧acc=List.replicate i (.bool (aG x))∧∃s,c'=cset c dk (.ns (studied2 (setd fs x) x s))),.inl ⟨rfl,rfl,rfl⟩,?_,?_⟩
  ·rintro i d acc c' hi (⟨rfl,rfl,rfl⟩|⟨h0,hi2,rfl,s,rfl⟩)
   ·refine⟨kk1 _,?_⟩
    have pp:=nQ p1 (kk1 _) []
    refine gP (n:=n+33) (k:=k) (dk:=dk) rfl pp.k_ pp.d_ (hm1 _ (by decide +kernel)) hc _ ?_
    rw[hcf]
    refine⟨k,dk,setd fs x,x,rfl,pp,hm1,.inr ⟨F1,hbig,farA _ _,fun s=>⟨fun j hj=>by rw[ai];exact hj,?_⟩⟩⟩
    have e:cset (cset c dk (.ns (setd fs x))++[(t1,.list [])]) dk (.ns (studied2 (setd fs x) x s))=cset c dk (.ns (studied2 (setd fs x) x s))++[(t1,.list [])]:=by
     rw[aU (by rw[d1];exact dkd),aV]
    exact⟨.bool (aG x),cset c dk (.ns (studied2 (setd fs x) x s)),rfl,e,kk1 _,.inr ⟨by decide,by decide,rfl,s,rfl⟩⟩
   ·have hi1:i=1:=by
     have:=(List.getElem?_eq_some_iff.mp hi).1
     have:i<2:=this
     exact Om.o377 h0 this
    subst hi1
    refine⟨kk1 _,?_⟩
    have pp:=nQ (pS s) (kk1 _) (List.replicate 1 (.bool (aG x)))
    refine gP (n:=n+33) (k:=k) (dk:=dk) rfl pp.k_ pp.d_ ((hm1.studied2 x s) _ (by decide +kernel)) hc _ ?_
    simp only[hcf]
    refine⟨k,dk,_,x,rfl,pp,hm1.studied2 x s,.inl ⟨vg F1 s,fun j hj=>hj,?_⟩⟩
    exact⟨.bool (aG x),cset c dk (.ns (studied2 (setd fs x) x s)),rfl,rfl,kk1 _,.inr ⟨by decide,by decide,rfl,s,rfl⟩⟩
  ·rintro acc c' (⟨q,_⟩|⟨_,_,rfl,s,rfl⟩)
   ·contradiction
   ·exact⟨kk1 _,(pS s).w.drop (kk1 _),hK' s⟩
 simp only[show n+39=(n+37)+2 by exact Om.o376,qp]
 refine two _ fun s=>?_
 have WS:=(pS s).w
 refine gR (n:=n+36) (.d (.bool true)) (c':=cset c dk (.ns (studied2 (setd fs x) x s))) (fun K' hK'=>?_) (EndP.same WS (fun j hj=>by rw[ai];exact hj) rfl (h _ (hm1.studied2 x s) (Nat.le_trans (jf x s hl1) (by exact Om.o375)) WS))
 rw[nS,jT]
 refine bD (n:=n+33) rfl _ ?_
 show wpE P (n+34) (.lst [(.v 2),(.v 2)] none) _ _ _
 refine⟨by show 2≤big;decide,?_⟩
 unfold cf
 refine uV _ _ _ ⟨fun q=>(by contradiction),fun _=>?_⟩
 simp only[jT,lA]
 refine⟨trivial,[.bool (aG x),.bool (aG x)],rfl,by show 2≤big;decide,kk2 _,fun i acc c'=>acc=List.replicate i (.bool true)∧c'=cset c dk (.ns (studied2 (setd fs x) x s)),⟨rfl,rfl⟩,?_,?_⟩
 ·rintro i d acc c' hi ⟨rfl,rfl⟩
  have hd':d=.bool (aG x):=by
   have:=List.mem_of_getElem? hi
   simpa using this
  subst hd'
  refine⟨kk2 _,?_⟩
  exact⟨.bool true,_,rfl,rfl,kk2 _,by rw[List.replicate_succ'],rfl⟩
 ·rintro acc c' ⟨rfl,rfl⟩
  refine⟨kk2 _,WS.drop (kk2 _),?_⟩
  refine⟨by show 2≤big;decide,?_⟩
  unfold cf
  exact uV _ _ _ hK'
end
noncomputable abbrev K1 (p:Params):Frag:=H5.K p
noncomputable def G1:List (Str×V):=[(Str.ofString "C_NONE",.d (.int 0)),(Str.ofString "C_BACKSLASH",.d (.int 1)),(Str.ofString "C_STRING_FIRST_LINE",.d (.int 2)),(Str.ofString "C_STRING_NEXT_LINES",.d (.int 3)),(Str.ofString "C_BRACKET",.d (.int 4)),
 (Str.ofString "_junkre",.val (.ref 63)),(Str.ofString "_match_stringre",.val (.ref 64)),(Str.ofString "_closere",.val (.ref 65)),(Str.ofString "_chew_ordinaryre",.val (.ref 66)),
 (Str.ofString "trans",.val (.ref 91)),(Str.ofString "Parser",.val (.ref 249)),(Str.ofString "_law_draw",.val (.ref 260)),(Str.ofString "_law_told",.val (.ref 265)),(Str.ofString "len",.bi .len),(Str.ofString "isinstance",.bi .isinstance),(Str.ofString "bool",.bi .bool),(Str.ofString "range",.bi .range),(Str.ofString "max",.bi .max),(Str.ofString "min",.bi .min),(Str.ofString "list",.bi .list),(Str.ofString "tuple",.bi .tuple)]
noncomputable def wR:List Pos:=[⟨53,37,0,40⟩,⟨54,20,0,36⟩,⟨150,16,0,18⟩,⟨151,21,0,33⟩,⟨152,21,0,29⟩,⟨229,11,0,58⟩,⟨230,34,0,69⟩,⟨236,11,0,23⟩]
noncomputable def zJ:Str→Pos→Option (Addr×Nat×Nat):=fun f _=>if f=Str.ofString "Parser" then some (249,0,0) else none
noncomputable def meth1:List (Str×Addr):=[(Str.ofString "set_code",162),(Str.ofString "_study1",183),(Str.ofString "_study2",197),(Str.ofString "is_block_closer",239)]
noncomputable def T1 (p:Params)(a:Addr):Tb:=zK (K1 p) a G1 wR zJ meth1
theorem oQ (p:Params):bF 60 (T1 p 155) (be (K1 p) 155)=some jI:=by kernel_rfl
theorem qe (p:Params):bF 60 (T1 p 162) (be (K1 p) 162)=some nD:=by kernel_rfl
theorem mq (p:Params):bF 60 (T1 p 183) (be (K1 p) 183)=some (dU 91 53037 54020):=by kernel_rfl
theorem ku (p:Params):bF 60 (T1 p 197) (be (K1 p) 197)=some (dc 183 63 66 64 150016 151021 152021):=by kernel_rfl
theorem kW (p:Params):bF 60 (T1 p 239) (be (K1 p) 239)=some (eR 197 65):=by kernel_rfl
theorem pu (p:Params):bF 60 (T1 p 265) (be (K1 p) 265)=some (jU 162 239 229011 230034):=by kernel_rfl
section
variable {p:Params}{hb:Heap}(X:(K1 p).In hb)(lim:hb.NoLimit)
include X lim
theorem sE:FnT hb 155 (T1 p 155) jI [Str.ofString "self",Str.ofString "indentwidth",Str.ofString "tabwidth"] [] (fg (K1 p) 155) (be (K1 p) 155) 60:=
 dL X lim (by kernel_rfl) (lsS fun _=>lsS fun _=>lsS fun _=>ls0 (by kernel_rfl)) rfl (by kernel_rfl) (by kernel_rfl) (oQ p)
theorem qJ:FnT hb 162 (T1 p 162) nD [Str.ofString "self",Str.ofString "s"] [] (fg (K1 p) 162) (be (K1 p) 162) 60:=
 dL X lim (by kernel_rfl) (lsS fun _=>lsS fun _=>ls0 (by kernel_rfl)) rfl (by kernel_rfl) (by kernel_rfl) (qe p)
theorem km:FnT hb 183 (T1 p 183) (dU 91 53037 54020) [Str.ofString "self"] (dp (K1 p) 183) (fg (K1 p) 183) (be (K1 p) 183) 60:=
 dL X lim (by kernel_rfl) (lsS fun _=>ls0 (by kernel_rfl)) rfl (by kernel_rfl) (by kernel_rfl) (mq p)
theorem iO:FnT hb 197 (T1 p 197) (dc 183 63 66 64 150016 151021 152021) [Str.ofString "self"] (dp (K1 p) 197) (fg (K1 p) 197) (be (K1 p) 197) 60:=
 dL X lim (by kernel_rfl) (lsS fun _=>ls0 (by kernel_rfl)) rfl (by kernel_rfl) (by kernel_rfl) (ku p)
theorem iM:FnT hb 239 (T1 p 239) (eR 197 65) [Str.ofString "self"] [] (fg (K1 p) 239) (be (K1 p) 239) 60:=
 dL X lim (by kernel_rfl) (lsS fun _=>ls0 (by kernel_rfl)) rfl (by kernel_rfl) (by kernel_rfl) (kW p)
theorem nA:FnT hb 265 (T1 p 265) (jU 162 239 229011 230034) [Str.ofString "parser",Str.ofString "text",Str.ofString "due"] (dp (K1 p) 265) (fg (K1 p) 265) (be (K1 p) 265) 60:=
 dL X lim (by kernel_rfl) (lsS fun _=>lsS fun _=>lsS fun _=>ls0 (by kernel_rfl)) rfl (by kernel_rfl) (by kernel_rfl) (pu p)
end
end Mine
namespace Mine
open PySem PyProof.Rows PySem.W
noncomputable def attrs:List Str:=uy
noncomputable def Pm1 (w:World)(fn:Addr→Spec)(isFn:Addr→Bool):Pm where
 C:=249
 attr:=fun x=>attrs.contains x
 fn:=fn
 isFn:=isFn
 init:=155
 td:=91
 tr:=tr
theorem ze (p:Params):ClsOk (K1 p) 249:=⟨by kernel_rfl,by kernel_rfl,by kernel_rfl,by kernel_rfl,by kernel_rfl⟩
theorem yb (p:Params)(x:Str)(h:attrs.contains x=true):findIn (K1 p) (.ref 249) x=some none:=by
 have:=List.contains_iff_mem.mp h
 simp only[attrs,uy,List.mem_cons,List.not_mem_nil,or_false] at this
 rcases this with rfl|rfl|rfl|rfl|rfl|rfl|rfl|rfl|rfl|rfl|rfl<;>kernel_rfl
theorem gf {β:Type}{l:List (Str×β)}{x:Str}{v:β}(h:l.lookup x=some v):(x,v)∈l:=by
 induction l with
 |nil=>contradiction
 |cons p r ih=>
  obtain⟨y,u⟩:=p
  rw[List.lookup_cons] at h
  split at h
  ·rename_i e;(injection h with h;subst h);rw[beq_iff_eq.mp e];exact .head _
  ·exact .tail _ (ih h)
theorem qQ (p:Params)(x:Str)(f:Addr)(h:meth1.lookup x=some f):findIn (K1 p) (.ref 249) x=some (some (.ref f))∧typeIn (K1 p) (.ref f)=some (.type "function"):=by
 have:=gf h
 simp only[meth1,List.mem_cons,List.not_mem_nil,or_false,Prod.mk.injEq] at this
 rcases this with ⟨rfl,rfl⟩|⟨rfl,rfl⟩|⟨rfl,rfl⟩|⟨rfl,rfl⟩<;>exact⟨by kernel_rfl,by kernel_rfl⟩
theorem xV (p:Params):makesIn (K1 p) 249=true:=by kernel_rfl
theorem zD (p:Params):findIn (K1 p) (.ref 249) "__init__"=some (some (.ref 155))∧typeIn (K1 p) (.ref 155)=some (.type "function"):=⟨by kernel_rfl,by kernel_rfl⟩
theorem y0 (p:Params):keepIn (K1 p) (.ref 249)=true:=by kernel_rfl
end Mine
namespace Mine
open PySem PyProof.Rows PySem.W
noncomputable def pN (es:Array DictEntry):Bool:=es.toList.all fun e=>match e.key with | .int k _=>e.hash==hashInt k|_=>false
theorem lU {es:Array DictEntry}(h:pN es=true):PySem.IntKeys es:=by
 intro e he
 have:=List.all_eq_true.mp h e (Array.mem_toList_iff.mpr he)
 split at this
 ·rename_i k t q;exact⟨k,t,q,beq_iff_eq.mp this⟩
 ·contradiction
noncomputable def zL (es:Array DictEntry)(f:Nat→Nat):Bool:=(List.range 128).all fun c=>match findBy Value.isInt es (c:Int) with|some (.int v _)=>v==(f c:Nat)&&decide (f c<128)|_=>false
theorem wI {es:Array DictEntry}{f:Nat→Nat}(h:zL es f=true)(c:Nat)(hc:c<128):∃t,findBy Value.isInt es (c:Int)=some (.int (f c:Nat) t)∧f c<128:=by
 have:=List.all_eq_true.mp h c (List.mem_range.mpr hc)
 split at this
 ·rename_i v t q
  simp only[Bool.and_eq_true,decide_eq_true_eq] at this
  exact⟨t,by rw[q,beq_iff_eq.mp this.1],this.2⟩
 ·contradiction
noncomputable def dI (K:Frag)(a:Addr):Obj:=(K.lookup a).getD default
noncomputable def zI (K:Frag)(a:Addr):Nat:=match (dI K a).data with | .dict _ n=>n|_=>0
theorem zH (p:Params):∃C',TabOk (K1 p) 91 C' tr:=by
 refine⟨83,⟨(dI (K1 p) 91).dict,nsOf (K1 p) 91,zI (K1 p) 91,(dI (K1 p) 91).slots,by kernel_rfl,lU (by kernel_rfl),wI (by kernel_rfl)⟩,by kernel_rfl,by kernel_rfl,by kernel_rfl⟩
noncomputable def yK:Option Value→Tok
 |some (.int _ t)=>t
 |_=>0
theorem yB {prog:Program}{w:World}{p:Params}{hb:Heap}(X:(K1 p).In hb){mg mb:Str→Option Value}(hg:hb.Ns mainGlobals mg)(hb':hb.Ns builtinsNs mb)(hmb:∀x:Str,x≠"__name__"→mb x=bootBuiltins x) (x:Str) (v:V) (h:G1.lookup x=some v):dG prog w hb x v:=by
 have mge:=mg_of X hg (by kernel_rfl)
 have gi:∀(x:Str) (i:Int),nsFind (nsOf (K1 p) mainGlobals) x=some (.int i (yK (nsFind (nsOf (K1 p) mainGlobals) x)))→dG prog w hb x (.d (.int i)):=fun x i e=>nv hg ((mge x).trans e) (fun c α h=>.int _ _)
 have gr:∀(x:Str) (a:Addr),nsFind (nsOf (K1 p) mainGlobals) x=some (.ref a)→dG prog w hb x (.val (.ref a)):=fun x a e=>nv hg ((mge x).trans e) (fun c α h=>rfl)
 have gb:∀(x:Str) (b:Bi),nsFind (nsOf (K1 p) mainGlobals) x=none→x≠"__name__"→bootBuiltins x=some b.val→dG prog w hb x (.bi b):=fun x b e e2 e3=>sG hg hb' ((mge x).trans e) ((hmb x e2).trans e3) (fun c α h=>rfl)
 have all:∀q∈G1,dG prog w hb q.1 q.2:=
  List.forall_mem_cons.mpr ⟨gi _ _ (by kernel_rfl),List.forall_mem_cons.mpr ⟨gi _ _ (by kernel_rfl),List.forall_mem_cons.mpr ⟨gi _ _ (by kernel_rfl),List.forall_mem_cons.mpr ⟨gi _ _ (by kernel_rfl),List.forall_mem_cons.mpr ⟨gi _ _ (by kernel_rfl),List.forall_mem_cons.mpr ⟨gr _ _ (by kernel_rfl),List.forall_mem_cons.mpr ⟨gr _ _ (by kernel_rfl),List.forall_mem_cons.mpr ⟨gr _ _ (by kernel_rfl),List.forall_mem_cons.mpr ⟨gr _ _ (by kernel_rfl),List.forall_mem_cons.mpr ⟨gr _ _ (by kernel_rfl),List.forall_mem_cons.mpr ⟨gr _ _ (by kernel_rfl),List.forall_mem_cons.mpr ⟨gr _ _ (by kernel_rfl),List.forall_mem_cons.mpr ⟨gr _ _ (by kernel_rfl),List.forall_mem_cons.mpr ⟨gb _ _ (by kernel_rfl) (by decide +kernel) (by kernel_rfl),List.forall_mem_cons.mpr ⟨gb _ _ (by kernel_rfl) (by decide +kernel) (by kernel_rfl),List.forall_mem_cons.mpr ⟨gb _ _ (by kernel_rfl) (by decide +kernel) (by kernel_rfl),List.forall_mem_cons.mpr ⟨gb _ _ (by kernel_rfl) (by decide +kernel) (by kernel_rfl),List.forall_mem_cons.mpr ⟨gb _ _ (by kernel_rfl) (by decide +kernel) (by kernel_rfl),List.forall_mem_cons.mpr ⟨gb _ _ (by kernel_rfl) (by decide +kernel) (by kernel_rfl),List.forall_mem_cons.mpr ⟨gb _ _ (by kernel_rfl) (by decide +kernel) (by kernel_rfl),List.forall_mem_cons.mpr ⟨gb _ _ (by kernel_rfl) (by decide +kernel) (by kernel_rfl),List.forall_mem_nil _⟩⟩⟩⟩⟩⟩⟩⟩⟩⟩⟩⟩⟩⟩⟩⟩⟩⟩⟩⟩⟩
 exact all (x,v) (gf h)
structure Base1 (w:World)(p:Params)(hb:Heap)(mg mb:Str→Option Value):Prop where
 x:(K1 p).In hb
 lim:hb.NoLimit
 g:hb.Ns mainGlobals mg
 b:hb.Ns builtinsNs mb
 mb:∀x:Str,x≠"__name__"→mb x=bootBuiltins x
theorem cx1 {prog:Program}{w:World}{p:Params}{hb:Heap}{mg mb:Str→Option Value}(B:Base1 w p hb mg mb){fn:Addr→Spec}{isFn:Addr→Bool}{dep:Nat}(a:Addr)
  (hfn:∀a,isFn a=true→(∃k,Looks (model prog w) hb (keeperOf (.ref a)) k)∧FnOk prog w hb dep a (fn a)) (hin:FnOk prog w hb dep 155 (fn 155)):Cx0 prog w hb (K1 p) (T1 p a) (Pm1 w fn isFn) dep:=
 ⟨B.x,fun x v h=>yB B.x B.g B.b B.mb x v h,ze p,fun x h=>yb p x h,fun x f h=>qQ p x f h,hfn,xV p,zD p,hin,y0 p,zH p⟩
theorem dZ (w:World)(fn:Addr→Spec)(isFn:Addr→Bool):Attr2 (Pm1 w fn isFn):=⟨⟨by kernel_rfl,by kernel_rfl,by kernel_rfl,by kernel_rfl⟩,by kernel_rfl,by kernel_rfl,by kernel_rfl,by kernel_rfl,by kernel_rfl⟩
section
variable {prog:Program}{w:World}{p:Params}{hb:Heap}{mg mb:Str→Option Value}(B:Base1 w p hb mg mb)
include B
noncomputable def jD:Addr→Spec:=fun _ _ _ _=>False
theorem xz (a:Addr):Cx0 prog w hb (K1 p) (T1 p a) (Pm1 w jD fun _=>false) 0:=cx1 B a (fun a h=>by contradiction) (fun A r vs ws c α s K R h1 h2 h3 h4=>h4.elim)
theorem yC:FnOk prog w hb 2 155 (gx 249):=by
 refine f6 (sE B.x B.lim) (xz B 155) fun vs c K h=>?_
 obtain⟨k,dk,rfl,W,hk,hdk,hK⟩:=h
 exact⟨rfl,_,tI (P:=Pm1 w jD fun _=>false) (n:=0) (by kernel_rfl) (by kernel_rfl) W hk hdk hK⟩
theorem zM:FnOk prog w hb 2 162 (js 249):=by
 refine f6 (qJ B.x B.lim) (xz B 162) fun vs c K h=>?_
 obtain⟨k,dk,fs,x,rfl,pa,hl,T,hK⟩:=h
 exact⟨rfl,_,vy (P:=Pm1 w jD fun _=>false) (n:=0) (dZ _ _ _).toAttrOk pa.w pa.k_ pa.d_ hl T hK⟩
theorem vQ:FnOk prog w hb 2 183 (d7 249 53037 54020):=by
 refine f6 (km B.x B.lim) (xz B 183) fun vs c K h=>?_
 obtain⟨k,dk,fs,rfl,pa,h⟩:=h
 refine⟨rfl,130,?_⟩
 have hr:(dp (K1 p) 183).length=12:=by kernel_rfl
 rw[hr]
 rcases h with ⟨h1,h2⟩|⟨x,h1,h2,h3,h4⟩
 ·exact lq (P:=Pm1 w jD fun _=>false) (n:=0) (dZ _ _ _).toAttrOk pa.w pa.k_ pa.d_ h1 h2
 ·exact qs (P:=Pm1 w jD fun _=>false) (n:=0) (dZ _ _ _).toAttrOk rfl rfl pa.w pa.k_ pa.d_ h1.len h1.sl h1.co h1.t h2 h3 (by decide) h4
theorem cw {a:Addr}{o:Obj}{fd:FuncData}(ho:hb.get? a=some o)(hd:o.data=.func fd):∃k,Looks (model prog w) hb (keeperOf (.ref a)) k:=by
 refine⟨.frame,fun A Q E s k q=>?_⟩
 unfold keeperOf
 refine wpAny_bind (wpAny_load (k _ _ ho) ?_)
 rw[hd];exact wpAny_pure q
noncomputable def fld (o:Obj)(i:Nat):Value:=match o.data with | .fields vs=>vs.getD i .none|_=>.none
theorem pJ:PatAt hb 63 43 Re.junkC:=⟨B.x _ _ (by kernel_rfl),fld (dI (K1 p) 43) 0,fld (dI (K1 p) 43) 1,42,0,B.x _ _ (by kernel_rfl),B.x _ _ (by kernel_rfl)⟩
theorem pS:PatAt hb 64 48 Re.strC:=⟨B.x _ _ (by kernel_rfl),fld (dI (K1 p) 48) 0,fld (dI (K1 p) 48) 1,47,0,B.x _ _ (by kernel_rfl),B.x _ _ (by kernel_rfl)⟩
theorem pC:PatAt hb 65 53 Re.closeC:=⟨B.x _ _ (by kernel_rfl),fld (dI (K1 p) 53) 0,fld (dI (K1 p) 53) 1,52,0,B.x _ _ (by kernel_rfl),B.x _ _ (by kernel_rfl)⟩
theorem pO:PatAt hb 66 58 Re.chewC:=⟨B.x _ _ (by kernel_rfl),fld (dI (K1 p) 58) 0,fld (dI (K1 p) 58) 1,57,0,B.x _ _ (by kernel_rfl),B.x _ _ (by kernel_rfl)⟩
end
noncomputable def jQ:List IS:=[
 .if_ (.cmp .Eq (.v 0) (.lst [] none)) [
  .ret (some (.c (.int 0)))] [],
 .ret (some (.bin .Mod (.meth (.v 0) .pop [(.c (.int 0))]) (.v 1)))]
noncomputable def eW:Spec:=fun vs c K=>∃(k:Nat) (l:List Int) (b:Int),vs=[.obj k,.d (.int b)]∧Wf c∧ae c k=some (.list (l.map .int))∧b≠0∧l.length≤big∧
 ((l=[]∧K (.d (.int 0)) c)∨∃a r,l=a::r∧K (.d (.int (a.fmod b))) (cset c k (.list (r.map .int))))
section
variable {P:Pm}{pr:List Nat}
theorem rM {c:aa}{k:Nat}{l:List Int}(hk:ae c k=some (.list (l.map .int))){K:Bool→Prop}(h:K l.isEmpty):e5 c .Eq (.obj k) (.d (.lst [])) K:=by
 obtain⟨h1,h2⟩:=lm l
 have e:rd c (.obj k)=some (D.lst (l.map .int)):=by
  show (match ae c k with|some (.list xs)=>some (D.lst xs)|_=>none)=_
  rw[hk]
 show aw (rd c (.obj k)) _
 rw[e]
 refine⟨?_,by decide,?_,?_⟩
 ·show (PyData.canLayAll0 (pys (l.map .int))&&decide (PyData.depthAll (pys (l.map .int))+1≤64))=true
  rw[h1,h2];rfl
 ·cases l<;>rfl
 ·cases l with
  |nil=>exact h
  |cons a l=>exact h
theorem Wf.list {c:aa}(W:Wf c){k:Nat}{xs ys:List D}(hk:ae c k=some (.list xs)):Wf (cset c k (.list ys)):=by
 have hkd:=al hk
 refine⟨?_,by rw[ai];exact W.nd⟩
 rw[celW_iff]
 intro p hp
 rcases gM W.nd hp with rfl|⟨hp,hne⟩
 ·exact⟨.list ys,by rw[ar hkd,if_pos rfl],rfl⟩
 ·obtain⟨o,h3,h4⟩:=celW_iff.mp W.w p hp
  exact⟨o,by rw[ar hkd,if_neg hne];exact h3,ek (fun j hj=>by rw[ai];exact hj) h4⟩
theorem sF {n k:Nat}{c:aa}{l:List Int}{b:Int}(W:Wf c)(hk:ae c k=some (.list (l.map .int)))(hb:b≠0)(hl:l.length≤big){K:V→aa→Prop}
  (h:(l=[]∧K (.d (.int 0)) c)∨∃a r,l=a::r∧K (.d (.int (a.fmod b))) (cset c k (.list (r.map .int)))):wpB P (dom c) (n+20) jQ ⟨start [.obj k,.d (.int b)] 0,c⟩ (EndP c K):=by
 unfold jQ
 refine bw (n:=n+18) l.isEmpty (c':=c) (fun K' h=>dh (n:=n+17) (.obj k) (.d (.lst [])) (fun K' h=>h) (fun K' h=>⟨by decide,h⟩) (rM hk h)) ?_
 rcases h with ⟨rfl,h⟩|⟨a,r,rfl,h⟩
 ·exact gR (n:=n+16) (.d (.int 0)) (c':=c) (fun K' h=>h) (EndP.same W (fun _ h=>h) rfl h)
 ·refine aA (n:=n+17) ?_
  refine gR (n:=n+17) (.d (.int (a.fmod b))) (c':=cset c k (.list (r.map .int))) (fun K' h=>?_) (EndP.same (W.list hk) (fun j hj=>by rw[ai];exact hj) rfl h)
  rw[cN,eU]
  refine bD (n:=n+14) (v:=.obj k) rfl _ ?_
  have hm:dM c (.obj k) .pop:=⟨rfl,by rw[hk];trivial⟩
  refine⟨hm,rfl,?_⟩
  rw[hk]
  refine⟨rfl,by rw[List.length_map];exact hl,.int a,r.map .int,rfl,?_⟩
  exact⟨hb,h⟩
end
theorem oV (p:Params):bF 60 (T1 p 260) (be (K1 p) 260)=some jQ:=by kernel_rfl
section
variable {p:Params}{hb:Heap}(X:(K1 p).In hb)(lim:hb.NoLimit)
include X lim
theorem nX:FnT hb 260 (T1 p 260) jQ [Str.ofString "pool",Str.ofString "bound"] [] (fg (K1 p) 260) (be (K1 p) 260) 60:=
 dL X lim (by kernel_rfl) (lsS fun _=>lsS fun _=>ls0 (by kernel_rfl)) rfl (by kernel_rfl) (by kernel_rfl) (oV p)
end
noncomputable def fnB:Addr→Spec:=fun a=>if a=183 then d7 249 53037 54020 else if a=63 then aP Re.junkC else if a=64 then aP Re.strC else if a=66 then aP Re.chewC else jD a
noncomputable def isB:Addr→Bool:=fun a=>a==183||a==63||a==64||a==66
noncomputable def PB (w:World):Pm:=Pm1 w fnB isB
noncomputable def fnC:Addr→Spec:=fun a=>if a=197 then eD 249 53037 54020 150016 151021 152021 else if a=65 then aP Re.closeC else jD a
noncomputable def isC:Addr→Bool:=fun a=>a==197||a==65
noncomputable def PC (w:World):Pm:=Pm1 w fnC isC
noncomputable def fnD:Addr→Spec:=fun a=>if a=162 then js 249 else if a=239 then eB 249 53037 54020 150016 151021 152021 else jD a
noncomputable def isD:Addr→Bool:=fun a=>a==162||a==239
noncomputable def PD (w:World):Pm:=Pm1 w fnD isD
section
variable {prog:Program}{w:World}{p:Params}{hb:Heap}{mg mb:Str→Option Value}(B:Base1 w p hb mg mb)
include B
theorem cxB (a:Addr):Cx0 prog w hb (K1 p) (T1 p a) (PB w) 2:=by
 refine cx1 B a (fun a h=>?_) (fun A r vs ws c α s K R h1 h2 h3 h4=>h4.elim)
 simp only[isB,Bool.or_eq_true,beq_iff_eq] at h
 rcases h with ((rfl|rfl)|rfl)|rfl
 ·exact⟨let ⟨o,h1,h2⟩:=(km B.x B.lim).N.at_;cw B h1 h2,vQ B⟩
 ·exact⟨dg (pJ B),jc (pJ B)⟩
 ·exact⟨dg (pS B),jc (pS B)⟩
 ·exact⟨dg (pO B),jc (pO B)⟩
theorem tP:FnOk prog w hb 4 197 (eD 249 53037 54020 150016 151021 152021):=by
 refine f6 (iO B.x B.lim) (cxB B 197) fun vs c K h=>?_
 obtain⟨k,dk,fs,rfl,pa,h⟩:=h
 refine⟨rfl,130,?_⟩
 have hr:(dp (K1 p) 197).length=13:=by kernel_rfl
 rw[hr]
 rcases h with ⟨h1,h2⟩|⟨x,F,hb,⟨d1,d2,d3,d4,d5⟩,h⟩
 ·exact jN (P:=PB w) (n:=0) (dZ _ _ _) pa h1 h2
 ·exact oH (P:=PB w) (n:=0) (dZ _ _ _) pa F hb d1 d2 d3 d4 d5 (by decide) (by decide) (by decide) rfl rfl rfl rfl rfl rfl rfl rfl h
theorem cxC (a:Addr):Cx0 prog w hb (K1 p) (T1 p a) (PC w) 4:=by
 refine cx1 B a (fun a h=>?_) (fun A r vs ws c α s K R h1 h2 h3 h4=>h4.elim)
 simp only[isC,Bool.or_eq_true,beq_iff_eq] at h
 rcases h with rfl|rfl
 ·exact⟨let ⟨o,h1,h2⟩:=(iO B.x B.lim).N.at_;cw B h1 h2,tP B⟩
 ·exact⟨dg (pC B),jc (pC B)⟩
theorem uk:FnOk prog w hb 6 239 (eB 249 53037 54020 150016 151021 152021):=by
 refine f6 (iM B.x B.lim) (cxC B 239) fun vs c K h=>?_
 obtain⟨k,dk,fs,x,rfl,pa,hm,h⟩:=h
 exact⟨rfl,_,ou (P:=PC w) (n:=0) (dZ _ _ _) pa hm rfl rfl rfl rfl h⟩
theorem cxD (a:Addr):Cx0 prog w hb (K1 p) (T1 p a) (PD w) 6:=by
 refine cx1 B a (fun a h=>?_) (fun A r vs ws c α s K R h1 h2 h3 h4=>h4.elim)
 simp only[isD,Bool.or_eq_true,beq_iff_eq] at h
 rcases h with rfl|rfl
 ·exact⟨let ⟨o,h1,h2⟩:=(qJ B.x B.lim).N.at_;cw B h1 h2,(zM B).more (by decide)⟩
 ·exact⟨let ⟨o,h1,h2⟩:=(iM B.x B.lim).N.at_;cw B h1 h2,uk B⟩
theorem y3:FnOk prog w hb 8 265 (gu 249 53037 54020 150016 151021 152021 229011 230034):=by
 refine f6 (nA B.x B.lim) (cxD B 265) fun vs c K h=>?_
 obtain⟨k,dk,fs,x,due,rfl,pa,hm,hl,T,hb,rfl,hf,h1,h2,hK⟩:=h
 refine⟨rfl,40,?_⟩
 have hr:(dp (K1 p) 265).length=1:=by kernel_rfl
 rw[hr]
 exact sY (P:=PD w) (n:=0) pa hm hl T hb hf h1 h2 (by unfold far;simp[dom]) rfl rfl rfl rfl hK
theorem yz:FnOk prog w hb 8 260 eW:=by
 refine f6 (nX B.x B.lim) (cxD B 260) fun vs c K h=>?_
 obtain⟨k,l,b,rfl,W,h1,h2,h3,h4⟩:=h
 exact⟨rfl,_,sF (P:=PD w) (n:=0) W h1 h2 h3 h4⟩
end
noncomputable def shM (n:Nat):Md→Md
 | .Q1 d f=>.Q1 d (f+n)
 | .Q2 d f=>.Q2 d (f+n)
 | .S1 d f=>.S1 d (f+n)
 | .S1e d f=>.S1e d (f+n)
 | .S3 d k f=>.S3 d k (f+n)
 | .S3e d f=>.S3e d (f+n)
 |m=>m
noncomputable def sh (g:List Nat)(n:Nat)(s:St):St:=⟨shM n s.md,s.lv,s.ln+n,g++(s.gd.map (·+n)).tail⟩
theorem qX {g:List Nat}{n:Nat}{s:St}(h:s.gd≠[]):nl (sh g n s)=sh g n (nl s):=by
 obtain⟨md,lv,ln,gd⟩:=s
 cases gd with
 |nil=>exact absurd rfl h
 |cons a gd=>
  unfold nl sh
  dsimp only
  by_cases q:lv=0
  ·rw[if_pos q,if_pos q]
   simp only[List.map_cons,List.tail_cons,List.cons_append,List.map_append,List.map_nil,List.append_assoc,shM]
   rw[Nat.add_right_comm]
  ·rw[if_neg q,if_neg q]
   simp only[shM]
   rw[Nat.add_right_comm]
theorem tJ {g:List Nat}{n:Nat}{s:St}(h:s.gd≠[])(c:Nat):step (sh g n s) c=sh g n (step s c):=by
 have hn:=qX (g:=g) (n:=n) h
 obtain⟨md,lv,ln,gd⟩:=s
 have eN:∀md,aY (sh g n ⟨md,lv,ln,gd⟩) c=sh g n (aY ⟨md,lv,ln,gd⟩ c):=fun md=>by
  unfold aY
  have hn':nl (sh g n ⟨md,lv,ln,gd⟩)=sh g n (nl ⟨md,lv,ln,gd⟩):=qX h
  by_cases h1:c=10
  ·rw[if_pos h1,if_pos h1];exact hn'
  rw[if_neg h1,if_neg h1]
  by_cases h2:c=40
  ·rw[if_pos h2,if_pos h2];rfl
  rw[if_neg h2,if_neg h2]
  by_cases h3:c=41
  ·rw[if_pos h3,if_pos h3];rfl
  rw[if_neg h3,if_neg h3]
  by_cases h4:c=34
  ·rw[if_pos h4,if_pos h4];rfl
  rw[if_neg h4,if_neg h4]
  by_cases h5:c=39
  ·rw[if_pos h5,if_pos h5];rfl
  rw[if_neg h5,if_neg h5]
  by_cases h6:c=35
  ·rw[if_pos h6,if_pos h6];rfl
  rw[if_neg h6,if_neg h6]
  by_cases h7:c=92
  ·rw[if_pos h7,if_pos h7];rfl
  rw[if_neg h7,if_neg h7];rfl
 have eS:∀md d f,bb (sh g n ⟨md,lv,ln,gd⟩) d (f+n) c=sh g n (bb ⟨md,lv,ln,gd⟩ d f c):=fun md d f=>by
  have hn':nl (sh g n ⟨md,lv,ln,gd⟩)=sh g n (nl ⟨md,lv,ln,gd⟩):=qX h
  unfold bb
  by_cases h1:c=qc d
  ·rw[if_pos h1,if_pos h1];rfl
  rw[if_neg h1,if_neg h1]
  by_cases h2:c=10
  ·rw[if_pos h2,if_pos h2];exact hn'
  rw[if_neg h2,if_neg h2]
  by_cases h3:c=92
  ·rw[if_pos h3,if_pos h3];rfl
  rw[if_neg h3,if_neg h3];rfl
 have e1:∀a b:Nat,a+b+1=a+1+b:=fun a b=>by exact Om.o386
 cases md with
 |N=>exact eN _
 |Nb=>exact eN _
 |E=>
  show (if c=10 then _ else _)=sh g n (if c=10 then _ else _)
  by_cases q:c=10
  ·rw[if_pos q,if_pos q];unfold sh;rw[e1];rfl
  ·rw[if_neg q,if_neg q];rfl
 |C=>
  show (if c=10 then _ else _)=sh g n (if c=10 then _ else _)
  by_cases q:c=10
  ·rw[if_pos q,if_pos q];exact hn
  ·rw[if_neg q,if_neg q]
 |Q1 d f=>
  show (if c=qc d then _ else bb _ d (f+n) c)=sh g n (if c=qc d then _ else _)
  by_cases q:c=qc d
  ·rw[if_pos q,if_pos q];rfl
  ·rw[if_neg q,if_neg q];exact eS _ d f
 |Q2 d f=>
  show (if c=qc d then _ else aY _ c)=sh g n (if c=qc d then _ else _)
  by_cases q:c=qc d
  ·rw[if_pos q,if_pos q];rfl
  ·rw[if_neg q,if_neg q];exact eN _
 |S1 d f=>exact eS _ d f
 |S1e d f=>
  show (if c=10 then _ else _)=sh g n (if c=10 then _ else _)
  by_cases q:c=10
  ·rw[if_pos q,if_pos q];unfold sh;dsimp only;rw[e1];rfl
  ·rw[if_neg q,if_neg q];rfl
 |S3 d k f=>
  show (if c=qc d then (if k=2 then _ else _) else if c=10 then _ else if c=92 then _ else _)=sh g n (if c=qc d then (if k=2 then _ else _) else if c=10 then _ else if c=92 then _ else _)
  by_cases q:c=qc d
  ·rw[if_pos q,if_pos q]
   by_cases q2:k=2
   ·rw[if_pos q2,if_pos q2];rfl
   ·rw[if_neg q2,if_neg q2];rfl
  rw[if_neg q,if_neg q]
  by_cases q2:c=10
  ·rw[if_pos q2,if_pos q2];unfold sh;rw[e1];rfl
  rw[if_neg q2,if_neg q2]
  by_cases q3:c=92
  ·rw[if_pos q3,if_pos q3];rfl
  ·rw[if_neg q3,if_neg q3];rfl
 |S3e d f=>
  show (if c=10 then _ else _)=sh g n (if c=10 then _ else _)
  by_cases q:c=10
  ·rw[if_pos q,if_pos q];unfold sh;dsimp only;rw[e1];rfl
  ·rw[if_neg q,if_neg q];rfl
theorem xY {s:St}(h:s.gd≠[])(c:Nat):(step s c).gd≠[]:=by
 rcases kh s c with e|⟨e,_⟩
 ·rw[e];exact h
 ·rw[e];simp
theorem m8 {g:List Nat}{n:Nat}:∀(l:List Nat) {s:St},s.gd≠[]→scan (sh g n s) l=sh g n (scan s l)
 | [],s,h=>rfl
 |c::l,s,h=>by rw[bh,bh,tJ h];exact m8 l (xY h c)
theorem eF:∀a b:List Nat,nls (a++b)=nls a+nls b
 | [],b=>by show nls b=0+nls b;exact Om.o385
 |c::a,b=>by show (if c=10 then 1 else 0)+nls (a++b)=_;rw[eF a b,nls];exact Om.o251
theorem ms:∀(a b:List Nat) (t:Nat),(a=[]∨a.getLast?=some 10)→am (a++b) (nls a+t)=a.length+am b t
 | [],b,t,_=>by show am b (0+t)=0+_;rw[Nat.zero_add,Nat.zero_add]
 | [c],b,t,h=>by
  have:c=10:=by simpa using h
  subst this
  show am (10::b) (1+0+t)=1+am b t
  rw[show 1+0+t=t+1 by exact Om.o384,am,if_pos rfl]
 |c::d::a,b,t,h=>by
  have h':(d::a).getLast?=some 10:=by simpa [List.getLast?_cons_cons] using h
  have ih:=ms (d::a) b t (.inr h')
  have hp:0<nls (d::a):=by
   have:=mN (d::a) (.inr h')
   cases hn:nls (d::a) with
   |zero=>rw[hn,ca] at this;contradiction
   |succ n=>exact Om.o127
  show am (c::(d::a++b)) (nls (c::d::a)+t)=_
  by_cases hc:c=10
  ·rw[show nls (c::d::a)+t=(nls (d::a)+t)+1 by rw[nls,if_pos hc];exact Om.o383,am,if_pos hc,ih];dsimp only[List.length_cons];exact Om.o380
  ·obtain⟨m,hm⟩:∃m,nls (d::a)+t=m+1:=⟨nls (d::a)+t-1,by exact Om.o382 hp⟩
   rw[show nls (c::d::a)+t=m+1 by rw[nls,if_neg hc];exact Om.o381 hm,am,if_neg hc,←hm,ih];dsimp only[List.length_cons];exact Om.o380
structure Cl (l gd:List Nat):Prop where
 sc:scan st0 (l.map tr)=⟨.N,0,nls l,gd⟩
 last:gd.getLast?=some (nls l)
 ends:l=[]∨l.getLast?=some 10
theorem gQ {a b:List Nat}(ha:a=[]∨a.getLast?=some 10)(hb:b=[]∨b.getLast?=some 10):a++b=[]∨(a++b).getLast?=some 10:=by
 rcases hb with rfl|hb
 ·rw[List.append_nil];exact ha
 ·right;rw[List.getLast?_append,hb];rfl
theorem Cl.scan {l gd:List Nat}(h:Cl l gd)(S:List Nat):scan st0 ((l++S).map tr)=sh gd (nls l) (scan st0 (S.map tr)):=by
 rw[List.map_append,aT,h.sc]
 have e:(⟨.N,0,nls l,gd⟩:St)=sh gd (nls l) st0:=by
  show (⟨.N,0,nls l,gd⟩:St)=⟨.N,0,0+nls l,gd++[]⟩
  rw[List.append_nil,Nat.zero_add]
 rw[e,m8 _ (by decide)]
theorem Cl.app {l gd S gs:List Nat}(h:Cl l gd)(hS:Cl S (0::gs)):Cl (l++S) (gd++gs.map (·+nls l)):=by
 refine⟨?_,?_,gQ h.ends hS.ends⟩
 ·rw[h.scan,hS.sc]
  unfold sh
  dsimp only[shM]
  rw[eF,Nat.add_comm];rfl
 ·have hl:=hS.last
  rw[eF]
  cases gs with
  |nil=>
   have:nls S=0:=by simpa using hl.symm
   rw[this,List.map_nil,List.append_nil];exact h.last
  |cons a gs=>
   rw[List.getLast?_cons_cons] at hl
   rw[List.getLast?_append,List.getLast?_map,hl]
   show some (nls S+nls l)=_
   rw[Nat.add_comm]
structure JkOk (J:List Nat):Prop where
 cl:Cl J (List.range (nls J+1))
 jk:∀t,t<nls J→Re.junkB (J.drop (am J t))=true
theorem lH {s:St}(h:s.gd.getLast?=some s.ln):aS s=s.gd:=if_pos h
theorem qA {x:Str}{l gd S J:List Nat}{m:Nat}(hl:Cl l gd)(hx:sg x=l++(S++J))(hS:S=[]∨S.getLast?=some 10)(hm:nls S=m)(hg:aS (fin x)=gd++(List.range (nls J+1)).map (·+(nls l+m)))(hj:∀t,t<nls J→Re.junkB (J.drop (am J t))=true)(hn:Re.junkB (S++J)=false) :
  (stm x).1=l.length:=by
 obtain⟨e,he⟩:∃e,gd.length=e+1:=by
  cases hgd:gd with
  |nil=>have:=hl.last;rw[hgd] at this;contradiction
  |cons a r=>exact⟨r.length,rfl⟩
 have glast:gd[e]?=some (nls l):=by have:=hl.last;rw[List.getLast?_eq_getElem?,he] at this;exact this
 unfold stm
 rw[hg]
 have hlen:(gd++(List.range (nls J+1)).map (·+(nls l+m))).length-1=e+1+nls J:=by
  rw[List.length_append,List.length_map,List.length_range,he];exact Om.o393
 rw[hlen]
 have key:∀t,t≤nls J→(bf x (gd++(List.range (nls J+1)).map (·+(nls l+m))) (e+1+t)).1=l.length:=by
  intro t
  induction t with
  |zero=>
   intro _
   have g0:(gd++(List.range (nls J+1)).map (·+(nls l+m))).getD e 0=nls l:=by
    rw[List.getD_eq_getElem?_getD,List.getElem?_append_left (by exact Om.o392 he),glast];rfl
   have l0:am (sg x) (nls l)=l.length:=by
    rw[hx];have:=ms l (S++J) 0 hl.ends;rw[ca] at this;exact this
   show (bf x _ (e+1)).1=_
   rw[bf,g0,l0,hx,List.drop_left,hn,if_neg (by decide)]
  |succ t ih=>
   intro ht
   have g1:(gd++(List.range (nls J+1)).map (·+(nls l+m))).getD (e+1+t) 0=nls (l++S)+t:=by
    rw[List.getD_eq_getElem?_getD,List.getElem?_append_right (by exact Om.o391 he),he,show e+1+t-(e+1)=t by exact Om.o390,List.getElem?_map,List.getElem?_range (by exact Om.o389 ht),eF,hm]
    show t+(nls l+m)=_;exact Om.o388
   have l1:am (sg x) (nls (l++S)+t)=(l++S).length+am J t:=by
    rw[hx,←List.append_assoc];exact ms (l++S) J t (gQ hl.ends hS)
   have hd:(sg x).drop ((l++S).length+am J t)=J.drop (am J t):=by
    rw[hx,←List.append_assoc,←List.drop_drop,List.drop_left]
   show (bf x _ (e+1+t+1)).1=_
   rw[bf,g1,l1,hd,hj t (by exact Om.o74 ht),if_pos rfl]
   exact ih (by exact Om.o73 ht)
 exact key _ (Nat.le_refl _)
theorem iX {x:Str}{l gd S J:List Nat}{due:Bool}(hl:Cl l gd)(hx:sg x=l++(S++J))(hS:Cl S [0,nls S])(hJ:JkOk J)(hn:Re.junkB (S++J)=false)(hc:Re.closeB (S++J)=due):aG x=due∧∃gd',Cl (l++(S++J)) gd':=by
 have c1:Cl (l++S) (gd++[nls S+nls l]):=hl.app hS
 obtain⟨jt,hjt⟩:∃jt,List.range (nls J+1)=0::jt:=by rw[List.range_succ_eq_map];exact⟨_,rfl⟩
 have c2:Cl (l++S++J) (gd++[nls S+nls l]++jt.map (·+nls (l++S))):=c1.app (by have:=hJ.cl;rw[hjt] at this;exact this)
 have hg:aS (fin x)=gd++(List.range (nls J+1)).map (·+(nls l+nls S)):=by
  have e:fin x=⟨.N,0,nls (l++S++J),gd++[nls S+nls l]++jt.map (·+nls (l++S))⟩:=by
   unfold fin;rw[hx,←List.append_assoc];exact c2.sc
  rw[lH (by rw[e];exact c2.last),e,hjt]
  show gd++[nls S+nls l]++jt.map (·+nls (l++S))=_
  rw[eF,List.append_assoc,List.map_cons,Nat.zero_add,Nat.add_comm (nls S)];rfl
 have hst:=qA hl hx hS.ends rfl hg hJ.jk hn
 refine⟨?_,_,by rw[←List.append_assoc];exact c2⟩
 unfold aG
 rw[hst,hx,List.drop_left];exact hc
theorem jF {x:Str}{l gd S:List Nat}{due:Bool}(hl:Cl l gd)(hx:sg x=l++S)(hS:(scan st0 (S.map tr)).gd=[0]∧0<nls S)(hE:S.getLast?=some 10)(hn:Re.junkB S=false)(hc:Re.closeB S=due):aG x=due:=by
 have e:fin x=sh gd (nls l) (scan st0 (S.map tr)):=by unfold fin;rw[hx];exact hl.scan S
 have eln:(fin x).ln=nls S+nls l:=by
  rw[e];show (scan st0 (S.map tr)).ln+nls l=_
  rw[ji,mn];show 0+nls S+nls l=_;exact Om.o387
 have egd:(fin x).gd=gd:=by
  rw[e];show gd++((scan st0 (S.map tr)).gd.map (·+nls l)).tail=gd
  rw[hS.1];simp
 have hg:aS (fin x)=gd++(List.range (nls []+1)).map (·+(nls l+nls S)):=by
  unfold aS
  rw[egd,eln,hl.last,if_neg (fun q=>by have:=Option.some.inj q;omega)]
  show gd++[nls S+nls l]=gd++[0+(nls l+nls S)]
  rw[Nat.zero_add,Nat.add_comm]
 have hst:=qA (J:=[]) hl (by rw[List.append_nil];exact hx) (.inr hE) rfl hg (fun t ht=>absurd ht (Nat.not_lt_zero _)) (by rw[List.append_nil];exact hn)
 unfold aG
 rw[hst,hx,List.drop_left];exact hc
noncomputable def words5:List (List Nat):=[[114,101,116,117,114,110],[98,114,101,97,107],[99,111,110,116,105,110,117,101],[114,97,105,115,101],[112,97,115,115],[82,101,116,117,114,110],[114,101],[121,105,101,108,100]]
noncomputable def rests5:List (List Nat):=[[],[32,121],[40,10,112,97,115,115,10,41],[58],[46,122,32,35,32,117],[32,92,10,114,97,105,115,101],[39,39,39,10,98,114,101,97,107,39,39,39],[115],[95],[49],[112,97,115,115]]
noncomputable def others5:List (List Nat):=[[120,59,32,114,101,116,117,114,110],[40,114,101,116,117,114,110,41],[39,112,97,115,115,39],[92,10,112,97,115,115],[64,114,97,105,115,101],[35,32,98,114,101,97,107],[102,40,10,114,101,116,117,114,110,10,41],[39,39,39,10,112,97,115,115,10,39,39,39],[120,32,61,32,92,10,32,99,111,110,116,105,110,117,101]]
noncomputable def junk5:List (List Nat):=[[],[10],[35,114,101,116,117,114,110,10],[32,32,35,112,97,115,115,10],[32,9,10,10]]
noncomputable def leads5:List (List Nat):=[[],[32],[9],[32,32,9]]
noncomputable def begun5:List (List Nat):=[[120,91,10,98,114,101,97,107,10],[114,101,116,117,114,110,32,40,10],[112,97,115,115,32,92,10],[114,97,105,115,101,32,39,39,39,10],[39,39,39,10,114,101,116,117,114,110,10]]
noncomputable def bdue5:List Bool:=[false,true,true,true,false]
noncomputable def clB (S gd:List Nat):Bool:=decide (scan st0 (S.map tr)=⟨.N,0,nls S,gd⟩)&&gd.getLast?==some (nls S)&&(S==[]||S.getLast?==some 10)
theorem sj {S gd:List Nat}(h:clB S gd=true):Cl S gd:=by
 simp only[clB,Bool.and_eq_true,decide_eq_true_eq,beq_iff_eq,Bool.or_eq_true] at h
 exact⟨h.1.1,h.1.2,h.2⟩
noncomputable def jkB (J:List Nat):Bool:=clB J (List.range (nls J+1))&&(List.range (nls J)).all fun t=>Re.junkB (J.drop (am J t))
theorem rA {J:List Nat}(h:jkB J=true):JkOk J:=by
 simp only[jkB,Bool.and_eq_true,List.all_eq_true] at h
 exact⟨sj h.1,fun t ht=>h.2 t (List.mem_range.mpr ht)⟩
noncomputable def pe (S:List Nat)(due:Bool):Bool:=clB S [0,nls S]&&junk5.all fun J=>!Re.junkB (S++J)&&(Re.closeB (S++J)==due)
theorem vq:junk5.all jkB=true:=by decide +kernel
theorem x6:(leads5.all fun a=>(List.range 8).all fun w=>(List.range 11).all fun r=>pe (a++words5.getD w []++rests5.getD r []++[10]) (decide (w<5)&&decide (r<7)))=true:=by decide +kernel
theorem y6:(leads5.all fun a=>others5.all fun o=>pe (a++o++[10]) false)=true:=by decide +kernel
noncomputable def yv (U:List Nat)(due:Bool):Bool:=(scan st0 (U.map tr)).gd==[0]&&decide (0<nls U)&&U.getLast?==some 10&&!Re.junkB U&&(Re.closeB U==due)
theorem y1:((List.range 5).all fun i=>yv (begun5.getD i []) (bdue5.getD i false))=true:=by decide +kernel
theorem yR:(junk5.all fun J=>!aG ⟨J.toArray⟩)=true:=by decide +kernel
noncomputable abbrev c5 (C:Addr) (rest:List Int) (fs:List (Str×V)):aa:=[(236011,.list (rest.map .int)),(2,.ns fs),(1,.inst C 2)]
structure L5Ok (P:Pm):Prop where
 C:P.C=249
 dr:P.isFn 260=true
 drS:P.fn 260=eW
 tl:P.isFn 265=true
 tlS:P.fn 265=gu P.C 53037 54020 150016 151021 152021 229011 230034
 ini:P.fn P.init=gx P.C
structure Fs5 (C:Addr)(m:Nat)(fs:List (Str×V)):Prop where
 no:NoM fs
 len:fs.length≤m
 w:Wf (c5 C [] fs)
theorem rt {C:Addr}{c:aa}{rest:List Int}{fs fs':List (Str×V)}(hd:dom c=[236011,2,1])(h:fsW c c fs fs):fsW (c5 C rest fs') (c5 C rest fs') fs fs:=bu (c:=c) (fun k q=>by rw[hd] at q;exact q) h
theorem Fs5.wf {C:Addr}{m:Nat}{fs:List (Str×V)}(h:Fs5 C m fs)(rest:List Int):Wf (c5 C rest fs):=
 ⟨⟨⟨_,rfl,rfl⟩,⟨_,rfl,rt (c:=c5 C [] fs) rfl (h.w.fs (k:=2) rfl)⟩,⟨_,rfl,rfl,rfl,by simp[dom]⟩,trivial⟩,by simp[dom]⟩
theorem Fs5.par {C:Addr}{m:Nat}{fs:List (Str×V)}(h:Fs5 C m fs)(rest:List Int):ParAt C (c5 C rest fs) 1 2 fs:=⟨h.wf rest,rfl,rfl,h.no _ (by decide +kernel)⟩
noncomputable def cs (l:List (List Nat)):D:=.lst (l.map fun s=>.str ⟨s.toArray⟩)
theorem cj (a b:Str):sg (a++b)=sg a++sg b:=by
 show (a.cps++b.cps).toList=_
 rw[Array.toList_append]
theorem eE (l:List Nat):sg ⟨l.toArray⟩=l:=rfl
section
variable {P:Pm}{pr:List Nat}{n m:Nat}{l:Sl}{rest:List Int}{fs:List (Str×V)}
theorem cY (L:L5Ok P){b:Nat}(hb:0<b)(h5:aM l 5=some (.obj 236011))(hfs:Fs5 P.C m fs)(hr:rest.length≤63) :
  ∃(v:Nat) (rest':List Int),v<b∧rest'.length≤rest.length∧∀K':V→aa→Prop,K' (.d (.int (v:Nat))) (c5 P.C rest' fs)→wpE P (n+4) (.call (.g (.val (.ref 260))) [(.v 5),(.c (.int (b:Nat)))] none) l (c5 P.C rest fs) K':=by
 have go:∀K':V→aa→Prop,eW [.obj 236011,.d (.int (b:Nat))] (c5 P.C rest fs) (fun v c'=>eT (c5 P.C rest fs) c'∧K' v c')→wpE P (n+4) (.call (.g (.val (.ref 260))) [(.v 5),(.c (.int (b:Nat)))] none) l (c5 P.C rest fs) K':=fun K' h=>by
  refine eM (n:=n) (u:=.val (.ref 260)) (v1:=.obj 236011) (v2:=.d (.int (b:Nat))) (fun K' h=>h) (bD h5) (fun K' h=>h) ⟨L.dr,?_⟩
  rw[L.drS];exact h
 have hbig:rest.length≤big:=by unfold big;exact Om.o401 hr
 cases rest with
 |nil=>exact⟨0,[],hb,Nat.le_refl _,fun K' h=>go K' ⟨236011,[],b,rfl,hfs.wf [],rfl,by exact Om.o399 hb,by decide,.inl ⟨rfl,fun j hj=>hj,h⟩⟩⟩
 |cons a r=>
  obtain⟨h1,h2⟩:=uj a (m:=(b:Int)) (by exact Om.o93 hb)
  refine⟨(a.fmod b).toNat,r,by exact Om.o400 hb h2,Nat.le_succ _,fun K' h=>go K' ⟨236011,a::r,b,rfl,hfs.wf _,rfl,by exact Om.o399 hb,hbig,.inr ⟨a,r,rfl,fun j hj=>hj,?_⟩⟩⟩
  rw[show ((a.fmod b).toNat:Int)=a.fmod b by exact Om.o398 h1] at h
  exact h
theorem iT (L:L5Ok P){e2 e3:IE}{x:Str}{due:Bool}(h6:aM l 6=some (.obj 1))(he2:∀K':V→aa→Prop,K' (.d (.str x)) (c5 P.C rest fs)→wpE P (n+2) e2 l (c5 P.C rest fs) K')(he3:∀K':V→aa→Prop,K' (.d (.bool due)) (c5 P.C rest fs)→wpE P (n+1) e3 l (c5 P.C rest fs) K')
  (hfs:Fs5 P.C m fs) (hm:m≤700) (T:TextOk x) (hb:2*x.length+10≤big) (hc:aG x=due) (K':V→aa→Prop) (h:∀fs',Fs5 P.C (m+11) fs'→K' (.d (.bool true)) (c5 P.C rest fs')) :
  wpE P (n+5) (.call (.g (.val (.ref 265))) [(.v 6),e2,e3] none) l (c5 P.C rest fs) K':=by
 refine lg (n:=n) (u:=.val (.ref 265)) (v1:=.obj 1) (v2:=.d (.str x)) (v3:=.d (.bool due)) (fun K' h=>h) (bD h6) he2 he3 ⟨L.tl,?_⟩
 rw[L.tlS]
 have hl:=hfs.len
 refine⟨1,2,fs,x,due,rfl,hfs.par rest,hfs.no,by exact Om.o397 hm hl,T,hb,hc,⟨by simp[dom],by simp[dom],by simp[dom],by simp[dom],by simp[dom]⟩,by simp[dom],by simp[dom],fun fs' n1 n2 n3=>⟨fun j hj=>hj,h fs' ⟨n1,by exact Om.o396 hl n2,?_⟩⟩⟩
 exact⟨⟨⟨_,rfl,rfl⟩,⟨_,rfl,rt (c:=cset (c5 P.C rest fs) 2 (.ns fs')) rfl (n3.fs (k:=2) rfl)⟩,⟨_,rfl,rfl,rfl,by simp[dom]⟩,trivial⟩,by simp[dom]⟩
theorem sI {x y:D}{K:D→D→Prop}(h:K x y):qh (.d (.tup [x,y])) K:=h
theorem uz {e:IE}{r:List IS}{σ:Sg'}{K:F→Sg'→Prop}:wpB P pr (n+2) (.ret (some e)::r) σ K=wpE P n e σ.l σ.c fun v c1=>K (.ret v) ⟨σ.l,c1⟩:=rfl
theorem qy {i j:Nat}{e:IE}{r:List IS}{σ:Sg'}{K:F→Sg'→Prop}:wpB P pr (n+2) (.unpT i j e::r) σ K=wpE P n e σ.l σ.c fun u c1=>qh u fun x y=>wpB P pr (n+1) r ⟨(σ.l.set i (some (.d x))).set j (some (.d y)),c1⟩ K:=rfl
theorem qS (L:L5Ok P){x:Str}{due:Bool}{r:List IS}{e3:IE}{K:F→Sg'→Prop}(h6:aM l 6=some (.obj 1))(h7:aM l 7=some (.d (.str x)))(he3:∀K':V→aa→Prop,K' (.d (.bool due)) (c5 P.C rest fs)→wpE P (n+1) e3 l (c5 P.C rest fs) K')
  (hfs:Fs5 P.C m fs) (hm:m≤700) (T:TextOk x) (hb:2*x.length+10≤big) (hc:aG x=due) (h:∀fs',Fs5 P.C (m+11) fs'→wpB P pr (n+8) r ⟨l,c5 P.C rest fs'⟩ K) :
  wpB P pr (n+9) (.if_ (.not (.call (.g (.val (.ref 265))) [(.v 6),(.v 7),e3] none)) [.ret (some (.c (.bool false)))] []::r) ⟨l,c5 P.C rest fs⟩ K:=by
 show wpE P (n+5) (.call (.g (.val (.ref 265))) [(.v 6),(.v 7),e3] none) l (c5 P.C rest fs) (fun u c1=>bJ c1 u fun r=>_)
 refine iT L h6 (bD h7) he3 hfs hm T hb hc _ fun fs' h'=>⟨(fun e=>by contradiction),fun _=>?_⟩
 exact aA (n:=n+6) (h fs' h')
end
structure Tx (j:Nat)(x:Str):Prop where
 cl:∃gd,Cl (sg x) gd
 low:∀c∈sg x,c<128
 len:(sg x).length≤20+80*j
theorem Tx.ok {j:Nat}{x:Str}(h:Tx j x)(hj:j≤10):TextOk x∧2*x.length+10≤big:=by
 have h1:=h.len
 have h2:=aD x
 obtain⟨gd,hc⟩:=h.cl
 unfold big
 exact⟨⟨h.low,hc.ends,by unfold big;exact Om.o395 hj h1⟩,by exact Om.o394 hj h1⟩
noncomputable def jS:List IS:=[
  .asg 7 (.bin .Add (.v 7) (.item (.lst [(.c (.str ⟨#[]⟩)),(.c (.str ⟨#[32]⟩)),(.c (.str ⟨#[9]⟩)),(.c (.str ⟨#[32,32,9]⟩))] none) (.call (.g (.val (.ref 260))) [(.v 5),(.c (.int 4))] none))),
  .if_ (.cmp .Lt (.call (.g (.val (.ref 260))) [(.v 5),(.c (.int 3))] none) (.c (.int 2))) [
   .asg 9 (.call (.g (.val (.ref 260))) [(.v 5),(.c (.int 8))] none),
   .asg 10 (.call (.g (.val (.ref 260))) [(.v 5),(.c (.int 11))] none),
   .asg 11 (.and (.cmp .Lt (.v 9) (.c (.int 5))) (.cmp .Lt (.v 10) (.c (.int 7)))),
   .asg 7 (.bin .Add (.bin .Add (.bin .Add (.v 7) (.item (.v 1) (.v 9))) (.item (.v 2) (.v 10))) (.c (.str ⟨#[10]⟩)))] [
   .asg 11 (.c (.bool false)),
   .asg 7 (.bin .Add (.bin .Add (.v 7) (.item (.v 3) (.call (.g (.val (.ref 260))) [(.v 5),(.c (.int 9))] none))) (.c (.str ⟨#[10]⟩)))],
  .asg 7 (.bin .Add (.v 7) (.item (.v 4) (.call (.g (.val (.ref 260))) [(.v 5),(.c (.int 5))] none))),
  .if_ (.not (.call (.g (.val (.ref 265))) [(.v 6),(.v 7),(.v 11)] none)) [
   .ret (some (.c (.bool false)))] []]
noncomputable def jb:List IS:=[
 .asg 1 (.lst [(.c (.str ⟨#[114,101,116,117,114,110]⟩)),(.c (.str ⟨#[98,114,101,97,107]⟩)),(.c (.str ⟨#[99,111,110,116,105,110,117,101]⟩)),(.c (.str ⟨#[114,97,105,115,101]⟩)),(.c (.str ⟨#[112,97,115,115]⟩)),(.c (.str ⟨#[82,101,116,117,114,110]⟩)),(.c (.str ⟨#[114,101]⟩)),(.c (.str ⟨#[121,105,101,108,100]⟩))] none),
 .asg 2 (.lst [(.c (.str ⟨#[]⟩)),(.c (.str ⟨#[32,121]⟩)),(.c (.str ⟨#[40,10,112,97,115,115,10,41]⟩)),(.c (.str ⟨#[58]⟩)),(.c (.str ⟨#[46,122,32,35,32,117]⟩)),(.c (.str ⟨#[32,92,10,114,97,105,115,101]⟩)),(.c (.str ⟨#[39,39,39,10,98,114,101,97,107,39,39,39]⟩)),(.c (.str ⟨#[115]⟩)),(.c (.str ⟨#[95]⟩)),(.c (.str ⟨#[49]⟩)),(.c (.str ⟨#[112,97,115,115]⟩))] none),
 .asg 3 (.lst [(.c (.str ⟨#[120,59,32,114,101,116,117,114,110]⟩)),(.c (.str ⟨#[40,114,101,116,117,114,110,41]⟩)),(.c (.str ⟨#[39,112,97,115,115,39]⟩)),(.c (.str ⟨#[92,10,112,97,115,115]⟩)),(.c (.str ⟨#[64,114,97,105,115,101]⟩)),(.c (.str ⟨#[35,32,98,114,101,97,107]⟩)),(.c (.str ⟨#[102,40,10,114,101,116,117,114,110,10,41]⟩)),(.c (.str ⟨#[39,39,39,10,112,97,115,115,10,39,39,39]⟩)),(.c (.str ⟨#[120,32,61,32,92,10,32,99,111,110,116,105,110,117,101]⟩))] none),
 .asg 4 (.lst [(.c (.str ⟨#[]⟩)),(.c (.str ⟨#[10]⟩)),(.c (.str ⟨#[35,114,101,116,117,114,110,10]⟩)),(.c (.str ⟨#[32,32,35,112,97,115,115,10]⟩)),(.c (.str ⟨#[32,9,10,10]⟩))] none),
 .asg 5 (.call (.g (.bi .list)) [(.v 0)] (some 236011)),
 .asg 6 (.make 249 [(.c (.int 4)),(.c (.int 8))] 0 0),
 .asg 7 (.item (.v 4) (.call (.g (.val (.ref 260))) [(.v 5),(.c (.int 5))] none)),
 .if_ (.not (.call (.g (.val (.ref 265))) [(.v 6),(.v 7),(.c (.bool false))] none)) [
  .ret (some (.c (.bool false)))] [],
 .for_ 8 (.call (.g (.bi .range)) [(.call (.g (.bi .max)) [(.c (.int 2)),(.call (.g (.bi .min)) [(.c (.int 5)),(.bin .FloorDiv (.call (.g (.bi .len)) [(.v 5)] none) (.c (.int 5)))] none)] none)] none) jS,
 .asg 12 (.lst [(.tup [(.c (.str ⟨#[120,91,10,98,114,101,97,107,10]⟩)),(.c (.bool false))]),(.tup [(.c (.str ⟨#[]⟩)),(.v 11)]),(.tup [(.c (.str ⟨#[114,101,116,117,114,110,32,40,10]⟩)),(.c (.bool true))]),(.tup [(.c (.str ⟨#[112,97,115,115,32,92,10]⟩)),(.c (.bool true))]),(.tup [(.c (.str ⟨#[114,97,105,115,101,32,39,39,39,10]⟩)),(.c (.bool true))]),(.tup [(.c (.str ⟨#[39,39,39,10,114,101,116,117,114,110,10]⟩)),(.c (.bool false))])] none),
 .unpT 13 11 (.item (.v 12) (.call (.g (.val (.ref 260))) [(.v 5),(.c (.int 6))] none)),
 .ret (some (.call (.g (.val (.ref 265))) [(.v 6),(.bin .Add (.v 7) (.v 13)),(.v 11)] none))]
noncomputable abbrev vi (b:Nat):IE:=.call (.g (.val (.ref 260))) [(.v 5),(.c (.int (b:Nat)))] none
noncomputable abbrev sl5 (a0:D) (x:Str) (r8 r9 r10 r11:Option V):Sl:=[some (.d a0),some (.d (cs words5)),some (.d (cs rests5)),some (.d (cs others5)),some (.d (cs junk5)),some (.obj 236011),some (.obj 1),some (.d (.str x)),r8,r9,r10,r11,none,none]
noncomputable abbrev S5 (s:List Nat):Str:=⟨s.toArray⟩
section
variable {P:Pm}{pr:List Nat}{n m:Nat}{l:Sl}{rest:List Int}{fs:List (Str×V)}
theorem t8 {t:List (List Nat)}{i:Nat}{s:List Nat}(h:t[i]?=some s):(t.map fun s=>D.str ⟨s.toArray⟩)[i]?=some (.str (S5 s)):=by rw[List.getElem?_map,h];rfl
theorem mQ {c:aa}{t:List (List Nat)}{i:Nat}{s:List Nat}(h:t[i]?=some s)(hl:t.length≤100){K:D→Prop}(hK:K (.str (S5 s))):ef c (.d (cs t)) (.d (.int (i:Nat))) K:=
 mT (Int.natCast_nonneg _) (by rw[Int.toNat_natCast];exact t8 h) (by rw[List.length_map];unfold big;exact Om.o405 hl) hK
theorem sy (L:L5Ok P)(h5:aM l 5=some (.obj 236011))(hfs:Fs5 P.C m fs)(hr:rest.length≤63)(t:List (List Nat)){b:Nat}(hb:t.length=b)(h0:0<b)(h1:b≤100){e:IE}(he:∀K':V→aa→Prop,K' (.d (cs t)) (c5 P.C rest fs)→wpE P (n+4) e l (c5 P.C rest fs) K') :
  ∃(s:List Nat) (rest':List Int),s∈t∧rest'.length≤rest.length∧∀K':V→aa→Prop,K' (.d (.str (S5 s))) (c5 P.C rest' fs)→wpE P (n+5) (.item e (vi b)) l (c5 P.C rest fs) K':=by
 obtain⟨v,rest',hv,hr',go⟩:=cY (n:=n) L h0 h5 hfs hr
 obtain⟨s,hs⟩:∃s,t[v]?=some s:=⟨_,List.getElem?_eq_getElem (by exact Om.o404 hb hv)⟩
 refine⟨s,rest',List.mem_of_getElem? hs,hr',fun K' h=>?_⟩
 rw[j8]
 exact he _ (go _ (mQ hs (by exact Om.o403 hb h1) h))
theorem fE {c:aa}{x y:Str}{K:D→Prop}(hl:x.length+y.length≤big)(h:K (.str (x++y))):hF c .Add (.d (.str x)) (.d (.str y)) K:=⟨hl,h⟩
end
theorem d9 (x y:Str):(x++y).length=x.length+y.length:=by rw[←aD,←aD,←aD,cj,List.length_append]
theorem dv {t:List (List Nat)}(ht:(t.all fun s=>decide (s.length≤15))=true){s:List Nat}(h:s∈t):(S5 s).length≤15:=by
 have:s.length≤15:=of_decide_eq_true (List.all_eq_true.mp ht s h)
 exact this
theorem dS {t:List (List Nat)}(ht:(t.all fun s=>s.all fun c=>decide (c<128))=true){s:List Nat}(h:s∈t):∀c∈s,c<128:=fun c hc=>by
 have:=List.all_eq_true.mp (List.all_eq_true.mp ht s h) c hc
 simpa using this
theorem tT {j:Nat}{x:Str}(h:Tx j x){S J:List Nat}{due:Bool}(hS:pe S due=true)(hJ:J∈junk5)(lS:S.length≤60)(wS:∀c∈S,c<128){x':Str}(hx:sg x'=sg x++(S++J)):Tx (j+1) x'∧aG x'=due:=by
 simp only[pe,Bool.and_eq_true,List.all_eq_true] at hS
 obtain⟨h1,h2⟩:=hS
 have h3:=h2 J hJ
 simp only[Bool.not_eq_true',beq_iff_eq] at h3
 obtain⟨gd,hc⟩:=h.cl
 have hj:=rA (List.all_eq_true.mp vq J hJ)
 obtain⟨e1,gd',e2⟩:=iX hc hx (sj h1) hj h3.1 h3.2
 have lJ:J.length≤15:=dv (t:=junk5) (by decide +kernel) hJ
 have wJ:=dS (t:=junk5) (by decide +kernel) hJ
 refine⟨⟨⟨gd',by rw[hx];exact e2⟩,?_,?_⟩,e1⟩
 ·rw[hx];intro c hc
  rcases List.mem_append.mp hc with hc|hc
  ·exact h.low c hc
  ·rcases List.mem_append.mp hc with hc|hc
   ·exact wS c hc
   ·exact wJ c hc
 ·rw[hx,List.length_append,List.length_append];have:=h.len;exact Om.o402 lS lJ this
section
variable {P:Pm}{pr:List Nat}{N m:Nat}{rest:List Int}{fs:List (Str×V)}
theorem ua (L:L5Ok P)(hfs:Fs5 P.C m fs)(hm:m≤600)(hr:rest.length≤63){j:Nat}(hj:j≤6){x:Str}(hx:Tx j x){a0:D}{r8 r9 r10 r11:Option V}{K:F→Sg'→Prop}
  (h:∀x' rest' fs' r9 r10 due,Tx (j+1) x'→aG x'=due→rest'.length≤63→Fs5 P.C (m+11) fs'→K .next ⟨sl5 a0 x' r8 r9 r10 (some (.d (.bool due))),c5 P.C rest' fs'⟩) :
  wpB P pr (N+50) jS ⟨sl5 a0 x r8 r9 r10 r11,c5 P.C rest fs⟩ K:=by
 have hxl:x.length≤1000:=by have:=hx.len;rw[aD] at this;exact Om.o430 hj this
 unfold jS
 obtain⟨s1,rest1,m1,q1,g1⟩:=sy (n:=N+42) (l:=sl5 a0 x r8 r9 r10 r11) L rfl hfs hr leads5 (b:=4) rfl (by decide) (by decide) (e:=.lst [(.c (.str ⟨#[]⟩)),(.c (.str ⟨#[32]⟩)),(.c (.str ⟨#[9]⟩)),(.c (.str ⟨#[32,32,9]⟩))] none) (fun K' h=>⟨by show 4≤big;decide,h⟩)
 have l1:=dv (t:=leads5) (by decide +kernel) m1
 refine bP (n:=N+48) (.d (.str (x++S5 s1))) (c':=c5 P.C rest1 fs) (fun K' h=>?_) ?_
 ·simp only[cN];exact bD (n:=N+46) rfl _ (g1 _ (fE (by unfold big;exact Om.o429 hxl l1) h))
 have x1l:(x++S5 s1).length≤1015:=by rw[d9];exact Om.o428 hxl l1
 refine ay fun G9 back9=>?_;obtain⟨v,ao,hv,q2,g2⟩:=cY (n:=N+42) (l:=sl5 a0 (x++S5 s1) r8 r9 r10 r11) (b:=3) L (by decide) rfl hfs (rest:=rest1) (by exact Om.o421 hr q1);refine back9 ?_
 refine bw (n:=N+47) (decide (((v:Nat):Int)<2)) (c':=c5 P.C ao fs) (fun K' h=>?_) ?_
 ·simp only[eX];exact g2 _ h
 have tail:∀(S:List Nat) (due:Bool) (x2:Str) (rest3:List Int) (r9 r10:Option V),pe (s1++S++[10]) due=true→sg x2=sg x++(s1++S++[10])→S.length≤40→(∀c∈S,c<128)→rest3.length≤63→
   wpB P pr (N+48) [.asg 7 (.bin .Add (.v 7) (.item (.v 4) (vi 5))),.if_ (.not (.call (.g (.val (.ref 265))) [(.v 6),(.v 7),(.v 11)] none)) [.ret (some (.c (.bool false)))] []] ⟨sl5 a0 x2 r8 r9 r10 (some (.d (.bool due))),c5 P.C rest3 fs⟩ K:=by
  intro S due x2 rest3 r9 r10 hchk hx2 hSl hSw hr3
  obtain⟨J,rest4,mJ,q4,g4⟩:=sy (n:=N+40) (l:=sl5 a0 x2 r8 r9 r10 (some (.d (.bool due)))) L rfl hfs hr3 junk5 (b:=5) rfl (by decide) (by decide) (e:=.v 4) (fun K' h=>h)
  have lJ:=dv (t:=junk5) (by decide +kernel) mJ
  have e2:x2.length≤1100:=by
   rw[←aD,hx2];simp only[List.length_append,List.length_cons,List.length_nil]
   have:(S5 s1).length=s1.length:=rfl
   have:=aD x;exact Om.o427 hxl l1 hSl
  refine bP (n:=N+46) (.d (.str (x2++S5 J))) (c':=c5 P.C rest4 fs) (fun K' h=>?_) ?_
  ·simp only[cN];exact bD (n:=N+44) rfl _ (g4 _ (fE (by unfold big;exact Om.o426 lJ e2) h))
  have wl:=dS (t:=leads5) (by decide +kernel) m1
  obtain⟨t1,t2⟩:=tT hx (x':=x2++S5 J) hchk mJ (by simp only[List.length_append,List.length_cons,List.length_nil];have:(S5 s1).length=s1.length:=rfl;exact Om.o425 l1 hSl) (fun c hc=>by
   rcases List.mem_append.mp hc with hc|hc
   ·rcases List.mem_append.mp hc with hc|hc
    ·exact wl c hc
    ·exact hSw c hc
   ·have:c=10:=by simpa using hc
    exact Om.o424 this) (by rw[cj,hx2,eE,List.append_assoc])
  obtain⟨T,hb⟩:=t1.ok (by exact Om.o423 hj)
  refine qS (n:=N+38) L rfl rfl (fun K' h=>h) hfs (by exact Om.o422 hm) T hb t2 fun fs' h'=>aA ?_
  exact h _ rest4 fs' r9 r10 due t1 t2 (by exact Om.o421 hr3 q4) h'
 by_cases hv2:((v:Nat):Int)<2
 ·rw[decide_eq_true hv2]
  show wpB P pr (N+47) [_,_,_,_] _ _
  obtain⟨w,rest3,hw,q3,g3⟩:=cY (n:=N+41) (l:=sl5 a0 (x++S5 s1) r8 r9 r10 r11) (b:=8) L (by decide) rfl hfs (rest:=ao) (by exact Om.o411 hr q1 q2)
  refine bP (n:=N+45) (.d (.int (w:Nat))) (c':=c5 P.C rest3 fs) g3 ?_
  refine ay fun G9 back9=>?_;obtain⟨r,rest4,hr4,q4,g4⟩:=cY (n:=N+40) (l:=sl5 a0 (x++S5 s1) r8 (some (.d (.int (w:Nat)))) r10 r11) (b:=11) L (by decide) rfl hfs (rest:=rest3) (by exact Om.o406 hr q1 q2 q3);refine back9 ?_
  refine bP (n:=N+44) (.d (.int (r:Nat))) (c':=c5 P.C rest4 fs) g4 ?_
  refine av (n:=N+43) (.d (.bool (decide (w<5)&&decide (r<7)))) (fun K' h=>?_) ?_
  ·simp only[nS]
   refine jy (n:=N+41) (.d (.int (w:Nat))) (.d (.int 5)) (fun K' h=>h) (fun K' h=>h) ?_
   show (decide (((w:Nat):Int)<5)=false→K' (.d (.bool (decide (((w:Nat):Int)<5)))) _)∧(decide (((w:Nat):Int)<5)=true→_)
   have e:decide (((w:Nat):Int)<5)=decide (w<5):=by
    by_cases q:w<5
    ·rw[decide_eq_true q,decide_eq_true (by exact Om.o420 q)]
    ·rw[decide_eq_false q,decide_eq_false (by exact Om.o419 q)]
   rw[e]
   refine⟨fun q=>by rw[q] at h ⊢;exact h,fun q=>?_⟩
   refine jy (n:=N+41) (.d (.int (r:Nat))) (.d (.int 7)) (fun K' h=>h) (fun K' h=>h) ?_
   show K' (.d (.bool (decide (((r:Nat):Int)<7)))) _
   have e':decide (((r:Nat):Int)<7)=decide (r<7):=by
    by_cases q:r<7
    ·rw[decide_eq_true q,decide_eq_true (by exact Om.o418 q)]
    ·rw[decide_eq_false q,decide_eq_false (by exact Om.o417 q)]
   rw[e']
   rw[q] at h;exact h
  obtain⟨sw,hsw⟩:∃s,words5[w]?=some s:=⟨_,List.getElem?_eq_getElem (show w<words5.length from hw)⟩
  obtain⟨sr,hsr⟩:∃s,rests5[r]?=some s:=⟨_,List.getElem?_eq_getElem (show r<rests5.length from hr4)⟩
  have lw:=dv (t:=words5) (by decide +kernel) (List.mem_of_getElem? hsw)
  have lr:=dv (t:=rests5) (by decide +kernel) (List.mem_of_getElem? hsr)
  have hchk:pe (s1++(sw++sr)++[10]) (decide (w<5)&&decide (r<7))=true:=by
   have:=List.all_eq_true.mp (List.all_eq_true.mp (List.all_eq_true.mp x6 s1 m1) w (List.mem_range.mpr hw)) r (List.mem_range.mpr hr4)
   simp only[List.getD_eq_getElem?_getD,List.getD_eq_getElem?_getD,hsw,hsr] at this
   simpa [List.append_assoc] using this
  refine av (n:=N+42) (.d (.str (x++S5 s1++S5 sw++S5 sr++⟨#[10]⟩))) (fun K' h=>?_) (aA ?_)
  ·have a1:(x++S5 s1++S5 sw).length≤1030:=by rw[d9];exact Om.o410 x1l lw
   have a2:(x++S5 s1++S5 sw++S5 sr).length≤1045:=by rw[d9];exact Om.o416 lr a1
   refine fV (n:=N+41) (.d (.str (x++S5 s1++S5 sw++S5 sr))) (.d (.str ⟨#[10]⟩)) (fun K' h=>?_) (fun K' h=>h) (fE (by show _+1≤big;unfold big;exact Om.o415 a2) h)
   refine fV (n:=N+40) (.d (.str (x++S5 s1++S5 sw))) (.d (.str (S5 sr))) (fun K' h=>?_) (fun K' h=>?_) (fE (by unfold big;exact Om.o414 lr a1) h)
   ·refine fV (n:=N+39) (.d (.str (x++S5 s1))) (.d (.str (S5 sw))) (fun K' h=>h) (fun K' h=>?_) (fE (by unfold big;exact Om.o409 x1l lw) h)
    exact bL (n:=N+38) (.d (cs words5)) (.d (.int (w:Nat))) (fun K' h=>h) (fun K' h=>h) (mQ hsw (by decide) h)
   ·exact bL (n:=N+39) (.d (cs rests5)) (.d (.int (r:Nat))) (fun K' h=>h) (fun K' h=>h) (mQ hsr (by decide) h)
  have ww:=dS (t:=words5) (by decide +kernel) (List.mem_of_getElem? hsw)
  have wr:=dS (t:=rests5) (by decide +kernel) (List.mem_of_getElem? hsr)
  refine tail (sw++sr) _ _ rest4 _ _ hchk ?_ (by rw[List.length_append];have:(S5 sw).length=sw.length:=rfl;have:(S5 sr).length=sr.length:=rfl;exact Om.o413 lw lr) (fun c hc=>?_) (by exact Om.o412 hr q1 q2 q3 q4)
  ·simp only[cj,cj,cj,cj,eE,eE,eE]
   show _++[10]=_
   simp only[List.append_assoc]
  ·rcases List.mem_append.mp hc with hc|hc
   ·exact ww c hc
   ·exact wr c hc
 ·rw[decide_eq_false hv2]
  show wpB P pr (N+47) [_,_] _ _
  obtain⟨o,rest3,mo,q3,g3⟩:=sy (n:=N+37) (l:=sl5 a0 (x++S5 s1) r8 r9 r10 (some (.d (.bool false)))) L rfl hfs (rest:=ao) (by exact Om.o411 hr q1 q2) others5 (b:=9) rfl (by decide) (by decide) (e:=.v 3) (fun K' h=>h)
  have lo:=dv (t:=others5) (by decide +kernel) mo
  have wo:=dS (t:=others5) (by decide +kernel) mo
  refine av (n:=N+45) (.d (.bool false)) (fun K' h=>h) ?_
  have a1:(x++S5 s1++S5 o).length≤1030:=by rw[d9];exact Om.o410 x1l lo
  refine bP (n:=N+44) (.d (.str (x++S5 s1++S5 o++⟨#[10]⟩))) (c':=c5 P.C rest3 fs) (fun K' h=>?_) (aA ?_)
  ·simp only[cN,cN]
   refine bD (n:=N+41) rfl _ (g3 _ (fE (by unfold big;exact Om.o409 x1l lo) ?_))
   show hF (c5 P.C rest3 fs) .Add (.d (.str (x++S5 s1++S5 o))) (.d (.str ⟨#[10]⟩)) (fun d=>K' (.d d) (c5 P.C rest3 fs))
   exact fE (x:=x++S5 s1++S5 o) (y:=⟨#[10]⟩) (by show (x++S5 s1++S5 o).length+1≤big;unfold big;exact Om.o408 a1) h
  ·refine tail o false _ rest3 _ _ (List.all_eq_true.mp (List.all_eq_true.mp y6 s1 m1) o mo) ?_ (by have:(S5 o).length=o.length:=rfl;exact Om.o407 lo) wo (by exact Om.o406 hr q1 q2 q3)
   simp only[cj,cj,cj,eE,eE]
   show _++[10]=_
   simp only[List.append_assoc]
end
noncomputable def bg (due:Bool):List (List Nat×Bool):=[(begun5.getD 0 [],false),([],due),(begun5.getD 1 [],true),(begun5.getD 2 [],true),(begun5.getD 3 [],true),(begun5.getD 4 [],false)]
noncomputable def su (due:Bool):List D:=(bg due).map fun p=>.tup [.str (S5 p.1),.bool p.2]
theorem uR (x:Str):x++S5 []=x:=by
 show Str.mk (x.cps++#[])=x
 rw[Array.append_empty]
theorem uo {i:Nat}(hi:i<5){x:Str}{gd:List Nat}(hc:Cl (sg x) gd):aG (x++S5 (begun5.getD i []))=bdue5.getD i false:=by
 have:=List.all_eq_true.mp y1 i (List.mem_range.mpr hi)
 simp only[yv,Bool.and_eq_true,decide_eq_true_eq,beq_iff_eq,Bool.not_eq_true'] at this
 obtain⟨⟨⟨⟨h1,h2⟩,h3⟩,h4⟩,h5⟩:=this
 exact jF hc (by rw[cj,eE]) ⟨h1,h2⟩ h3 h4 h5
theorem x0 {due:Bool}{v:Nat}{p:List Nat×Bool}(h:(bg due)[v]?=some p){x:Str}{gd:List Nat}(hc:Cl (sg x) gd)(hd:aG x=due):aG (x++S5 p.1)=p.2∧p.1.length≤15∧(∀c∈p.1,c<128)∧(p.1=[]∨p.1.getLast?=some 10):=by
 have hlt:=(List.getElem?_eq_some_iff.mp h).1
 have hv:v<6:=hlt
 have b0:=fun (i:Nat) (hi:i<5)=>uo (i:=i) hi hc
 match v,hv,h with
 |0,_,h=>(injection h with h;subst h);exact⟨b0 0 (by decide),by decide,by decide,by decide⟩
 |1,_,h=>cases h;exact⟨by rw[uR];exact hd,Nat.zero_le _,(fun c hc=>by cases hc),.inl rfl⟩
 |2,_,h=>(injection h with h;subst h);exact⟨b0 1 (by decide),by decide,by decide,by decide⟩
 |3,_,h=>(injection h with h;subst h);exact⟨b0 2 (by decide),by decide,by decide,by decide⟩
 |4,_,h=>(injection h with h;subst h);exact⟨b0 3 (by decide),by decide,by decide,by decide⟩
 |5,_,h=>(injection h with h;subst h);exact⟨b0 4 (by decide),by decide,by decide,by decide⟩
theorem s5 {n:Int}{j:Nat}{d:D}(h:(bR 0 n)[j]?=some d):(j:Int)<n:=by
 unfold bR at h
 have:=(List.getElem?_eq_some_iff.mp h).1
 simp at this;exact Om.o444 this
theorem tx0 {J:List Nat}(h:J∈junk5):Tx 0 (S5 J)∧aG (S5 J)=false:=by
 have hj:=rA (List.all_eq_true.mp vq J h)
 have h0:=List.all_eq_true.mp yR J h
 have lJ:=dv (t:=junk5) (by decide +kernel) h
 refine⟨⟨⟨_,hj.cl⟩,dS (t:=junk5) (by decide +kernel) h,?_⟩,by simpa using h0⟩
 show J.length≤_
 have:(S5 J).length=J.length:=rfl
 exact Om.o443 lJ
theorem yN (C:Addr):Fs5 C 20 fs0:=⟨by intro m hm;revert m hm;decide +kernel,by decide,⟨⟨_,rfl,rfl⟩,⟨_,rfl,xI _⟩,⟨_,rfl,rfl,rfl,by simp[dom]⟩,trivial⟩,by simp[dom]⟩
section
variable {P:Pm}
theorem sA (L:L5Ok P){N:Nat}(l:List Int)(hl:l.length≤63){K:F→Sg'→Prop}(hK:∀l c,K (.ret (.d (.bool true))) ⟨l,c⟩) :
  wpB P [] (N+100) jb ⟨start [.d (.lst (l.map .int))] 13,[]⟩ K:=by
 have hll:(l.map D.int).length≤big:=by rw[List.length_map];unfold big;exact Om.o401 hl
 unfold jb
 show wpB P [] (N+100) _ ⟨[some (.d (.lst (l.map .int))),none,none,none,none,none,none,none,none,none,none,none,none,none],[]⟩ K
 refine av (n:=N+98) (.d (cs words5)) (fun K' h=>⟨by show 8≤big;decide,h⟩) ?_
 refine av (n:=N+97) (.d (cs rests5)) (fun K' h=>⟨by show 11≤big;decide,h⟩) ?_
 refine av (n:=N+96) (.d (cs others5)) (fun K' h=>⟨by show 9≤big;decide,h⟩) ?_
 refine av (n:=N+95) (.d (cs junk5)) (fun K' h=>⟨by show 5≤big;decide,h⟩) ?_
 refine bP (n:=N+94) (.obj 236011) (c':=[(236011,.list (l.map .int))]) (fun K' h=>⟨hll,by simp[dom],h⟩) ?_
 refine bP (n:=N+93) (.obj 1) (c':=c5 P.C l fs0) (fun K' h=>?_) ?_
 ·refine⟨L.C.symm,?_⟩
  show ∃k dk,_
  rw[←L.C,L.ini]
  refine⟨1,2,by simp[dom],by simp[dom],by decide,1,2,rfl,?_,rfl,rfl,rfl,fun j hj=>hj,h⟩
  exact⟨⟨⟨_,rfl,rfl⟩,⟨_,rfl,trivial⟩,⟨_,rfl,rfl,rfl,by simp[dom]⟩,trivial⟩,by simp[dom]⟩
 obtain⟨J,rest1,mJ,q1,g1⟩:=sy (P:=P) (n:=N+87) (l:=[some (.d (.lst (l.map .int))),some (.d (cs words5)),some (.d (cs rests5)),some (.d (cs others5)),some (.d (cs junk5)),some (.obj 236011),some (.obj 1),none,none,none,none,none,none,none]) L rfl (yN P.C) hl junk5 (b:=5) rfl (by decide) (by decide) (e:=.v 4) (fun K' h=>h)
 refine bP (n:=N+92) (.d (.str (S5 J))) (c':=c5 P.C rest1 fs0) g1 ?_
 obtain⟨t0,hc0⟩:=tx0 mJ
 obtain⟨T0,hb0⟩:=t0.ok (by decide)
 refine qS (n:=N+84) L rfl rfl (fun K' h=>h) (yN P.C) (by decide) T0 hb0 hc0 fun fs1 hfs1=>?_
 show wpB P [] (N+92) _ ⟨sl5 (.lst (l.map .int)) (S5 J) none none none none,c5 P.C rest1 fs1⟩ K
 have hr1:rest1.length≤63:=by exact Om.o421 hl q1
 have hl1:(rest1.map D.int).length≤big:=by rw[List.length_map];unfold big;exact Om.o401 hr1
 generalize hn:(if (if (((rest1.map D.int).length:Int).fdiv 5)<5 then (((rest1.map D.int).length:Int).fdiv 5) else 5) > 2 then (if (((rest1.map D.int).length:Int).fdiv 5)<5 then (((rest1.map D.int).length:Int).fdiv 5) else 5) else 2)=nn
 have hn1:2≤nn∧nn≤5:=by rw[←hn];split<;>split<;>omega
 refine dn (n:=N+91) ?_
 rw[m5]
 have hit:∀K':V→aa→Prop,K' (.rng 0 nn) (c5 P.C rest1 fs1)→wpE P (N+90) (.call (.g (.bi .range)) [(.call (.g (.bi .max)) [(.c (.int 2)),(.call (.g (.bi .min)) [(.c (.int 5)),(.bin .FloorDiv (.call (.g (.bi .len)) [(.v 5)] none) (.c (.int 5)))] none)] none)] none) (sl5 (.lst (l.map .int)) (S5 J) none none none none) (c5 P.C rest1 fs1) K':=fun K' h=>by
  refine⟨hl1,⟨Int.natCast_nonneg _,?_,by decide,by decide⟩,?_⟩
  ·unfold big at hl1;exact Om.o189 hl1
  ·rw[←hn] at h
   exact h
 refine hit _ ?_
 refine⟨⟨by decide,by decide,by exact Om.o442 hn1,by exact Om.o441 hn1⟩,_,rfl,fun j τ=>∃rest x fs r11,rest.length≤63∧Tx j x∧Fs5 P.C (31+11*j) fs∧(j=0∧r11=none∨∃due,r11=some (.d (.bool due))∧aG x=due)∧τ=⟨sl5 (.lst (l.map .int)) x none none none r11,c5 P.C rest fs⟩,
  ⟨rest1,S5 J,fs1,none,hr1,t0,hfs1,.inl ⟨rfl,rfl⟩,rfl⟩,?_,?_⟩
 ·rintro j d _ hd ⟨rest,x,fs,r11,hr,hx,hfs,h11,rfl⟩
  have hj:=s5 hd
  refine⟨by show 8<14;decide,?_⟩
  refine ua (N:=N+40) L hfs (by exact Om.o440 hn1 hj) hr (by exact Om.o439 hn1 hj) hx fun x' rest' fs' r9 r10 due t1 t2 t3 t4=>?_
  refine⟨⟨sl5 (.lst (l.map .int)) x' none none none (some (.d (.bool due))),c5 P.C rest' fs'⟩,⟨?_,rfl,(t4.wf rest').w,fun k hk=>by cases hk⟩,rest',x',fs',_,t3,t1,⟨t4.no,by have:=t4.len;exact Om.o438 this,t4.w⟩,.inr ⟨due,rfl,t2⟩,rfl⟩
  exact⟨⟨_,rfl,vD _ _ _⟩,⟨_,rfl,vD _ _ _⟩,⟨_,rfl,vD _ _ _⟩,⟨_,rfl,vD _ _ _⟩,⟨_,rfl,vD _ _ _⟩,⟨_,rfl,.inl ⟨rfl,by show (236011:Nat)∈dom (c5 P.C rest' fs');simp[dom]⟩⟩,⟨_,rfl,.inl ⟨rfl,by show (1:Nat)∈dom (c5 P.C rest' fs');simp[dom]⟩⟩,⟨_,rfl,vD _ _ _⟩,⟨_,rfl,vD _ _ _⟩,trivial⟩
 ·rintro _ ⟨rest,x,fs,r11,hr,hx,hfs,h11,rfl⟩
  have hlen:(bR 0 nn).length=nn.toNat:=by simp[bR]
  rw[hlen] at hx hfs h11
  rcases h11 with ⟨h0,_⟩|⟨due,rfl,hdue⟩
  ·exact (Om.o437 hn1 h0).elim
  obtain⟨gd,hcl⟩:=hx.cl
  refine av (n:=N+89) (.d (.lst (su due))) (fun K' h=>⟨by show 2≤big;decide,by show 2≤big;decide,by show 2≤big;decide,by show 2≤big;decide,by show 2≤big;decide,by show 2≤big;decide,by show 6≤big;decide,h⟩) ?_
  obtain⟨v,ao,hv,q2,g2⟩:=cY (n:=N+83) (l:=[some (.d (.lst (l.map .int))),some (.d (cs words5)),some (.d (cs rests5)),some (.d (cs others5)),some (.d (cs junk5)),some (.obj 236011),some (.obj 1),some (.d (.str x)),none,none,none,some (.d (.bool due)),some (.d (.lst (su due))),none]) (b:=6) L (by decide) rfl hfs hr
  obtain⟨p,hp⟩:∃p,(bg due)[v]?=some p:=⟨_,List.getElem?_eq_getElem (show v<6 from hv)⟩
  obtain⟨b1,b2,b3,b4⟩:=x0 hp hcl hdue
  have hbg:(su due)[v]?=some (.tup [.str (S5 p.1),.bool p.2]):=by unfold su;rw[List.getElem?_map,hp];rfl
  rw[show N+90=(N+88)+1+1 by exact Om.o436,qy,j8]
  refine bD (n:=N+86) rfl _ (g2 _ (mT (Int.natCast_nonneg _) (by rw[Int.toNat_natCast];exact hbg) (by show 6≤big;decide) ?_))
  refine sI ?_
  have hx2:(x++S5 p.1).length≤1000:=by
   rw[d9];have:=hx.len;rw[aD] at this
   have:(S5 p.1).length=p.1.length:=rfl
   exact Om.o435 hn1 b2 ‹_›
  have T2:TextOk (x++S5 p.1):=by
   refine⟨?_,?_,?_⟩
   ·rw[cj,eE];intro c hc
    rcases List.mem_append.mp hc with hc|hc
    ·exact hx.low c hc
    ·exact b3 c hc
   ·rw[cj,eE];exact gQ hcl.ends b4
   ·rw[aD];unfold big;exact Om.o434 hx2
  rw[show N+88+1=(N+87)+2 from rfl,uz]
  show wpE P (N+82+5) (.call (.g (.val (.ref 265))) [(.v 6),(.bin .Add (.v 7) (.v 13)),(.v 11)] none) [some (.d (.lst (l.map .int))),some (.d (cs words5)),some (.d (cs rests5)),some (.d (cs others5)),some (.d (cs junk5)),some (.obj 236011),some (.obj 1),some (.d (.str x)),none,none,none,some (.d (.bool p.2)),some (.d (.lst (su due))),some (.d (.str (S5 p.1)))] (c5 P.C ao fs) _
  refine iT (n:=N+82) (x:=x++S5 p.1) (due:=p.2) L rfl ?_ ?_ hfs (by exact Om.o433 hn1) T2 (by unfold big;exact Om.o432 hx2) b1 _ fun fs' h'=>hK _ _
  rotate_left
  ·exact fun K' h=>h
  refine fun K' h=>?_
  refine fV (n:=N+83) (.d (.str x)) (.d (.str (S5 p.1))) (fun K' h=>h) (fun K' h=>h) (fE (by rw[←d9];unfold big;exact Om.o431 hx2) h)
end
theorem ry (p:Params):bF 60 (T1 p 272) (be (K1 p) 272)=some jb:=by kernel_rfl
section
variable {p:Params}{hb:Heap}(X:(K1 p).In hb)(lim:hb.NoLimit)
include X lim
theorem wO:FnT hb 272 (T1 p 272) jb [Str.ofString "script"] (dp (K1 p) 272) (fg (K1 p) 272) (be (K1 p) 272) 60:=
 dL X lim (by kernel_rfl) (lsS fun _=>ls0 (by kernel_rfl)) rfl (by kernel_rfl) (by kernel_rfl) (ry p)
end
noncomputable def zh:Addr→Spec:=fun a=>if a=260 then eW else if a=265 then gu 249 53037 54020 150016 151021 152021 229011 230034 else if a=155 then gx 249 else jD a
noncomputable def xB:Addr→Bool:=fun a=>a==260||a==265
noncomputable def PE5 (w:World):Pm:=Pm1 w zh xB
theorem L5 (w:World):L5Ok (PE5 w):=⟨rfl,rfl,rfl,rfl,rfl,rfl⟩
noncomputable def qg:Spec:=fun vs c K=>∃l:List Int,vs=[.d (.lst (l.map .int))]∧l.length≤63∧c=[]∧K (.d (.bool true)) []
section
variable {prog:Program}{w:World}{p:Params}{hb:Heap}{mg mb:Str→Option Value}(B:Base1 w p hb mg mb)
include B
theorem zk (a:Addr):Cx0 prog w hb (K1 p) (T1 p a) (PE5 w) 8:=by
 refine cx1 B a (fun a h=>?_) ((yC B).more (by decide))
 simp only[xB,Bool.or_eq_true,beq_iff_eq] at h
 rcases h with rfl|rfl
 ·exact⟨let ⟨o,h1,h2⟩:=(nX B.x B.lim).N.at_;cw B h1 h2,yz B⟩
 ·exact⟨let ⟨o,h1,h2⟩:=(nA B.x B.lim).N.at_;cw B h1 h2,y3 B⟩
theorem law1:mR prog w hb 10 272 qg:=by
 refine v9 (wO B.x B.lim) (by kernel_rfl) (zk B 272) fun vs c K h=>?_
 obtain⟨l,rfl,hl,rfl,hK⟩:=h
 refine⟨rfl,100,?_⟩
 have hr:(dp (K1 p) 272).length=13:=by kernel_rfl
 rw[hr]
 exact sA (L5 w) (N:=0) l hl fun l c=>⟨.d (.bool true),[],vD _ _ _,trivial,fun k hk=>hk,hK⟩
end
def zP (P:Params)(h:Heap)(w:Value)(d:WData):Prop:=match d with
 | .int i=>∃t,w=.int i t
 |_=>True
def xD (P:Params)(h:Heap)(ws:List Value)(ds:List WData):Prop:=match ds with
 | []=>ws=[]
 |d::ds=>∃w r,ws=w::r∧Well P h w d∧WellAll P h r ds
theorem qV {P:Params}{h:Heap}{w:Value}{d:WData}(i:Well P h w d):zP P h w d:=by cases i<;>first|trivial|exact⟨_,rfl⟩
theorem fL {P:Params}{h:Heap}{ws:List Value}{ds:List WData}(i:WellAll P h ws ds):xD P h ws ds:=by
 cases i with
 |nil=>rfl
 |cons a r=>exact⟨_,_,rfl,a,r⟩
theorem oL {P:Params}{h:Heap}{own:Addr→Prop}{l:List Int}:∀{ws:List Value},WellAll P h ws (ofPys (l.map .int))→IsDs h own (l.map D.int) ws:=by
 induction l with
 |nil=>intro ws i;obtain rfl:ws=[]:=fL i;exact .nil
 |cons n l ih=>
  intro ws i
  obtain⟨w,r,rfl,a,q⟩:=fL i
  obtain⟨t,rfl⟩:=qV a
  exact .cons (.int n t) (ih q)
theorem enter {prog:Program}{w:World}{s:Shared}{d:Nat}{a:Addr}{spec:Spec}(F:mR prog w s.heap d a spec)(hd:d≤20){l:List Int}{b:Addr}(hl:Well w.params s.heap (.ref b) (ofPy (.list (l.map .int))))
  (sp:spec [.d (.lst (l.map .int))] [] (fun v c=>v=.d (.bool true))) {Q:Value→Shared→Prop} {E:Value→Shared→Prop}
  (hq:∀h' tk,(∀x o,s.heap.get? x=some o→h'.get? x=some o)→Q (.bool true) {s with heap:=h',toks:=tk}):wpAny (model prog w) callerA (call (.ref a) [.ref b]) Q E s:=by
 have C:Cst s.heap [] [] (fun _=>0) s.heap:=⟨fun _ _ e=>e,fun k o e=>(by contradiction),fun k hk=>(by contradiction),fun k hk=>(by contradiction),fun k hk=>(by contradiction)⟩
 refine wpAny_call (F callerA ⟨rfl,?_,?_⟩ [.d (.lst (l.map .int))] [.ref b] [] (fun _=>0) s _ _ C ?_ sp ?_)
 ·have:(1+claimMargin)+20<recursionLimit:=by decide +kernel
  show (1+claimMargin)+d<recursionLimit;exact Om.o446 hd this
 ·have:4+10*20+200<cLine:=by decide +kernel
  show 4+10*d+200<cLine;exact Om.o445 hd this
 ·refine .cons ?_ .nil
  have hl:Well w.params s.heap (.ref b) (.list (ofPys (l.map .int))):=hl
  cases hl with
  | @list _ vs _ g r=>
   refine IsD.lst (ws:=vs) (ep:=0) g ?_ (oL r)
   rintro⟨k,hk,_⟩;contradiction
 ·rintro v c' α' g h' tk rfl C' L' i
  cases i
  exact hq h' tk fun x o e=>L'.kept x o e (by rintro⟨k,hk,_⟩;cases hk)
end Mine
end
open PySem PySem.W PyProof.Rows
set_option maxRecDepth 100000 in
set_option maxHeartbeats 8000000 in
theorem PySem.Challenge.cw_dm0168_05_holds : PySem.Challenge.rw_dm0168_05.Holds := by
 w_on
 refine holds_law (by kernel_rfl) fun said=>?_
 refine holds_openN (q:=Mine.H5.view) (loose:=Mine.H5.loose) (Xt:=Mine.H5.Xt) (XP:=XL Mine.H5.view Mine.H5.lv) (Yf:=Hook.obs Mine.H5.H) (Ya:=Hook.val Mine.H5.H) (YP:=Hook.says Mine.H5.H) (N:=16964) Mine.H5.hl (Hook.of Mine.H5.H) (Hook.keeps Mine.H5.H)
  (fun s e=>xl_of s (Bool.and_eq_true_iff.mp e).1) XL.keeps (by rfl) (by rfl) (by rfl) (fun s e=>recFacts_of (Bool.and_eq_true_iff.mp e).2) (by rfl) (by first|assumption|decide +kernel) (by decide +kernel) ⟨rfl,rfl,rfl,rfl,rfl,by decide +kernel⟩ ?hw ?hc
 case hw=>w_witness2
 intro w s0 s1 mg mb G Y fa o pm cd doc dV kV ho hd hcd hD hmg hg args vals as hpre hlay hrd hwl hlo
 have KX:(Mine.K1 w.params).In s1.heap:=Y
 refine Ground.open G ?_
 intro T B D TE TW
 wrow_args hpre hlay hrd hwl hlo
 rename_i l hs hlay0 hL1 hr1 hl2 as1 as2 a ws as3 hL ra w1 r0 hI hr hcond hcond1
 clear B D TE TW hs hlay0 hL1 hr1 hl2 ra r0 hr hD hcd hd ho Y
 have hB:Mine.Base1 w w.params s1.heap mg mb:=⟨KX,T.nolimit,T.g,T.b,T.builtins⟩
 have hfa:fa=272:=by
  have e:mg (Str.ofString "law")=some (.ref fa):=hmg
  have e2:nsFind (Mine.nsOf (Mine.K1 w.params) mainGlobals) (Str.ofString "law")=some (.ref 272):=by kernel_rfl
  rw[Mine.mg_of KX T.g (by kernel_rfl) (Str.ofString "law"),e2] at e
  cases e;rfl
 subst hfa
 have hlen:l.length≤63:=by omega
 refine Mine.enter (Mine.law1 hB) (by decide) (l:=l) w1 ⟨l,rfl,hlen,rfl,rfl⟩ fun h' tk hk=>?_
 refine⟨.inl ⟨.bool true,.bool true,[],rfl,raisesW_false (by wrow_none_raised),.bool _,?_,fun _=>⟨List.nodup_nil,fun a ha=>(by cases ha)⟩⟩,hk,rfl,hg⟩
 wrow_post
