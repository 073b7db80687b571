import PyProof.Rows.All
import Wide.All
import OpenK.AllK
import Wide.FinOn
import PyProof.AttrMissHeap
import Lean
import PySem.Challenge.RW_dm0168_04
set_option Elab.async false
set_option linter.all false
set_option genSizeOf false
set_option genSizeOfSpec false
set_option genInjectivity false
set_option maxRecDepth 100000
set_option maxHeartbeats 8000000
section
namespace Mine.H4
open PySem PySem.W PySem.Calls PyProof.Rows
noncomputable abbrev pw:Program:=PySem.Challenge.pw_dm0168_04
noncomputable def aD:List Stmt→Nat→Stmt
 | [],_=>.Pass ⟨0,0,0,0⟩
 |s::_,0=>s
 |_::r,n+1=>aD r n
noncomputable def aH:Stmt→List Stmt
 | .FunctionDef _ _ b _ _ _ _ _ _ _=>b
 | .ClassDef _ _ _ b _ _ _ _ _ _ _=>b
 |_=>[]
noncomputable def aO:Stmt→Arguments
 | .FunctionDef _ a _ _ _ _ _ _ _ _=>a
 |_=>default
noncomputable def ay:Stmt→Scope
 | .FunctionDef _ _ _ _ _ _ s _ _ _=>s
 | .ClassDef _ _ _ _ _ _ s _ _ _ _=>s
 |_=>default
noncomputable def sv (s:String)(n:Nat):Value:=.str (Str.ofString s) n
noncomputable def kv (P:Params)(s:String)(n:Nat)(v:Value):DictEntry:=⟨PyData.keyHash P (Str.ofString s),.str (Str.ofString s) n,v⟩
noncomputable def kq (P:Params)(s:String)(n:Nat):DictEntry:=kv P s n (.builtin s)
noncomputable def ki (k n v m:Nat):DictEntry:=⟨k,.int k n,.int v m⟩
noncomputable def mb (n:Nat):Stmt:=aD (aH (aD pw.main.body 15)) n
noncomputable def lf (o:Obj):BT:=.node o .nil .nil
open PySem.W.BT renaming node→N,nil→O
open PySem.W.Fast renaming te10110043849684766642→tA,te10274390034422433532→tB,te10295753902157049106→tC,te11892475500146522536→tD,te14082659384304107361→tE,te14364793385576792824→tF,te14374325043358763698→tG,te15667345088766844465→tH
noncomputable def o0 (P:Params):Obj:=⟨(.type "dict"),none,(.dict #[kv P "__name__" 1 (sv "builtins" 160),kv P "__doc__" 2 (.builtin "builtins.__doc__:str#opaque"),kv P "__package__" 3 (.builtin "builtins.__package__:str#opaque"),kv P "__loader__" 4 (.builtin "builtins.__loader__:shared#opaque"),kv P "__spec__" 5 (.builtin "builtins.__spec__#opaque"),kq P "__build_class__" 6,kq P "__import__" 7,kq P "abs" 8,kq P "all" 9,kq P "any" 10,kq P "ascii" 11,kq P "bin" 12,kq P "breakpoint" 13,kq P "callable" 14,kq P "chr" 15,kq P "compile" 16,kq P "delattr" 17,kq P "dir" 18,kq P "divmod" 19,kq P "eval" 20,kq P "exec" 21,kq P "format" 22,kq P "getattr" 23,kq P "globals" 24,kq P "hasattr" 25,kq P "hash" 26,kq P "hex" 27,kq P "id" 28,kq P "input" 29,kq P "isinstance" 30,kq P "issubclass" 31,kq P "iter" 32,kq P "aiter" 33,kq P "len" 34,kq P "locals" 35,kq P "max" 36,kq P "min" 37,kq P "next" 38,kq P "anext" 39,kq P "oct" 40,kq P "ord" 41,kq P "pow" 42,kq P "print" 43,kq P "repr" 44,kq P "round" 45,kq P "setattr" 46,kq P "sorted" 47,kq P "sum" 48,kq P "vars" 49,kv P "None" 50 .none,kv P "Ellipsis" 51 .ellipsis,kv P "NotImplemented" 52 .notImplemented,kv P "False" 53 (.bool false),kv P "True" 54 (.bool true),kv P "bool" 55 (.type "bool"),kv P "memoryview" 56 (.type "memoryview"),kv P "bytearray" 57 (.type "bytearray"),kv P "bytes" 58 (.type "bytes"),kv P "classmethod" 59 (.type "classmethod"),kv P "complex" 60 (.type "complex"),kv P "dict" 61 (.type "dict"),kv P "enumerate" 62 (.type "enumerate"),kv P "filter" 63 (.type "filter"),kv P "float" 64 (.type "float"),kv P "frozenset" 65 (.type "frozenset"),kv P "property" 66 (.type "property"),kv P "int" 67 (.type "int"),kv P "list" 68 (.type "list"),kv P "map" 69 (.type "map"),kv P "object" 70 (.type "object"),kv P "range" 71 (.type "range"),kv P "reversed" 72 (.type "reversed"),kv P "set" 73 (.type "set"),kv P "slice" 74 (.type "slice"),kv P "staticmethod" 75 (.type "staticmethod"),kv P "str" 76 (.type "str"),kv P "super" 77 (.type "super"),kv P "tuple" 78 (.type "tuple"),kv P "type" 79 (.type "type"),kv P "zip" 80 (.type "zip"),kv P "__debug__" 81 (.bool true),kv P "BaseException" 82 (.type "BaseException"),kv P "BaseExceptionGroup" 83 (.type "BaseExceptionGroup"),kv P "Exception" 84 (.type "Exception"),kv P "GeneratorExit" 85 (.type "GeneratorExit"),kv P "KeyboardInterrupt" 86 (.type "KeyboardInterrupt"),kv P "SystemExit" 87 (.type "SystemExit"),kv P "ArithmeticError" 88 (.type "ArithmeticError"),kv P "AssertionError" 89 (.type "AssertionError"),kv P "AttributeError" 90 (.type "AttributeError"),kv P "BufferError" 91 (.type "BufferError"),kv P "EOFError" 92 (.type "EOFError"),kv P "ImportError" 93 (.type "ImportError"),kv P "LookupError" 94 (.type "LookupError"),kv P "MemoryError" 95 (.type "MemoryError"),kv P "NameError" 96 (.type "NameError"),kv P "OSError" 97 (.type "OSError"),kv P "ReferenceError" 98 (.type "ReferenceError"),kv P "RuntimeError" 99 (.type "RuntimeError"),kv P "StopAsyncIteration" 100 (.type "StopAsyncIteration"),kv P "StopIteration" 101 (.type "StopIteration"),kv P "SyntaxError" 102 (.type "SyntaxError"),kv P "SystemError" 103 (.type "SystemError"),kv P "TypeError" 104 (.type "TypeError"),kv P "ValueError" 105 (.type "ValueError"),kv P "Warning" 106 (.type "Warning"),kv P "FloatingPointError" 107 (.type "FloatingPointError"),kv P "OverflowError" 108 (.type "OverflowError"),kv P "ZeroDivisionError" 109 (.type "ZeroDivisionError"),kv P "BytesWarning" 110 (.type "BytesWarning"),kv P "DeprecationWarning" 111 (.type "DeprecationWarning"),kv P "EncodingWarning" 112 (.type "EncodingWarning"),kv P "FutureWarning" 113 (.type "FutureWarning"),kv P "ImportWarning" 114 (.type "ImportWarning"),kv P "PendingDeprecationWarning" 115 (.type "PendingDeprecationWarning"),kv P "ResourceWarning" 116 (.type "ResourceWarning"),kv P "RuntimeWarning" 117 (.type "RuntimeWarning"),kv P "SyntaxWarning" 118 (.type "SyntaxWarning"),kv P "UnicodeWarning" 119 (.type "UnicodeWarning"),kv P "UserWarning" 120 (.type "UserWarning"),kv P "BlockingIOError" 121 (.type "BlockingIOError"),kv P "ChildProcessError" 122 (.type "ChildProcessError"),kv P "ConnectionError" 123 (.type "ConnectionError"),kv P "FileExistsError" 124 (.type "FileExistsError"),kv P "FileNotFoundError" 125 (.type "FileNotFoundError"),kv P "InterruptedError" 126 (.type "InterruptedError"),kv P "IsADirectoryError" 127 (.type "IsADirectoryError"),kv P "NotADirectoryError" 128 (.type "NotADirectoryError"),kv P "PermissionError" 129 (.type "PermissionError"),kv P "ProcessLookupError" 130 (.type "ProcessLookupError"),kv P "TimeoutError" 131 (.type "TimeoutError"),kv P "IndentationError" 132 (.type "IndentationError"),kv P "_IncompleteInputError" 133 (.type "_IncompleteInputError"),kv P "IndexError" 134 (.type "IndexError"),kv P "KeyError" 135 (.type "KeyError"),kv P "ModuleNotFoundError" 136 (.type "ModuleNotFoundError"),kv P "NotImplementedError" 137 (.type "NotImplementedError"),kv P "PythonFinalizationError" 138 (.type "PythonFinalizationError"),kv P "RecursionError" 139 (.type "RecursionError"),kv P "UnboundLocalError" 140 (.type "UnboundLocalError"),kv P "UnicodeError" 141 (.type "UnicodeError"),kv P "BrokenPipeError" 142 (.type "BrokenPipeError"),kv P "ConnectionAbortedError" 143 (.type "ConnectionAbortedError"),kv P "ConnectionRefusedError" 144 (.type "ConnectionRefusedError"),kv P "ConnectionResetError" 145 (.type "ConnectionResetError"),kv P "TabError" 146 (.type "TabError"),kv P "UnicodeDecodeError" 147 (.type "UnicodeDecodeError"),kv P "UnicodeEncodeError" 148 (.type "UnicodeEncodeError"),kv P "UnicodeTranslateError" 149 (.type "UnicodeTranslateError"),kv P "ExceptionGroup" 150 (.type "ExceptionGroup"),kv P "EnvironmentError" 151 (.type "OSError"),kv P "IOError" 152 (.type "OSError"),kq P "open" 153,kv P "quit" 154 (.builtin "builtins.quit#opaque"),kv P "exit" 155 (.builtin "builtins.exit#opaque"),kv P "copyright" 156 (.builtin "builtins.copyright#opaque"),kv P "credits" 157 (.builtin "builtins.credits#opaque"),kv P "license" 158 (.builtin "builtins.license#opaque"),kv P "help" 159 (.builtin "builtins.help#opaque")] 159),#[]⟩
noncomputable def o1 (P:Params):Obj:=⟨(.type "dict"),none,(.dict #[kv P "builtins" 162 (.ref 4),kv P "__main__" 163 (.ref 5),kv P "_sre" 244 (.ref 12)] 3),#[]⟩
noncomputable def o2 (P:Params):Obj:=⟨.none,none,(.dict #[kv P "\x69mport.loaded._sre" 183 (.bool true),kv P "class._frozen_importlib.BuiltinImporter" 185 (.ref 14),kv P "watched.\x69mport" 206 (.ref 18),kv P "class._frozen_importlib.ModuleSpec" 216 (.ref 22),kv P "sys.modules.booked-epoch" 245 (.int 3 0),kv P "\x69mport.later-laid._sre" 270 (.bool true),kv P "watched.library" 272 (.ref 27),kv P "watched.library-objects" 0 (sv "\x0c" 0),kv P "watched.library-deep._sre" 273 (sv "\x04\x00\x00\x0b\x04\x00\x00\x0b\x04\x00\x00\x03\x04\x00\x00\x0b\x08\x04dict\x02" 0)] 9),#[]⟩
noncomputable def o3 (P:Params):Obj:=⟨(.type "dict"),none,(.dict #[kv P "__name__" 165 (sv "__main__" 164),kv P "__doc__" 166 .none,kv P "__package__" 167 .none,kv P "__loader__" 168 (.builtin "__main__.__loader__#opaque"),kv P "__spec__" 169 .none,kv P "__annotations__" 170 (.ref 6),kv P "__builtins__" 171 (.ref 4),kv P "__file__" 173 (sv "/claim/cut.py" 172),kv P "__cached__" 174 .none,kv P "_sre" 275 (.ref 12)] 10),#[]⟩
noncomputable def o4:Obj:=⟨(.type "module"),(some 0),.plain,#[]⟩
noncomputable def o5:Obj:=⟨(.type "module"),(some 3),.plain,#[]⟩
noncomputable def o6:Obj:=⟨(.type "dict"),none,(.dict #[] 0),#[]⟩
noncomputable def o7:Obj:=⟨(.type "tuple"),none,(.seq #[] 0),#[]⟩
noncomputable def o8:Obj:=⟨.none,none,(.fields #[]),#[]⟩
noncomputable def o9:Obj:=⟨(.type "code"),none,(.fields #[(sv "<module>" 176),(sv "<module>" 177),(sv "/claim/cut.py" 178),(.int 1 0),(.int 0 0),(.int 0 0),(.int 0 0),(.int 0 0),(.ref 7),(.bool false),(.int 175 0),(.ref 8),.none,.none,.none,.none,(.int 179 0),(.int 1 0),(sv "/claim/cut.py" 180)]),#[]⟩
noncomputable def o10:Obj:=⟨(.type "frame"),none,.plain,#[(some (.ref 9)),(some (.ref 3)),(some (.ref 3)),none,(some (sv "__main__" 164)),none,(some (.ref 0))]⟩
noncomputable def o11 (P:Params):Obj:=⟨(.type "dict"),none,(.dict #[kv P "__name__" 247 (sv "_sre" 246),kv P "__doc__" 248 .none,kv P "__package__" 250 (sv "" 249),kv P "__loader__" 251 (.ref 14),kv P "__spec__" 252 (.ref 26),kv P "compile" 253 (.builtin "_sre.compile"),kv P "template" 254 (.builtin "_sre.template"),kv P "getcodesize" 255 (.builtin "_sre.getcodesize"),kv P "ascii_iscased" 256 (.builtin "_sre.ascii_iscased"),kv P "unicode_iscased" 257 (.builtin "_sre.unicode_iscased"),kv P "ascii_tolower" 258 (.builtin "_sre.ascii_tolower"),kv P "unicode_tolower" 259 (.builtin "_sre.unicode_tolower"),kv P "MAGIC" 261 (.int 20230612 260),kv P "CODESIZE" 263 (.int 4 262),kv P "MAXREPEAT" 265 (.int 4294967295 264),kv P "MAXGROUPS" 267 (.int 1073741823 266),kv P "copyright" 269 (sv " SRE 2.2.2 Copyright (c) 1997-2002 by Secret Labs AB " 268)] 17),#[]⟩
noncomputable def o12:Obj:=⟨(.type "module"),(some 11),.plain,#[]⟩
noncomputable def o13 (P:Params):Obj:=⟨(.type "dict"),none,(.dict #[kv P "__module__" 189 (sv "_frozen_importlib" 186),kv P "__firstlineno__" 190 (.int 971 187),kv P "__doc__" 191 (.builtin "_frozen_importlib.BuiltinImporter.__doc__:str#opaque"),kv P "_ORIGIN" 192 (sv "built-in" 188),kv P "find_spec" 193 (.builtin "_frozen_importlib.BuiltinImporter.find_spec#opaque"),kv P "create_module" 194 (.builtin "_frozen_importlib.BuiltinImporter.create_module#opaque"),kv P "exec_module" 195 (.builtin "_frozen_importlib.BuiltinImporter.exec_module#opaque"),kv P "get_code" 196 (.builtin "_frozen_importlib.BuiltinImporter.get_code#opaque"),kv P "get_source" 197 (.builtin "_frozen_importlib.BuiltinImporter.get_source#opaque"),kv P "is_package" 198 (.builtin "_frozen_importlib.BuiltinImporter.is_package#opaque"),kv P "load_module" 199 (.builtin "_frozen_importlib.BuiltinImporter.load_module#opaque"),kv P "__static_attributes__" 200 (.ref 15),kv P "__dict__" 202 (.ref 16),kv P "__weakref__" 204 (.ref 17)] 14),#[]⟩
noncomputable def o14:Obj:=⟨(.type "type"),none,(.cls ⟨(Str.ofString "BuiltinImporter"),[(.type "object")],[(.ref 14),(.type "object")],13,(Str.ofString "BuiltinImporter"),true,[],[],false,none,false⟩),#[]⟩
noncomputable def o15:Obj:=⟨(.type "getset_descriptor"),none,(.fields #[(sv "__dict__" 201),(.ref 14),(.builtin "function.__dict__"),(.builtin "function.__dict__#set")]),#[]⟩
noncomputable def o16:Obj:=⟨(.type "getset_descriptor"),none,(.fields #[(sv "__weakref__" 203),(.ref 14),(.builtin "ExceptionGroup.__weakref__"),.none]),#[]⟩
noncomputable def o17:Obj:=⟨.none,none,(.seq #[(.int 13 0),(sv "\x06½\n__module__\x06º\x11_frozen_importlib\x06¾\x0f__firstlineno__\x04»\x00ϋ\x06¿\x07__doc__\t4_frozen_importlib.BuiltinImporter.__doc__:str#opaque\x06À\x07_ORIGIN\x06¼\x08built-in\x06Á\tfind_spec\t2_frozen_importlib.BuiltinImporter.find_spec#opaque\x06Â\x0dcreate_module\t6_frozen_importlib.BuiltinImporter.create_module#opaque\x06Ã\x0bexec_module\t4_frozen_importlib.BuiltinImporter.exec_module#opaque\x06Ä\x08get_code\t1_frozen_importlib.BuiltinImporter.get_code#opaque\x06Å\nget_source\t3_frozen_importlib.BuiltinImporter.get_source#opaque\x06Æ\nis_package\t3_frozen_importlib.BuiltinImporter.is_package#opaque\x06Ç\x0bload_module\t4_frozen_importlib.BuiltinImporter.load_module#opaque\x06È\x15__static_attributes__\x04\x00\x00\x0f\x06Ê\x08__dict__\x04\x00\x00\x10\x06Ì\x0b__weakref__\x04\x00\x00\x11" 0),(.bool true),(.bool true),(sv "" 205),(.int 21 0),(sv "\x06ã\n__module__\x06Ù\x11_frozen_importlib\x06ä\x0f__firstlineno__\x04Ú\x00Ȳ\x06å\x07__doc__\t/_frozen_importlib.ModuleSpec.__doc__:str#opaque\x06æ\x08__init__\t,_frozen_importlib.ModuleSpec.__init__#opaque\x06ç\x08__repr__\t,_frozen_importlib.ModuleSpec.__repr__#opaque\x06è\x06__eq__\t*_frozen_importlib.ModuleSpec.__eq__#opaque\x06é\x06cached\t*_frozen_importlib.ModuleSpec.cached#opaque\x06ê\x06parent\t*_frozen_importlib.ModuleSpec.parent#opaque\x06ë\x0chas_location\t0_frozen_importlib.ModuleSpec.has_location#opaque\x06ì\x15__static_attributes__\x04\x00\x00\x17\x06î\x08__dict__\x04\x00\x00\x18\x06ð\x0b__weakref__\x04\x00\x00\x19\x06ñ\x08__hash__\x00" 0),(.bool true),(.bool true),(sv "" 242)] 1),#[]⟩
noncomputable def o18:Obj:=⟨(.type "list"),none,(.seq #[] 0),#[]⟩
noncomputable def o19 (P:Params):Obj:=⟨(.type "dict"),none,(.dict #[kv P "name" 208 (sv "_sre" 207),kv P "loader" 209 (.ref 14),kv P "origin" 210 (sv "built-in" 184),kv P "loader_state" 211 .none,kv P "submodule_search_locations" 212 .none,kv P "_uninitialized_submodules" 213 (.ref 19),kv P "_set_fileattr" 214 (.bool false),kv P "_cached" 215 .none,kv P "_initializing" 243 (.bool false)] 9),#[]⟩
noncomputable def o20 (P:Params):Obj:=⟨(.type "dict"),none,(.dict #[kv P "__module__" 227 (sv "_frozen_importlib" 217),kv P "__firstlineno__" 228 (.int 562 218),kv P "__doc__" 229 (.builtin "_frozen_importlib.ModuleSpec.__doc__:str#opaque"),kv P "__init__" 230 (.builtin "_frozen_importlib.ModuleSpec.__init__#opaque"),kv P "__repr__" 231 (.builtin "_frozen_importlib.ModuleSpec.__repr__#opaque"),kv P "__eq__" 232 (.builtin "_frozen_importlib.ModuleSpec.__eq__#opaque"),kv P "cached" 233 (.builtin "_frozen_importlib.ModuleSpec.cached#opaque"),kv P "parent" 234 (.builtin "_frozen_importlib.ModuleSpec.parent#opaque"),kv P "has_location" 235 (.builtin "_frozen_importlib.ModuleSpec.has_location#opaque"),kv P "__static_attributes__" 236 (.ref 23),kv P "__dict__" 238 (.ref 24),kv P "__weakref__" 240 (.ref 25),kv P "__hash__" 241 .none] 13),#[]⟩
noncomputable def o21:Obj:=⟨(.type "type"),none,(.cls ⟨(Str.ofString "ModuleSpec"),[(.type "object")],[(.ref 22),(.type "object")],21,(Str.ofString "ModuleSpec"),true,[],[],false,none,false⟩),#[]⟩
noncomputable def o22:Obj:=⟨(.type "tuple"),none,(.seq #[(sv "_cached" 219),(sv "_set_fileattr" 220),(sv "_uninitialized_submodules" 221),(sv "loader" 222),(sv "loader_state" 223),(sv "name" 224),(sv "origin" 225),(sv "submodule_search_locations" 226)] 0),#[]⟩
noncomputable def o23:Obj:=⟨(.type "getset_descriptor"),none,(.fields #[(sv "__dict__" 237),(.ref 22),(.builtin "function.__dict__"),(.builtin "function.__dict__#set")]),#[]⟩
noncomputable def o24:Obj:=⟨(.type "getset_descriptor"),none,(.fields #[(sv "__weakref__" 239),(.ref 22),(.builtin "ExceptionGroup.__weakref__"),.none]),#[]⟩
noncomputable def o25:Obj:=⟨(.ref 22),(some 20),.plain,#[]⟩
noncomputable def o26:Obj:=⟨.none,none,(.seq #[(.int 11 0),(.str (PySem.Str.mk #[6,247,8,95,95,110,97,109,101,95,95,6,246,4,95,115,114,101,6,248,7,95,95,100,111,99,95,95,0,6,250,11,95,95,112,97,99,107,97,103,101,95,95,6,249,0,6,251,10,95,95,108,111,97,100,101,114,95,95,4,0,0,14,6,252,8,95,95,115,112,101,99,95,95,4,0,0,26,6,253,7,99,111,109,112,105,108,101,9,12,95,115,114,101,46,99,111,109,112,105,108,101,6,254,8,116,101,109,112,108,97,116,101,9,13,95,115,114,101,46,116,101,109,112,108,97,116,101,6,255,11,103,101,116,99,111,100,101,115,105,122,101,9,16,95,115,114,101,46,103,101,116,99,111,100,101,115,105,122,101,6,256,13,97,115,99,105,105,95,105,115,99,97,115,101,100,9,18,95,115,114,101,46,97,115,99,105,105,95,105,115,99,97,115,101,100,6,257,15,117,110,105,99,111,100,101,95,105,115,99,97,115,101,100,9,20,95,115,114,101,46,117,110,105,99,111,100,101,95,105,115,99,97,115,101,100,6,258,13,97,115,99,105,105,95,116,111,108,111,119,101,114,9,18,95,115,114,101,46,97,115,99,105,105,95,116,111,108,111,119,101,114,6,259,15,117,110,105,99,111,100,101,95,116,111,108,111,119,101,114,9,20,95,115,114,101,46,117,110,105,99,111,100,101,95,116,111,108,111,119,101,114,6,261,5,77,65,71,73,67,4,260,0,20230612,6,263,8,67,79,68,69,83,73,90,69,4,262,0,4,6,265,9,77,65,88,82,69,80,69,65,84,4,264,0,4294967295,6,267,9,77,65,88,71,82,79,85,80,83,4,266,0,1073741823,6,269,9,99,111,112,121,114,105,103,104,116,6,268,53,32,83,82,69,32,50,46,50,46,50,32,67,111,112,121,114,105,103,104,116,32,40,99,41,32,49,57,57,55,45,50,48,48,50,32,98,121,32,83,101,99,114,101,116,32,76,97,98,115,32,65,66,32]) 0),(.bool true),(.bool false),(sv "_sre" 271)] 0),#[]⟩
noncomputable def hSe (P:Params):Heap:=⟨Array.mk [o0 P,o1 P,o2 P,o3 P,o4,o5,o6,o7,o8,o9,o10,o11 P,o12,o13 P,o14,o7,o15,o16,o17,o18,o19 P,o20 P,o21,o22,o23,o24,o25,o26],{}⟩
noncomputable def o27 (P:Params):Obj:=⟨(.type "dict"),none,(.dict #[kv P "__name__" 247 (sv "_sre" 246),kv P "__doc__" 248 .none,kv P "__package__" 250 (sv "" 249),kv P "__loader__" 251 (.builtin "off-the-table:_sre.__loader__:shared#opaque"),kv P "__spec__" 252 (.builtin "off-the-table:_sre.__spec__:shared#opaque"),kv P "compile" 253 (.builtin "_sre.compile"),kv P "template" 254 (.builtin "off-the-table:_sre.template:shared#opaque"),kv P "getcodesize" 255 (.builtin "off-the-table:_sre.getcodesize:shared#opaque"),kv P "ascii_iscased" 256 (.builtin "off-the-table:_sre.ascii_iscased:shared#opaque"),kv P "unicode_iscased" 257 (.builtin "off-the-table:_sre.unicode_iscased:shared#opaque"),kv P "ascii_tolower" 258 (.builtin "off-the-table:_sre.ascii_tolower:shared#opaque"),kv P "unicode_tolower" 259 (.builtin "off-the-table:_sre.unicode_tolower:shared#opaque"),kv P "MAGIC" 261 (.int 20230612 260),kv P "CODESIZE" 263 (.int 4 262),kv P "MAXREPEAT" 265 (.int 4294967295 264),kv P "MAXGROUPS" 267 (.int 1073741823 266),kv P "copyright" 269 (sv " SRE 2.2.2 Copyright (c) 1997-2002 by Secret Labs AB " 268)] 17),#[]⟩
noncomputable def hSz (P:Params):Heap:=⟨Array.mk [o0 P,o1 P,o2 P,o3 P,o4,o5,o6,o7,o8,o9,o10,o27 P,o12,o13 P,o14,o7,o15,o16,o17,o18,o19 P,o20 P,o21,o22,o23,o24,o25,o26],{}⟩
noncomputable def o28:Obj:=⟨(.type "code"),none,(.fields #[(sv "<module>" 277),(sv "<module>" 278),(sv "/claim/cut.py" 279),(.int 1 0),(.int 0 0),(.int 0 0),(.int 0 0),(.int 0 0),(.ref 28),(.bool false),(.int 276 0),(.ref 29),.none,.none,.none,.none,(.int 280 0),(.int 1 0),(sv "/claim/cut.py" 281)]),#[]⟩
noncomputable def o29:Obj:=⟨(.type "frame"),none,.plain,#[(some (.ref 30)),(some (.ref 3)),(some (.ref 3)),none,(some (sv "__main__" 164)),none,(some (.ref 0))]⟩
noncomputable def hSa (P:Params):Heap:=⟨Array.mk [o0 P,o1 P,o2 P,o3 P,o4,o5,o6,o7,o8,o9,o10,o27 P,o12,o13 P,o14,o7,o15,o16,o17,o18,o19 P,o20 P,o21,o22,o23,o24,o25,o26,o7,o8,o28,o29],{}⟩
noncomputable def Sa (w:World)(os:OsState):Shared:=⟨hSa w.params,Array.mk [],⟨0,0,0,0⟩,282,os⟩
noncomputable def tS0 (P:Params):BT:=(N (o0 P) (N (o1 P) (N (o3 P) (N o7 (N o7 (lf o29) O) (lf o22)) (N (o27 P) (lf o18) (lf o26))) (N o5 (N o9 (lf o16) (lf o24)) (N (o13 P) (lf (o20 P)) (lf o8)))) (N (o2 P) (N o4 (N o8 (lf o15) (lf o23)) (N o12 (lf (o19 P)) (lf o7))) (N o6 (N o10 (lf o17) (lf o25)) (N o14 (lf o21) (lf o28)))))
noncomputable def S0 (w:World)(os:OsState):SharedT:=⟨tS0 w.params,32,{},Array.mk [],⟨0,0,0,0⟩,282,os⟩
noncomputable def o30 (P:Params):Obj:=⟨(.type "dict"),none,(.dict #[kv P "__name__" 165 (sv "cpy313.idlelib.pyparse" 289),kv P "__doc__" 166 .none,kv P "__package__" 167 .none,kv P "__loader__" 168 (.builtin "__main__.__loader__#opaque"),kv P "__spec__" 169 .none,kv P "__annotations__" 170 (.ref 6),kv P "__builtins__" 171 (.ref 4),kv P "__file__" 173 (sv "/claim/cut.py" 172),kv P "__cached__" 174 .none,kv P "_sre" 275 (.ref 12),kv P "_wall" 288 (.ref 38),kv P "_twin_re_2" 334 (.ref 43)] 12),#[]⟩
noncomputable def o31:Obj:=⟨.none,none,(.fields #[(.int 2 0),(.int 0 0),(.ref 37)]),#[]⟩
noncomputable def o32:Obj:=⟨(.type "tuple"),none,(.seq #[(sv "k" 285)] 0),#[]⟩
noncomputable def o33:Obj:=⟨.none,none,(.func ⟨(Str.ofString "_wall"),(Str.ofString "_wall"),(aO (aD pw.main.body 1)),(.stmts (aH (aD pw.main.body 1))),(ay (aD pw.main.body 1)),0,[],.none,.none,.none,.none,none,.none,.none,0⟩),#[]⟩
noncomputable def o34:Obj:=⟨(.type "code"),none,(.fields #[(sv "_wall" 282),(sv "_wall" 283),(sv "/claim/cut.py" 284),(.int 2 0),(.int 1 0),(.int 0 0),(.int 0 0),(.int 3 0),(.ref 32),(.bool true),(.int 276 0),(.ref 33),.none,(.ref 34),(.ref 35),(.ref 36),(.int 286 0),(.int 2 0),(sv "/claim/cut.py" 287)]),#[]⟩
noncomputable def o35:Obj:=⟨(.type "function"),none,(.func ⟨(Str.ofString "_wall"),(Str.ofString "_wall"),(aO (aD pw.main.body 1)),(.stmts (aH (aD pw.main.body 1))),(ay (aD pw.main.body 1)),3,[],.none,.none,.none,(sv "__main__" 164),none,(.ref 37),.none,0⟩),#[]⟩
noncomputable def o36:Obj:=⟨(.type "list"),none,(.seq #[(.int 14 294),(.int 4 295),(.int 0 296),(.int 1 297),(.int 4294967295 298),(.int 24 299),(.int 11 300),(.int 0 301),(.int 4294967295 302),(.int 13 303),(.int 6 304),(.int 16 305),(.int 32 306),(.int 16 307),(.int 9 308),(.int 0 309),(.int 1 310),(.int 23 311),(.int 16 312),(.int 0 313),(.int 1 314),(.int 16 315),(.int 35 316),(.int 13 317),(.int 4 318),(.int 8 319),(.int 13 320),(.int 0 321),(.int 24 322),(.int 5 323),(.int 0 324),(.int 4294967295 325),(.int 2 326),(.int 1 327),(.int 18 328),(.int 16 329),(.int 10 330),(.int 1 331)] 0),#[]⟩
noncomputable def o37:Obj:=⟨(.type "tuple"),none,(.seq #[.none] 0),#[]⟩
noncomputable def o38:Obj:=⟨(.type "tuple"),none,(.seq #[(.int 14 0),(.int 4 0),(.int 0 0),(.int 1 0),(.int 4294967295 0),(.int 24 0),(.int 11 0),(.int 0 0),(.int 4294967295 0),(.int 13 0),(.int 6 0),(.int 16 0),(.int 32 0),(.int 16 0),(.int 9 0),(.int 0 0),(.int 1 0),(.int 23 0),(.int 16 0),(.int 0 0),(.int 1 0),(.int 16 0),(.int 35 0),(.int 13 0),(.int 4 0),(.int 8 0),(.int 13 0),(.int 0 0),(.int 24 0),(.int 5 0),(.int 0 0),(.int 4294967295 0),(.int 2 0),(.int 1 0),(.int 18 0),(.int 16 0),(.int 10 0),(.int 1 0)] 0),#[]⟩
noncomputable def o39:Obj:=⟨(.type "re.Pattern"),none,(.fields #[(sv "\n    [ \\t]*\n    (?: \\# \\S .* )?\n    \\n\n" 292),(.int 96 333),(.int 0 0),.none,.none,(.ref 42),(.int 0 0)]),#[]⟩
noncomputable def tS1 (P:Params):BT:=(N (o0 P) (N (o1 P) (N (o30 P) (N o7 (N o7 (lf o29) O) (N o22 (lf o36) O)) (N (o27 P) (N o18 (lf o7) O) (N o26 (lf o39) O))) (N o5 (N o9 (N o16 (lf o8) O) (N o24 (lf o37) O)) (N (o13 P) (N (o20 P) (lf o34) O) (lf o31)))) (N (o2 P) (N o4 (N o8 (N o15 (lf o7) O) (N o23 (lf o6) O)) (N o12 (N (o19 P) (lf o33) O) (lf o7))) (N o6 (N o10 (N o17 (lf o32) O) (N o25 (lf o38) O)) (N o14 (N o21 (lf o35) O) (lf o28)))))
noncomputable def S1 (w:World)(os:OsState):SharedT:=⟨tS1 w.params,44,{},Array.mk [],⟨0,0,0,0⟩,335,os⟩
noncomputable def o40 (P:Params):Obj:=⟨(.type "dict"),none,(.dict #[kv P "__name__" 165 (sv "cpy313.idlelib.pyparse" 289),kv P "__doc__" 166 .none,kv P "__package__" 167 .none,kv P "__loader__" 168 (.builtin "__main__.__loader__#opaque"),kv P "__spec__" 169 .none,kv P "__annotations__" 170 (.ref 6),kv P "__builtins__" 171 (.ref 4),kv P "__file__" 173 (sv "/claim/cut.py" 172),kv P "__cached__" 174 .none,kv P "_sre" 275 (.ref 12),kv P "_wall" 288 (.ref 38),kv P "_twin_re_2" 334 (.ref 43),kv P "_twin_re_3" 609 (.ref 48),kv P "_twin_re_6" 639 (.ref 53)] 14),#[]⟩
noncomputable def o41:Obj:=⟨(.type "list"),none,(.seq #[(.int 14 338),(.int 9 339),(.int 4 340),(.int 1 341),(.int 4294967295 342),(.int 16 343),(.int 34 344),(.int 16 345),(.int 39 346),(.int 0 347),(.int 7 348),(.int 72 349),(.int 16 350),(.int 34 351),(.int 16 352),(.int 34 353),(.int 16 354),(.int 34 355),(.int 24 356),(.int 12 357),(.int 0 358),(.int 4294967295 359),(.int 13 360),(.int 7 361),(.int 21 362),(.int 16 363),(.int 34 364),(.int 16 365),(.int 92 366),(.int 0 367),(.int 1 368),(.int 23 369),(.int 37 370),(.int 0 371),(.int 4294967295 372),(.int 7 373),(.int 6 374),(.int 16 375),(.int 92 376),(.int 3 377),(.int 15 378),(.int 15 379),(.int 13 380),(.int 16 381),(.int 34 382),(.int 5 383),(.int 7 384),(.int 0 385),(.int 16 386),(.int 34 387),(.int 16 388),(.int 34 389),(.int 1 390),(.int 15 391),(.int 2 392),(.int 0 393),(.int 24 394),(.int 12 395),(.int 0 396),(.int 4294967295 397),(.int 13 398),(.int 7 399),(.int 21 400),(.int 16 401),(.int 34 402),(.int 16 403),(.int 92 404),(.int 0 405),(.int 1 406),(.int 18 407),(.int 23 408),(.int 9 409),(.int 0 410),(.int 1 411),(.int 16 412),(.int 34 413),(.int 16 414),(.int 34 415),(.int 16 416),(.int 34 417),(.int 18 418),(.int 15 419),(.int 186 420),(.int 56 421),(.int 16 422),(.int 34 423),(.int 24 424),(.int 17 425),(.int 0 426),(.int 4294967295 427),(.int 13 428),(.int 12 429),(.int 21 430),(.int 9 431),(.int 1024 432),(.int 4 433),(.int 268435456 434),(.int 0 435),(.int 0 436),(.int 0 437),(.int 0 438),(.int 0 439),(.int 0 440),(.int 1 441),(.int 23 442),(.int 24 443),(.int 0 444),(.int 4294967295 445),(.int 16 446),(.int 92 447),(.int 3 448),(.int 24 449),(.int 17 450),(.int 0 451),(.int 4294967295 452),(.int 13 453),(.int 12 454),(.int 21 455),(.int 9 456),(.int 1024 457),(.int 4 458),(.int 268435456 459),(.int 0 460),(.int 0 461),(.int 0 462),(.int 0 463),(.int 0 464),(.int 0 465),(.int 1 466),(.int 18 467),(.int 24 468),(.int 6 469),(.int 0 470),(.int 1 471),(.int 16 472),(.int 34 473),(.int 1 474),(.int 15 475),(.int 130 476),(.int 72 477),(.int 16 478),(.int 39 479),(.int 16 480),(.int 39 481),(.int 16 482),(.int 39 483),(.int 24 484),(.int 12 485),(.int 0 486),(.int 4294967295 487),(.int 13 488),(.int 7 489),(.int 21 490),(.int 16 491),(.int 39 492),(.int 16 493),(.int 92 494),(.int 0 495),(.int 1 496),(.int 23 497),(.int 37 498),(.int 0 499),(.int 4294967295 500),(.int 7 501),(.int 6 502),(.int 16 503),(.int 92 504),(.int 3 505),(.int 15 506),(.int 15 507),(.int 13 508),(.int 16 509),(.int 39 510),(.int 5 511),(.int 7 512),(.int 0 513),(.int 16 514),(.int 39 515),(.int 16 516),(.int 39 517),(.int 1 518),(.int 15 519),(.int 2 520),(.int 0 521),(.int 24 522),(.int 12 523),(.int 0 524),(.int 4294967295 525),(.int 13 526),(.int 7 527),(.int 21 528),(.int 16 529),(.int 39 530),(.int 16 531),(.int 92 532),(.int 0 533),(.int 1 534),(.int 18 535),(.int 23 536),(.int 9 537),(.int 0 538),(.int 1 539),(.int 16 540),(.int 39 541),(.int 16 542),(.int 39 543),(.int 16 544),(.int 39 545),(.int 18 546),(.int 15 547),(.int 58 548),(.int 56 549),(.int 16 550),(.int 39 551),(.int 24 552),(.int 17 553),(.int 0 554),(.int 4294967295 555),(.int 13 556),(.int 12 557),(.int 21 558),(.int 9 559),(.int 1024 560),(.int 128 561),(.int 268435456 562),(.int 0 563),(.int 0 564),(.int 0 565),(.int 0 566),(.int 0 567),(.int 0 568),(.int 1 569),(.int 23 570),(.int 24 571),(.int 0 572),(.int 4294967295 573),(.int 16 574),(.int 92 575),(.int 3 576),(.int 24 577),(.int 17 578),(.int 0 579),(.int 4294967295 580),(.int 13 581),(.int 12 582),(.int 21 583),(.int 9 584),(.int 1024 585),(.int 128 586),(.int 268435456 587),(.int 0 588),(.int 0 589),(.int 0 590),(.int 0 591),(.int 0 592),(.int 0 593),(.int 1 594),(.int 18 595),(.int 24 596),(.int 6 597),(.int 0 598),(.int 1 599),(.int 16 600),(.int 39 601),(.int 1 602),(.int 15 603),(.int 2 604),(.int 0 605),(.int 1 606)] 0),#[]⟩
noncomputable def o42:Obj:=⟨(.type "tuple"),none,(.seq #[(.int 14 0),(.int 9 0),(.int 4 0),(.int 1 0),(.int 4294967295 0),(.int 16 0),(.int 34 0),(.int 16 0),(.int 39 0),(.int 0 0),(.int 7 0),(.int 72 0),(.int 16 0),(.int 34 0),(.int 16 0),(.int 34 0),(.int 16 0),(.int 34 0),(.int 24 0),(.int 12 0),(.int 0 0),(.int 4294967295 0),(.int 13 0),(.int 7 0),(.int 21 0),(.int 16 0),(.int 34 0),(.int 16 0),(.int 92 0),(.int 0 0),(.int 1 0),(.int 23 0),(.int 37 0),(.int 0 0),(.int 4294967295 0),(.int 7 0),(.int 6 0),(.int 16 0),(.int 92 0),(.int 3 0),(.int 15 0),(.int 15 0),(.int 13 0),(.int 16 0),(.int 34 0),(.int 5 0),(.int 7 0),(.int 0 0),(.int 16 0),(.int 34 0),(.int 16 0),(.int 34 0),(.int 1 0),(.int 15 0),(.int 2 0),(.int 0 0),(.int 24 0),(.int 12 0),(.int 0 0),(.int 4294967295 0),(.int 13 0),(.int 7 0),(.int 21 0),(.int 16 0),(.int 34 0),(.int 16 0),(.int 92 0),(.int 0 0),(.int 1 0),(.int 18 0),(.int 23 0),(.int 9 0),(.int 0 0),(.int 1 0),(.int 16 0),(.int 34 0),(.int 16 0),(.int 34 0),(.int 16 0),(.int 34 0),(.int 18 0),(.int 15 0),(.int 186 0),(.int 56 0),(.int 16 0),(.int 34 0),(.int 24 0),(.int 17 0),(.int 0 0),(.int 4294967295 0),(.int 13 0),(.int 12 0),(.int 21 0),(.int 9 0),(.int 1024 0),(.int 4 0),(.int 268435456 0),(.int 0 0),(.int 0 0),(.int 0 0),(.int 0 0),(.int 0 0),(.int 0 0),(.int 1 0),(.int 23 0),(.int 24 0),(.int 0 0),(.int 4294967295 0),(.int 16 0),(.int 92 0),(.int 3 0),(.int 24 0),(.int 17 0),(.int 0 0),(.int 4294967295 0),(.int 13 0),(.int 12 0),(.int 21 0),(.int 9 0),(.int 1024 0),(.int 4 0),(.int 268435456 0),(.int 0 0),(.int 0 0),(.int 0 0),(.int 0 0),(.int 0 0),(.int 0 0),(.int 1 0),(.int 18 0),(.int 24 0),(.int 6 0),(.int 0 0),(.int 1 0),(.int 16 0),(.int 34 0),(.int 1 0),(.int 15 0),(.int 130 0),(.int 72 0),(.int 16 0),(.int 39 0),(.int 16 0),(.int 39 0),(.int 16 0),(.int 39 0),(.int 24 0),(.int 12 0),(.int 0 0),(.int 4294967295 0),(.int 13 0),(.int 7 0),(.int 21 0),(.int 16 0),(.int 39 0),(.int 16 0),(.int 92 0),(.int 0 0),(.int 1 0),(.int 23 0),(.int 37 0),(.int 0 0),(.int 4294967295 0),(.int 7 0),(.int 6 0),(.int 16 0),(.int 92 0),(.int 3 0),(.int 15 0),(.int 15 0),(.int 13 0),(.int 16 0),(.int 39 0),(.int 5 0),(.int 7 0),(.int 0 0),(.int 16 0),(.int 39 0),(.int 16 0),(.int 39 0),(.int 1 0),(.int 15 0),(.int 2 0),(.int 0 0),(.int 24 0),(.int 12 0),(.int 0 0),(.int 4294967295 0),(.int 13 0),(.int 7 0),(.int 21 0),(.int 16 0),(.int 39 0),(.int 16 0),(.int 92 0),(.int 0 0),(.int 1 0),(.int 18 0),(.int 23 0),(.int 9 0),(.int 0 0),(.int 1 0),(.int 16 0),(.int 39 0),(.int 16 0),(.int 39 0),(.int 16 0),(.int 39 0),(.int 18 0),(.int 15 0),(.int 58 0),(.int 56 0),(.int 16 0),(.int 39 0),(.int 24 0),(.int 17 0),(.int 0 0),(.int 4294967295 0),(.int 13 0),(.int 12 0),(.int 21 0),(.int 9 0),(.int 1024 0),(.int 128 0),(.int 268435456 0),(.int 0 0),(.int 0 0),(.int 0 0),(.int 0 0),(.int 0 0),(.int 0 0),(.int 1 0),(.int 23 0),(.int 24 0),(.int 0 0),(.int 4294967295 0),(.int 16 0),(.int 92 0),(.int 3 0),(.int 24 0),(.int 17 0),(.int 0 0),(.int 4294967295 0),(.int 13 0),(.int 12 0),(.int 21 0),(.int 9 0),(.int 1024 0),(.int 128 0),(.int 268435456 0),(.int 0 0),(.int 0 0),(.int 0 0),(.int 0 0),(.int 0 0),(.int 0 0),(.int 1 0),(.int 18 0),(.int 24 0),(.int 6 0),(.int 0 0),(.int 1 0),(.int 16 0),(.int 39 0),(.int 1 0),(.int 15 0),(.int 2 0),(.int 0 0),(.int 1 0)] 0),#[]⟩
noncomputable def o43:Obj:=⟨(.type "re.Pattern"),none,(.fields #[(.str (Str.ofString "\n    \\\"\"\" [^\"\\\\]* (?:\n                     (?: \\\\. | \"(?!\"\") )\n                     [^\"\\\\]*\n                 )*\n    (?: \\\"\"\" )?\n\n|   \" [^\"\\\\\\n]* (?: \\\\. [^\"\\\\\\n]* )* \"?\n\n|   ''' [^'\\\\]* (?:\n                   (?: \\\\. | '(?!'') )\n                   [^'\\\\]*\n                )*\n    (?: ''' )?\n\n|   ' [^'\\\\\\n]* (?: \\\\. [^'\\\\\\n]* )* '?\n") 336),(.int 112 608),(.int 0 0),.none,.none,(.ref 47),(.int 0 0)]),#[]⟩
noncomputable def o44:Obj:=⟨(.type "list"),none,(.seq #[(.int 14 613),(.int 4 614),(.int 0 615),(.int 1 616),(.int 4294967295 617),(.int 24 618),(.int 17 619),(.int 1 620),(.int 4294967295 621),(.int 13 622),(.int 12 623),(.int 21 624),(.int 9 625),(.int 0 626),(.int 908 627),(.int 939524096 628),(.int 671088640 629),(.int 0 630),(.int 0 631),(.int 0 632),(.int 0 633),(.int 0 634),(.int 1 635),(.int 1 636)] 0),#[]⟩
noncomputable def o45:Obj:=⟨(.type "tuple"),none,(.seq #[(.int 14 0),(.int 4 0),(.int 0 0),(.int 1 0),(.int 4294967295 0),(.int 24 0),(.int 17 0),(.int 1 0),(.int 4294967295 0),(.int 13 0),(.int 12 0),(.int 21 0),(.int 9 0),(.int 0 0),(.int 908 0),(.int 939524096 0),(.int 671088640 0),(.int 0 0),(.int 0 0),(.int 0 0),(.int 0 0),(.int 0 0),(.int 1 0),(.int 1 0)] 0),#[]⟩
noncomputable def o46:Obj:=⟨(.type "re.Pattern"),none,(.fields #[(.str (Str.ofString "\n    [^[\\](){}#'\"\\\\]+\n") 611),(.int 96 638),(.int 0 0),.none,.none,(.ref 52),(.int 0 0)]),#[]⟩
noncomputable def tS2 (P:Params):BT:=(N (o0 P) (N (o1 P) (N (o40 P) (N o7 (N o7 (lf o29) (lf o42)) (N o22 (lf o36) O)) (N (o27 P) (N o18 (lf o7) (lf o37)) (N o26 (lf o39) O))) (N o5 (N o9 (N o16 (lf o8) (lf o44)) (N o24 (lf o37) O)) (N (o13 P) (N (o20 P) (lf o34) (lf o46)) (N o31 (lf o6) O)))) (N (o2 P) (N o4 (N o8 (N o15 (lf o7) (lf o43)) (N o23 (lf o6) O)) (N o12 (N (o19 P) (lf o33) (lf o45)) (N o7 (lf o41) O))) (N o6 (N o10 (N o17 (lf o32) (lf o6)) (N o25 (lf o38) O)) (N o14 (N o21 (lf o35) O) (N o28 (lf o37) O)))))
noncomputable def S2 (w:World)(os:OsState):SharedT:=⟨tS2 w.params,54,{},Array.mk [],⟨0,0,0,0⟩,640,os⟩
noncomputable def o47 (P:Params):Obj:=⟨(.type "dict"),none,(.dict #[kv P "__name__" 165 (sv "cpy313.idlelib.pyparse" 289),kv P "__doc__" 166 .none,kv P "__package__" 167 .none,kv P "__loader__" 168 (.builtin "__main__.__loader__#opaque"),kv P "__spec__" 169 .none,kv P "__annotations__" 170 (.ref 6),kv P "__builtins__" 171 (.ref 4),kv P "__file__" 173 (sv "/claim/cut.py" 172),kv P "__cached__" 174 .none,kv P "_sre" 275 (.ref 12),kv P "_wall" 288 (.ref 38),kv P "_twin_re_2" 334 (.ref 43),kv P "_twin_re_3" 609 (.ref 48),kv P "_twin_re_6" 639 (.ref 53),kv P "C_NONE" 648 (.int 0 643),kv P "C_BACKSLASH" 649 (.int 1 644),kv P "C_STRING_FIRST_LINE" 650 (.int 2 645),kv P "C_STRING_NEXT_LINES" 651 (.int 3 646),kv P "C_BRACKET" 652 (.int 4 647),kv P "_junkre" 654 (.ref 58),kv P "_match_stringre" 656 (.ref 59),kv P "_chew_ordinaryre" 658 (.ref 60)] 22),#[]⟩
noncomputable def o48:Obj:=⟨(.type "range"),none,(.fields #[(.int 0 641),(.int 5 640),(.int 1 642)]),#[]⟩
noncomputable def o49:Obj:=⟨(.type "range_iterator"),none,(.fields #[(.int 5 0),(.int 0 0),(.int 1 0)]),#[]⟩
noncomputable def o50:Obj:=⟨(.type "StopIteration"),none,(.fields #[(.ref 56),.none,.none,.none,(.bool false),.none]),#[]⟩
noncomputable def o51:Obj:=⟨(.type "builtin_function_or_method"),none,(.fields #[(.builtin "re.Pattern.match"),(.ref 43)]),#[]⟩
noncomputable def o52:Obj:=⟨(.type "builtin_function_or_method"),none,(.fields #[(.builtin "re.Pattern.match"),(.ref 48)]),#[]⟩
noncomputable def o53:Obj:=⟨(.type "builtin_function_or_method"),none,(.fields #[(.builtin "re.Pattern.match"),(.ref 53)]),#[]⟩
noncomputable def tS3 (P:Params):BT:=(N (o0 P) (N (o1 P) (N (o47 P) (N o7 (N o7 (lf o29) (lf o42)) (N o22 (lf o36) (lf o49))) (N (o27 P) (N o18 (lf o7) (lf o37)) (N o26 (lf o39) (lf o52)))) (N o5 (N o9 (N o16 (lf o8) (lf o44)) (N o24 (lf o37) (lf o50))) (N (o13 P) (N (o20 P) (lf o34) (lf o46)) (N o31 (lf o6) O)))) (N (o2 P) (N o4 (N o8 (N o15 (lf o7) (lf o43)) (N o23 (lf o6) (lf o7))) (N o12 (N (o19 P) (lf o33) (lf o45)) (N o7 (lf o41) (lf o53)))) (N o6 (N o10 (N o17 (lf o32) (lf o6)) (N o25 (lf o38) (lf o51))) (N o14 (N o21 (lf o35) (lf o48)) (N o28 (lf o37) O)))))
noncomputable def S3 (w:World)(os:OsState):SharedT:=⟨tS3 w.params,61,{},Array.mk [],⟨0,0,0,0⟩,659,os⟩
noncomputable def o54 (P:Params):Obj:=⟨(.type "dict"),none,(.dict #[kv P "__name__" 165 (sv "cpy313.idlelib.pyparse" 289),kv P "__doc__" 166 .none,kv P "__package__" 167 .none,kv P "__loader__" 168 (.builtin "__main__.__loader__#opaque"),kv P "__spec__" 169 .none,kv P "__annotations__" 170 (.ref 6),kv P "__builtins__" 171 (.ref 4),kv P "__file__" 173 (sv "/claim/cut.py" 172),kv P "__cached__" 174 .none,kv P "_sre" 275 (.ref 12),kv P "_wall" 288 (.ref 38),kv P "_twin_re_2" 334 (.ref 43),kv P "_twin_re_3" 609 (.ref 48),kv P "_twin_re_6" 639 (.ref 53),kv P "C_NONE" 648 (.int 0 643),kv P "C_BACKSLASH" 649 (.int 1 644),kv P "C_STRING_FIRST_LINE" 650 (.int 2 645),kv P "C_STRING_NEXT_LINES" 651 (.int 3 646),kv P "C_BRACKET" 652 (.int 4 647),kv P "_junkre" 654 (.ref 58),kv P "_match_stringre" 656 (.ref 59),kv P "_chew_ordinaryre" 658 (.ref 60),kv P "ParseMap" 686 (.ref 77)] 23),#[]⟩
noncomputable def o55:Obj:=⟨.none,none,(.fields #[(.int 2 0),(.int 0 0),(.ref 37),(.int 13 0),(.int 0 0),(.ref 66)]),#[]⟩
noncomputable def o56:Obj:=⟨(.type "tuple"),none,(.seq #[(.type "dict")] 0),#[]⟩
noncomputable def o57:Obj:=⟨(.type "builtin_function_or_method"),none,(.fields #[(.builtin "type.__prepare__"),(.type "type")]),#[]⟩
noncomputable def o58 (P:Params):Obj:=⟨(.type "dict"),none,(.dict #[kv P "__module__" 666 (sv "cpy313.idlelib.pyparse" 289),kv P "__qualname__" 668 (sv "ParseMap" 667),kv P "__firstlineno__" 670 (.int 13 669),kv P "__missing__" 678 (.ref 74),kv P "__static_attributes__" 679 (.ref 75)] 5),#[]⟩
noncomputable def o59:Obj:=⟨.none,none,(.fields #[(.int 15 0),(.int 4 0),(.ref 73)]),#[]⟩
noncomputable def o60:Obj:=⟨(.type "code"),none,(.fields #[(sv "ParseMap" 661),(sv "ParseMap" 662),(sv "/claim/cut.py" 663),(.int 13 0),(.int 0 0),(.int 0 0),(.int 0 0),(.int 0 0),(.ref 64),(.bool false),(.int 276 0),(.ref 65),.none,.none,.none,.none,(.int 664 0),(.int 13 0),(sv "/claim/cut.py" 665)]),#[]⟩
noncomputable def o61:Obj:=⟨(.type "frame"),none,.plain,#[(some (.ref 66)),(some (.ref 3)),(some (.ref 63)),none,(some (sv "cpy313.idlelib.pyparse" 289)),none,(some (.ref 0))]⟩
noncomputable def o62:Obj:=⟨(.type "tuple"),none,(.seq #[(sv "self" 674),(sv "key" 675)] 0),#[]⟩
noncomputable def o63:Obj:=⟨.none,none,(.func ⟨(Str.ofString "__missing__"),(Str.ofString "ParseMap.__missing__"),(aO (aD (aH (aD pw.main.body 10)) 0)),(.stmts (aH (aD (aH (aD pw.main.body 10)) 0))),(ay (aD (aH (aD pw.main.body 10)) 0)),0,[],.none,.none,.none,.none,none,.none,.none,0⟩),#[]⟩
noncomputable def o64:Obj:=⟨(.type "code"),none,(.fields #[(sv "__missing__" 671),(sv "ParseMap.__missing__" 672),(sv "/claim/cut.py" 673),(.int 15 0),(.int 2 0),(.int 0 0),(.int 0 0),(.int 3 0),(.ref 68),(.bool true),(.int 276 0),(.ref 69),.none,(.ref 70),(.ref 71),(.ref 72),(.int 676 0),(.int 15 0),(sv "/claim/cut.py" 677)]),#[]⟩
noncomputable def o65:Obj:=⟨(.type "function"),none,(.func ⟨(Str.ofString "__missing__"),(Str.ofString "ParseMap.__missing__"),(aO (aD (aH (aD pw.main.body 10)) 0)),(.stmts (aH (aD (aH (aD pw.main.body 10)) 0))),(ay (aD (aH (aD pw.main.body 10)) 0)),3,[],.none,.none,.none,(sv "cpy313.idlelib.pyparse" 289),none,(.ref 73),.none,0⟩),#[]⟩
noncomputable def o66 (P:Params):Obj:=⟨(.type "dict"),none,(.dict #[kv P "__module__" 666 (sv "cpy313.idlelib.pyparse" 289),kv P "__firstlineno__" 670 (.int 13 669),kv P "__missing__" 678 (.ref 74),kv P "__static_attributes__" 679 (.ref 75),kv P "__dict__" 681 (.ref 78),kv P "__weakref__" 683 (.ref 79),kv P "__doc__" 684 .none] 4),#[]⟩
noncomputable def o67:Obj:=⟨(.type "type"),none,(.cls ⟨(Str.ofString "ParseMap"),[(.type "dict")],[(.ref 77),(.type "dict"),(.type "object")],76,(Str.ofString "ParseMap"),true,[],[],false,none,false⟩),#[(some (.ref 61)),none,(some (sv "ParseMap" 659)),(some (sv "ParseMap" 667)),(some (.builtin "dict.__new__")),(some (.bool true))]⟩
noncomputable def o68:Obj:=⟨(.type "getset_descriptor"),none,(.fields #[(sv "__dict__" 680),(.ref 77),(.builtin "function.__dict__"),(.builtin "function.__dict__#set")]),#[]⟩
noncomputable def o69:Obj:=⟨(.type "getset_descriptor"),none,(.fields #[(sv "__weakref__" 682),(.ref 77),(.builtin "ExceptionGroup.__weakref__"),.none]),#[]⟩
noncomputable def o70:Obj:=⟨(.type "super"),none,(.fields #[(.ref 77),(.ref 77),(.ref 77)]),#[]⟩
noncomputable def o71:Obj:=⟨(.type "builtin_function_or_method"),none,(.fields #[(.builtin "object.__init_subclass__"),(.ref 77)]),#[]⟩
noncomputable def tS4 (P:Params):BT:=(N (o0 P) (N (o1 P) (N (o54 P) (N o7 (N o7 (N o29 (lf (o58 P)) O) (N o42 (lf o69) O)) (N o22 (N o36 (lf o7) O) (lf o49))) (N (o27 P) (N o18 (N o7 (lf o61) O) (lf o37)) (N o26 (N o39 (lf o7) O) (lf o52)))) (N o5 (N o9 (N o16 (N o8 (lf o59) O) (N o44 (lf o71) O)) (N o24 (N o37 (lf o64) O) (lf o50))) (N (o13 P) (N (o20 P) (N o34 (lf o8) O) (lf o46)) (N o55 (N o6 (lf o67) O) (lf o56))))) (N (o2 P) (N o4 (N o8 (N o15 (N o7 (lf o7) O) (N o43 (lf o70) O)) (N o23 (N o6 (lf o63) O) (lf o7))) (N o12 (N (o19 P) (N o33 (lf o7) O) (lf o45)) (N o7 (N o41 (lf (o66 P)) O) (lf o53)))) (N o6 (N o10 (N o17 (N o32 (lf o60) O) (lf o6)) (N o25 (N o38 (lf o65) O) (lf o51))) (N o14 (N o21 (N o35 (lf o62) O) (lf o48)) (N o28 (N o37 (lf o68) O) (lf o57))))))
noncomputable def S4 (w:World)(os:OsState):SharedT:=⟨tS4 w.params,82,{},Array.mk [],⟨0,0,0,0⟩,687,os⟩
noncomputable def o72 (P:Params):Obj:=⟨(.type "dict"),none,(.dict #[kv P "__name__" 165 (sv "cpy313.idlelib.pyparse" 289),kv P "__doc__" 166 .none,kv P "__package__" 167 .none,kv P "__loader__" 168 (.builtin "__main__.__loader__#opaque"),kv P "__spec__" 169 .none,kv P "__annotations__" 170 (.ref 6),kv P "__builtins__" 171 (.ref 4),kv P "__file__" 173 (sv "/claim/cut.py" 172),kv P "__cached__" 174 .none,kv P "_sre" 275 (.ref 12),kv P "_wall" 288 (.ref 38),kv P "_twin_re_2" 334 (.ref 43),kv P "_twin_re_3" 609 (.ref 48),kv P "_twin_re_6" 639 (.ref 53),kv P "C_NONE" 648 (.int 0 643),kv P "C_BACKSLASH" 649 (.int 1 644),kv P "C_STRING_FIRST_LINE" 650 (.int 2 645),kv P "C_STRING_NEXT_LINES" 651 (.int 3 646),kv P "C_BRACKET" 652 (.int 4 647),kv P "_junkre" 654 (.ref 58),kv P "_match_stringre" 656 (.ref 59),kv P "_chew_ordinaryre" 658 (.ref 60),kv P "ParseMap" 686 (.ref 77),kv P "trans" 948 (.ref 85)] 24),#[]⟩
noncomputable def o73:Obj:=⟨(.type "builtin_function_or_method"),none,(.fields #[(.builtin "dict.fromkeys"),(.ref 77)]),#[]⟩
noncomputable def o74:Obj:=⟨(.type "range"),none,(.fields #[(.int 0 689),(.int 128 688),(.int 1 690)]),#[]⟩
noncomputable def o75:Obj:=⟨(.ref 77),(some 84),(.dict #[ki 0 692 120 691,ki 1 694 120 691,ki 2 696 120 691,ki 3 698 120 691,ki 4 700 120 691,ki 5 702 120 691,ki 6 704 120 691,ki 7 706 120 691,ki 8 708 120 691,ki 9 710 120 691,ki 10 712 120 691,ki 11 714 120 691,ki 12 716 120 691,ki 13 718 120 691,ki 14 720 120 691,ki 15 722 120 691,ki 16 724 120 691,ki 17 726 120 691,ki 18 728 120 691,ki 19 730 120 691,ki 20 732 120 691,ki 21 734 120 691,ki 22 736 120 691,ki 23 738 120 691,ki 24 740 120 691,ki 25 742 120 691,ki 26 744 120 691,ki 27 746 120 691,ki 28 748 120 691,ki 29 750 120 691,ki 30 752 120 691,ki 31 754 120 691,ki 32 756 120 691,ki 33 758 120 691,ki 34 760 120 691,ki 35 762 120 691,ki 36 764 120 691,ki 37 766 120 691,ki 38 768 120 691,ki 39 770 120 691,ki 40 772 120 691,ki 41 774 120 691,ki 42 776 120 691,ki 43 778 120 691,ki 44 780 120 691,ki 45 782 120 691,ki 46 784 120 691,ki 47 786 120 691,ki 48 788 120 691,ki 49 790 120 691,ki 50 792 120 691,ki 51 794 120 691,ki 52 796 120 691,ki 53 798 120 691,ki 54 800 120 691,ki 55 802 120 691,ki 56 804 120 691,ki 57 806 120 691,ki 58 808 120 691,ki 59 810 120 691,ki 60 812 120 691,ki 61 814 120 691,ki 62 816 120 691,ki 63 818 120 691,ki 64 820 120 691,ki 65 822 120 691,ki 66 824 120 691,ki 67 826 120 691,ki 68 828 120 691,ki 69 830 120 691,ki 70 832 120 691,ki 71 834 120 691,ki 72 836 120 691,ki 73 838 120 691,ki 74 840 120 691,ki 75 842 120 691,ki 76 844 120 691,ki 77 846 120 691,ki 78 848 120 691,ki 79 850 120 691,ki 80 852 120 691,ki 81 854 120 691,ki 82 856 120 691,ki 83 858 120 691,ki 84 860 120 691,ki 85 862 120 691,ki 86 864 120 691,ki 87 866 120 691,ki 88 868 120 691,ki 89 870 120 691,ki 90 872 120 691,ki 91 874 120 691,ki 92 876 120 691,ki 93 878 120 691,ki 94 880 120 691,ki 95 882 120 691,ki 96 884 120 691,ki 97 886 120 691,ki 98 888 120 691,ki 99 890 120 691,ki 100 892 120 691,ki 101 894 120 691,ki 102 896 120 691,ki 103 898 120 691,ki 104 900 120 691,ki 105 902 120 691,ki 106 904 120 691,ki 107 906 120 691,ki 108 908 120 691,ki 109 910 120 691,ki 110 912 120 691,ki 111 914 120 691,ki 112 916 120 691,ki 113 918 120 691,ki 114 920 120 691,ki 115 922 120 691,ki 116 924 120 691,ki 117 926 120 691,ki 118 928 120 691,ki 119 930 120 691,ki 120 932 120 691,ki 121 934 120 691,ki 122 936 120 691,ki 123 938 120 691,ki 124 940 120 691,ki 125 942 120 691,ki 126 944 120 691,ki 127 946 120 691] 128),#[]⟩
noncomputable def o76:Obj:=⟨(.type "range_iterator"),none,(.fields #[(.int 128 0),(.int 0 0),(.int 1 0)]),#[]⟩
noncomputable def o77:Obj:=⟨(.type "StopIteration"),none,(.fields #[(.ref 87),.none,.none,.none,(.bool false),.none]),#[]⟩
noncomputable def tS5 (P:Params):BT:=(N (o0 P) (N (o1 P) (N (o72 P) (N o7 (N o7 (N o29 (lf (o58 P)) O) (N o42 (lf o69) O)) (N o22 (N o36 (lf o7) O) (N o49 (lf o7) O))) (N (o27 P) (N o18 (N o7 (lf o61) O) (N o37 (lf o74) O)) (N o26 (N o39 (lf o7) O) (lf o52)))) (N o5 (N o9 (N o16 (N o8 (lf o59) O) (N o44 (lf o71) O)) (N o24 (N o37 (lf o64) O) (lf o50))) (N (o13 P) (N (o20 P) (N o34 (lf o8) O) (N o46 (lf o75) O)) (N o55 (N o6 (lf o67) O) (lf o56))))) (N (o2 P) (N o4 (N o8 (N o15 (N o7 (lf o7) O) (N o43 (lf o70) O)) (N o23 (N o6 (lf o63) O) (N o7 (lf o77) O))) (N o12 (N (o19 P) (N o33 (lf o7) O) (N o45 (lf o6) O)) (N o7 (N o41 (lf (o66 P)) O) (lf o53)))) (N o6 (N o10 (N o17 (N o32 (lf o60) O) (N o6 (lf o73) O)) (N o25 (N o38 (lf o65) O) (lf o51))) (N o14 (N o21 (N o35 (lf o62) O) (N o48 (lf o76) O)) (N o28 (N o37 (lf o68) O) (lf o57))))))
noncomputable def S5 (w:World)(os:OsState):SharedT:=⟨tS5 w.params,89,{},Array.mk [],⟨0,0,0,0⟩,949,os⟩
noncomputable def o78:Obj:=⟨.none,none,(.fields #[(.int 2 0),(.int 0 0),(.ref 37),(.int 13 0),(.int 0 0),(.ref 66),(.int 18 0),(.int 13 0),(.ref 92)]),#[]⟩
noncomputable def o79:Obj:=⟨(.ref 77),(some 84),(.dict #[ki 0 692 120 691,ki 1 694 120 691,ki 2 696 120 691,ki 3 698 120 691,ki 4 700 120 691,ki 5 702 120 691,ki 6 704 120 691,ki 7 706 120 691,ki 8 708 120 691,ki 9 710 120 691,ki 10 712 120 691,ki 11 714 120 691,ki 12 716 120 691,ki 13 718 120 691,ki 14 720 120 691,ki 15 722 120 691,ki 16 724 120 691,ki 17 726 120 691,ki 18 728 120 691,ki 19 730 120 691,ki 20 732 120 691,ki 21 734 120 691,ki 22 736 120 691,ki 23 738 120 691,ki 24 740 120 691,ki 25 742 120 691,ki 26 744 120 691,ki 27 746 120 691,ki 28 748 120 691,ki 29 750 120 691,ki 30 752 120 691,ki 31 754 120 691,ki 32 756 120 691,ki 33 758 120 691,ki 34 760 120 691,ki 35 762 120 691,ki 36 764 120 691,ki 37 766 120 691,ki 38 768 120 691,ki 39 770 120 691,ki 40 772 40 965,ki 41 774 120 691,ki 42 776 120 691,ki 43 778 120 691,ki 44 780 120 691,ki 45 782 120 691,ki 46 784 120 691,ki 47 786 120 691,ki 48 788 120 691,ki 49 790 120 691,ki 50 792 120 691,ki 51 794 120 691,ki 52 796 120 691,ki 53 798 120 691,ki 54 800 120 691,ki 55 802 120 691,ki 56 804 120 691,ki 57 806 120 691,ki 58 808 120 691,ki 59 810 120 691,ki 60 812 120 691,ki 61 814 120 691,ki 62 816 120 691,ki 63 818 120 691,ki 64 820 120 691,ki 65 822 120 691,ki 66 824 120 691,ki 67 826 120 691,ki 68 828 120 691,ki 69 830 120 691,ki 70 832 120 691,ki 71 834 120 691,ki 72 836 120 691,ki 73 838 120 691,ki 74 840 120 691,ki 75 842 120 691,ki 76 844 120 691,ki 77 846 120 691,ki 78 848 120 691,ki 79 850 120 691,ki 80 852 120 691,ki 81 854 120 691,ki 82 856 120 691,ki 83 858 120 691,ki 84 860 120 691,ki 85 862 120 691,ki 86 864 120 691,ki 87 866 120 691,ki 88 868 120 691,ki 89 870 120 691,ki 90 872 120 691,ki 91 874 40 977,ki 92 876 120 691,ki 93 878 120 691,ki 94 880 120 691,ki 95 882 120 691,ki 96 884 120 691,ki 97 886 120 691,ki 98 888 120 691,ki 99 890 120 691,ki 100 892 120 691,ki 101 894 120 691,ki 102 896 120 691,ki 103 898 120 691,ki 104 900 120 691,ki 105 902 120 691,ki 106 904 120 691,ki 107 906 120 691,ki 108 908 120 691,ki 109 910 120 691,ki 110 912 120 691,ki 111 914 120 691,ki 112 916 120 691,ki 113 918 120 691,ki 114 920 120 691,ki 115 922 120 691,ki 116 924 120 691,ki 117 926 120 691,ki 118 928 120 691,ki 119 930 120 691,ki 120 932 120 691,ki 121 934 120 691,ki 122 936 120 691,ki 123 938 40 971,ki 124 940 120 691,ki 125 942 120 691,ki 126 944 120 691,ki 127 946 120 691] 128),#[]⟩
noncomputable def o80:Obj:=⟨(.type "str_ascii_iterator"),none,(.fields #[.none,(.int 3 0)]),#[]⟩
noncomputable def o81:Obj:=⟨(.type "code"),none,(.fields #[(sv "<genexpr>" 950),(sv "<genexpr>" 951),(sv "/claim/cut.py" 952),(.int 18 0),(.int 1 0),(.int 0 0),(.int 0 0),(.int 35 0),(.ref 90),(.bool true),(.int 276 0),(.ref 91),.none,.none,.none,.none,(.int 953 0),(.int 18 0),(sv "/claim/cut.py" 954)]),#[]⟩
noncomputable def o82 (P:Params):Obj:=⟨(.type "frame"),none,(.dict #[kv P ".0" 955 (.ref 89),kv P "c" 962 (sv "[" 973)] 2),#[]⟩
noncomputable def o83:Obj:=⟨(.type "generator"),none,(.fields #[(.int 0 0),(sv "<genexpr>" 956),(sv "<genexpr>" 957)]),#[]⟩
noncomputable def o84:Obj:=⟨(.type "tuple"),none,(.seq #[(sv "'generator' object has no attribute 'keys'" 959)] 0),#[]⟩
noncomputable def o85:Obj:=⟨(.type "AttributeError"),none,(.fields #[(.ref 95),.none,.none,.none,(.bool false),.none,(sv "keys" 960),(.ref 94)]),#[]⟩
noncomputable def o86:Obj:=⟨(.type "tuple"),none,(.seq #[(.int 40 963),(.int 40 965)] 0),#[]⟩
noncomputable def o87:Obj:=⟨(.type "tuple"),none,(.seq #[(.int 123 969),(.int 40 971)] 0),#[]⟩
noncomputable def o88:Obj:=⟨(.type "tuple"),none,(.seq #[(.int 91 975),(.int 40 977)] 0),#[]⟩
noncomputable def o89:Obj:=⟨(.type "StopIteration"),none,(.fields #[(.ref 100),.none,.none,.none,(.bool false),.none]),#[]⟩
noncomputable def o90:Obj:=⟨(.type "StopIteration"),none,(.fields #[(.ref 102),.none,.none,.none,(.bool false),.none]),#[]⟩
noncomputable def tS6 (P:Params):BT:=(N (o0 P) (N (o1 P) (N (o72 P) (N o7 (N o7 (N o29 (lf (o58 P)) (lf o84)) (N o42 (lf o69) O)) (N o22 (N o36 (lf o7) (lf o90)) (N o49 (lf o7) O))) (N (o27 P) (N o18 (N o7 (lf o61) (lf o88)) (N o37 (lf o74) O)) (N o26 (N o39 (lf o7) O) (N o52 (lf o8) O)))) (N o5 (N o9 (N o16 (N o8 (lf o59) (lf o86)) (N o44 (lf o71) O)) (N o24 (N o37 (lf o64) O) (N o50 (lf o80) O))) (N (o13 P) (N (o20 P) (N o34 (lf o8) (lf o89)) (N o46 (lf o79) O)) (N o78 (N o6 (lf o67) O) (N o56 (lf (o82 P)) O))))) (N (o2 P) (N o4 (N o8 (N o15 (N o7 (lf o7) (lf o85)) (N o43 (lf o70) O)) (N o23 (N o6 (lf o63) O) (N o7 (lf o77) O))) (N o12 (N (o19 P) (N o33 (lf o7) (lf o7)) (N o45 (lf o6) O)) (N o7 (N o41 (lf (o66 P)) O) (N o53 (lf o81) O)))) (N o6 (N o10 (N o17 (N o32 (lf o60) (lf o87)) (N o6 (lf o73) O)) (N o25 (N o38 (lf o65) O) (N o51 (lf o7) O))) (N o14 (N o21 (N o35 (lf o62) (lf o7)) (N o48 (lf o76) O)) (N o28 (N o37 (lf o68) O) (N o57 (lf o83) O))))))
noncomputable def S6 (w:World)(os:OsState):SharedT:=⟨tS6 w.params,104,{},Array.mk [.finished],⟨0,0,0,0⟩,979,os⟩
noncomputable def o91:Obj:=⟨.none,none,(.fields #[(.int 2 0),(.int 0 0),(.ref 37),(.int 13 0),(.int 0 0),(.ref 66),(.int 18 0),(.int 13 0),(.ref 92),(.int 19 0),(.int 13 0),(.ref 107)]),#[]⟩
noncomputable def o92:Obj:=⟨(.ref 77),(some 84),(.dict #[ki 0 692 120 691,ki 1 694 120 691,ki 2 696 120 691,ki 3 698 120 691,ki 4 700 120 691,ki 5 702 120 691,ki 6 704 120 691,ki 7 706 120 691,ki 8 708 120 691,ki 9 710 120 691,ki 10 712 120 691,ki 11 714 120 691,ki 12 716 120 691,ki 13 718 120 691,ki 14 720 120 691,ki 15 722 120 691,ki 16 724 120 691,ki 17 726 120 691,ki 18 728 120 691,ki 19 730 120 691,ki 20 732 120 691,ki 21 734 120 691,ki 22 736 120 691,ki 23 738 120 691,ki 24 740 120 691,ki 25 742 120 691,ki 26 744 120 691,ki 27 746 120 691,ki 28 748 120 691,ki 29 750 120 691,ki 30 752 120 691,ki 31 754 120 691,ki 32 756 120 691,ki 33 758 120 691,ki 34 760 120 691,ki 35 762 120 691,ki 36 764 120 691,ki 37 766 120 691,ki 38 768 120 691,ki 39 770 120 691,ki 40 772 40 965,ki 41 774 41 995,ki 42 776 120 691,ki 43 778 120 691,ki 44 780 120 691,ki 45 782 120 691,ki 46 784 120 691,ki 47 786 120 691,ki 48 788 120 691,ki 49 790 120 691,ki 50 792 120 691,ki 51 794 120 691,ki 52 796 120 691,ki 53 798 120 691,ki 54 800 120 691,ki 55 802 120 691,ki 56 804 120 691,ki 57 806 120 691,ki 58 808 120 691,ki 59 810 120 691,ki 60 812 120 691,ki 61 814 120 691,ki 62 816 120 691,ki 63 818 120 691,ki 64 820 120 691,ki 65 822 120 691,ki 66 824 120 691,ki 67 826 120 691,ki 68 828 120 691,ki 69 830 120 691,ki 70 832 120 691,ki 71 834 120 691,ki 72 836 120 691,ki 73 838 120 691,ki 74 840 120 691,ki 75 842 120 691,ki 76 844 120 691,ki 77 846 120 691,ki 78 848 120 691,ki 79 850 120 691,ki 80 852 120 691,ki 81 854 120 691,ki 82 856 120 691,ki 83 858 120 691,ki 84 860 120 691,ki 85 862 120 691,ki 86 864 120 691,ki 87 866 120 691,ki 88 868 120 691,ki 89 870 120 691,ki 90 872 120 691,ki 91 874 40 977,ki 92 876 120 691,ki 93 878 41 1007,ki 94 880 120 691,ki 95 882 120 691,ki 96 884 120 691,ki 97 886 120 691,ki 98 888 120 691,ki 99 890 120 691,ki 100 892 120 691,ki 101 894 120 691,ki 102 896 120 691,ki 103 898 120 691,ki 104 900 120 691,ki 105 902 120 691,ki 106 904 120 691,ki 107 906 120 691,ki 108 908 120 691,ki 109 910 120 691,ki 110 912 120 691,ki 111 914 120 691,ki 112 916 120 691,ki 113 918 120 691,ki 114 920 120 691,ki 115 922 120 691,ki 116 924 120 691,ki 117 926 120 691,ki 118 928 120 691,ki 119 930 120 691,ki 120 932 120 691,ki 121 934 120 691,ki 122 936 120 691,ki 123 938 40 971,ki 124 940 120 691,ki 125 942 41 1001,ki 126 944 120 691,ki 127 946 120 691] 128),#[]⟩
noncomputable def o93:Obj:=⟨(.type "code"),none,(.fields #[(sv "<genexpr>" 980),(sv "<genexpr>" 981),(sv "/claim/cut.py" 982),(.int 19 0),(.int 1 0),(.int 0 0),(.int 0 0),(.int 35 0),(.ref 105),(.bool true),(.int 276 0),(.ref 106),.none,.none,.none,.none,(.int 983 0),(.int 19 0),(sv "/claim/cut.py" 984)]),#[]⟩
noncomputable def o94 (P:Params):Obj:=⟨(.type "frame"),none,(.dict #[kv P ".0" 985 (.ref 104),kv P "c" 992 (sv "]" 1003)] 2),#[]⟩
noncomputable def o95:Obj:=⟨(.type "generator"),none,(.fields #[(.int 1 0),(sv "<genexpr>" 986),(sv "<genexpr>" 987)]),#[]⟩
noncomputable def o96:Obj:=⟨(.type "tuple"),none,(.seq #[(sv "'generator' object has no attribute 'keys'" 989)] 0),#[]⟩
noncomputable def o97:Obj:=⟨(.type "AttributeError"),none,(.fields #[(.ref 110),.none,.none,.none,(.bool false),.none,(sv "keys" 990),(.ref 109)]),#[]⟩
noncomputable def o98:Obj:=⟨(.type "tuple"),none,(.seq #[(.int 41 993),(.int 41 995)] 0),#[]⟩
noncomputable def o99:Obj:=⟨(.type "tuple"),none,(.seq #[(.int 125 999),(.int 41 1001)] 0),#[]⟩
noncomputable def o100:Obj:=⟨(.type "tuple"),none,(.seq #[(.int 93 1005),(.int 41 1007)] 0),#[]⟩
noncomputable def o101:Obj:=⟨(.type "StopIteration"),none,(.fields #[(.ref 115),.none,.none,.none,(.bool false),.none]),#[]⟩
noncomputable def o102:Obj:=⟨(.type "StopIteration"),none,(.fields #[(.ref 117),.none,.none,.none,(.bool false),.none]),#[]⟩
noncomputable def tS7 (P:Params):BT:=(N (o0 P) (N (o1 P) (N (o72 P) (N o7 (N o7 (N o29 (lf (o58 P)) (lf o84)) (N o42 (lf o69) (lf o97))) (N o22 (N o36 (lf o7) (lf o90)) (N o49 (lf o7) O))) (N (o27 P) (N o18 (N o7 (lf o61) (lf o88)) (N o37 (lf o74) (lf o7))) (N o26 (N o39 (lf o7) (lf o93)) (N o52 (lf o8) O)))) (N o5 (N o9 (N o16 (N o8 (lf o59) (lf o86)) (N o44 (lf o71) (lf o99))) (N o24 (N o37 (lf o64) (lf o7)) (N o50 (lf o80) O))) (N (o13 P) (N (o20 P) (N o34 (lf o8) (lf o89)) (N o46 (lf o92) (lf o7))) (N o91 (N o6 (lf o67) (lf o95)) (N o56 (lf (o82 P)) O))))) (N (o2 P) (N o4 (N o8 (N o15 (N o7 (lf o7) (lf o85)) (N o43 (lf o70) (lf o98))) (N o23 (N o6 (lf o63) (lf o80)) (N o7 (lf o77) O))) (N o12 (N (o19 P) (N o33 (lf o7) (lf o7)) (N o45 (lf o6) (lf o101))) (N o7 (N o41 (lf (o66 P)) (lf (o94 P))) (N o53 (lf o81) O)))) (N o6 (N o10 (N o17 (N o32 (lf o60) (lf o87)) (N o6 (lf o73) (lf o100))) (N o25 (N o38 (lf o65) (lf o8)) (N o51 (lf o7) O))) (N o14 (N o21 (N o35 (lf o62) (lf o7)) (N o48 (lf o76) (lf o102))) (N o28 (N o37 (lf o68) (lf o96)) (N o57 (lf o83) O))))))
noncomputable def S7 (w:World)(os:OsState):SharedT:=⟨tS7 w.params,119,{},Array.mk [.finished,.finished],⟨0,0,0,0⟩,1009,os⟩
noncomputable def o103:Obj:=⟨.none,none,(.fields #[(.int 2 0),(.int 0 0),(.ref 37),(.int 13 0),(.int 0 0),(.ref 66),(.int 18 0),(.int 13 0),(.ref 92),(.int 19 0),(.int 13 0),(.ref 107),(.int 20 0),(.int 13 0),(.ref 122)]),#[]⟩
noncomputable def o104:Obj:=⟨(.ref 77),(some 84),(.dict #[ki 0 692 120 691,ki 1 694 120 691,ki 2 696 120 691,ki 3 698 120 691,ki 4 700 120 691,ki 5 702 120 691,ki 6 704 120 691,ki 7 706 120 691,ki 8 708 120 691,ki 9 710 120 691,ki 10 712 10 1039,ki 11 714 120 691,ki 12 716 120 691,ki 13 718 120 691,ki 14 720 120 691,ki 15 722 120 691,ki 16 724 120 691,ki 17 726 120 691,ki 18 728 120 691,ki 19 730 120 691,ki 20 732 120 691,ki 21 734 120 691,ki 22 736 120 691,ki 23 738 120 691,ki 24 740 120 691,ki 25 742 120 691,ki 26 744 120 691,ki 27 746 120 691,ki 28 748 120 691,ki 29 750 120 691,ki 30 752 120 691,ki 31 754 120 691,ki 32 756 120 691,ki 33 758 120 691,ki 34 760 34 1024,ki 35 762 35 1044,ki 36 764 120 691,ki 37 766 120 691,ki 38 768 120 691,ki 39 770 39 1029,ki 40 772 40 965,ki 41 774 41 995,ki 42 776 120 691,ki 43 778 120 691,ki 44 780 120 691,ki 45 782 120 691,ki 46 784 120 691,ki 47 786 120 691,ki 48 788 120 691,ki 49 790 120 691,ki 50 792 120 691,ki 51 794 120 691,ki 52 796 120 691,ki 53 798 120 691,ki 54 800 120 691,ki 55 802 120 691,ki 56 804 120 691,ki 57 806 120 691,ki 58 808 120 691,ki 59 810 120 691,ki 60 812 120 691,ki 61 814 120 691,ki 62 816 120 691,ki 63 818 120 691,ki 64 820 120 691,ki 65 822 120 691,ki 66 824 120 691,ki 67 826 120 691,ki 68 828 120 691,ki 69 830 120 691,ki 70 832 120 691,ki 71 834 120 691,ki 72 836 120 691,ki 73 838 120 691,ki 74 840 120 691,ki 75 842 120 691,ki 76 844 120 691,ki 77 846 120 691,ki 78 848 120 691,ki 79 850 120 691,ki 80 852 120 691,ki 81 854 120 691,ki 82 856 120 691,ki 83 858 120 691,ki 84 860 120 691,ki 85 862 120 691,ki 86 864 120 691,ki 87 866 120 691,ki 88 868 120 691,ki 89 870 120 691,ki 90 872 120 691,ki 91 874 40 977,ki 92 876 92 1034,ki 93 878 41 1007,ki 94 880 120 691,ki 95 882 120 691,ki 96 884 120 691,ki 97 886 120 691,ki 98 888 120 691,ki 99 890 120 691,ki 100 892 120 691,ki 101 894 120 691,ki 102 896 120 691,ki 103 898 120 691,ki 104 900 120 691,ki 105 902 120 691,ki 106 904 120 691,ki 107 906 120 691,ki 108 908 120 691,ki 109 910 120 691,ki 110 912 120 691,ki 111 914 120 691,ki 112 916 120 691,ki 113 918 120 691,ki 114 920 120 691,ki 115 922 120 691,ki 116 924 120 691,ki 117 926 120 691,ki 118 928 120 691,ki 119 930 120 691,ki 120 932 120 691,ki 121 934 120 691,ki 122 936 120 691,ki 123 938 40 971,ki 124 940 120 691,ki 125 942 41 1001,ki 126 944 120 691,ki 127 946 120 691] 128),#[]⟩
noncomputable def o105:Obj:=⟨(.type "str_ascii_iterator"),none,(.fields #[.none,(.int 5 0)]),#[]⟩
noncomputable def o106:Obj:=⟨(.type "code"),none,(.fields #[(sv "<genexpr>" 1010),(sv "<genexpr>" 1011),(sv "/claim/cut.py" 1012),(.int 20 0),(.int 1 0),(.int 0 0),(.int 0 0),(.int 35 0),(.ref 120),(.bool true),(.int 276 0),(.ref 121),.none,.none,.none,.none,(.int 1013 0),(.int 20 0),(sv "/claim/cut.py" 1014)]),#[]⟩
noncomputable def o107 (P:Params):Obj:=⟨(.type "frame"),none,(.dict #[kv P ".0" 1015 (.ref 119),kv P "c" 1022 (sv "#" 1041)] 2),#[]⟩
noncomputable def o108:Obj:=⟨(.type "generator"),none,(.fields #[(.int 2 0),(sv "<genexpr>" 1016),(sv "<genexpr>" 1017)]),#[]⟩
noncomputable def o109:Obj:=⟨(.type "tuple"),none,(.seq #[(sv "'generator' object has no attribute 'keys'" 1019)] 0),#[]⟩
noncomputable def o110:Obj:=⟨(.type "AttributeError"),none,(.fields #[(.ref 125),.none,.none,.none,(.bool false),.none,(sv "keys" 1020),(.ref 124)]),#[]⟩
noncomputable def o111:Obj:=⟨(.type "tuple"),none,(.seq #[(.int 34 1023),(.int 34 1024)] 0),#[]⟩
noncomputable def o112:Obj:=⟨(.type "tuple"),none,(.seq #[(.int 39 1028),(.int 39 1029)] 0),#[]⟩
noncomputable def o113:Obj:=⟨(.type "tuple"),none,(.seq #[(.int 92 1033),(.int 92 1034)] 0),#[]⟩
noncomputable def o114:Obj:=⟨(.type "tuple"),none,(.seq #[(.int 10 1038),(.int 10 1039)] 0),#[]⟩
noncomputable def o115:Obj:=⟨(.type "tuple"),none,(.seq #[(.int 35 1043),(.int 35 1044)] 0),#[]⟩
noncomputable def o116:Obj:=⟨(.type "StopIteration"),none,(.fields #[(.ref 132),.none,.none,.none,(.bool false),.none]),#[]⟩
noncomputable def o117:Obj:=⟨(.type "StopIteration"),none,(.fields #[(.ref 134),.none,.none,.none,(.bool false),.none]),#[]⟩
noncomputable def tS8 (P:Params):BT:=(N (o0 P) (N (o1 P) (N (o72 P) (N o7 (N o7 (N o29 (N (o58 P) (lf o111) O) (lf o84)) (N o42 (lf o69) (lf o97))) (N o22 (N o36 (N o7 (lf o117) O) (lf o90)) (N o49 (lf o7) (lf o105)))) (N (o27 P) (N o18 (N o7 (N o61 (lf o115) O) (lf o88)) (N o37 (lf o74) (lf o7))) (N o26 (N o39 (lf o7) (lf o93)) (N o52 (lf o8) (lf (o107 P)))))) (N o5 (N o9 (N o16 (N o8 (N o59 (lf o113) O) (lf o86)) (N o44 (lf o71) (lf o99))) (N o24 (N o37 (lf o64) (lf o7)) (N o50 (lf o80) (lf o8)))) (N (o13 P) (N (o20 P) (N o34 (N o8 (lf o116) O) (lf o89)) (N o46 (lf o104) (lf o7))) (N o103 (N o6 (lf o67) (lf o95)) (N o56 (lf (o82 P)) (lf o109)))))) (N (o2 P) (N o4 (N o8 (N o15 (N o7 (N o7 (lf o112) O) (lf o85)) (N o43 (lf o70) (lf o98))) (N o23 (N o6 (lf o63) (lf o80)) (N o7 (lf o77) (lf o7)))) (N o12 (N (o19 P) (N o33 (N o7 (lf o7) O) (lf o7)) (N o45 (lf o6) (lf o101))) (N o7 (N o41 (lf (o66 P)) (lf (o94 P))) (N o53 (lf o81) (lf o108))))) (N o6 (N o10 (N o17 (N o32 (N o60 (lf o114) O) (lf o87)) (N o6 (lf o73) (lf o100))) (N o25 (N o38 (lf o65) (lf o8)) (N o51 (lf o7) (lf o106)))) (N o14 (N o21 (N o35 (N o62 (lf o7) O) (lf o7)) (N o48 (lf o76) (lf o102))) (N o28 (N o37 (lf o68) (lf o96)) (N o57 (lf o83) (lf o110)))))))
noncomputable def S8 (w:World)(os:OsState):SharedT:=⟨tS8 w.params,136,{},Array.mk [.finished,.finished,.finished],⟨0,0,0,0⟩,1046,os⟩
noncomputable def o118 (P:Params):Obj:=⟨(.type "dict"),none,(.dict #[kv P "__name__" 165 (sv "cpy313.idlelib.pyparse" 289),kv P "__doc__" 166 .none,kv P "__package__" 167 .none,kv P "__loader__" 168 (.builtin "__main__.__loader__#opaque"),kv P "__spec__" 169 .none,kv P "__annotations__" 170 (.ref 6),kv P "__builtins__" 171 (.ref 4),kv P "__file__" 173 (sv "/claim/cut.py" 172),kv P "__cached__" 174 .none,kv P "_sre" 275 (.ref 12),kv P "_wall" 288 (.ref 38),kv P "_twin_re_2" 334 (.ref 43),kv P "_twin_re_3" 609 (.ref 48),kv P "_twin_re_6" 639 (.ref 53),kv P "C_NONE" 648 (.int 0 643),kv P "C_BACKSLASH" 649 (.int 1 644),kv P "C_STRING_FIRST_LINE" 650 (.int 2 645),kv P "C_STRING_NEXT_LINES" 651 (.int 3 646),kv P "C_BRACKET" 652 (.int 4 647),kv P "_junkre" 654 (.ref 58),kv P "_match_stringre" 656 (.ref 59),kv P "_chew_ordinaryre" 658 (.ref 60),kv P "ParseMap" 686 (.ref 77),kv P "trans" 948 (.ref 85),kv P "Parser" 1204 (.ref 243)] 25),#[]⟩
noncomputable def o119:Obj:=⟨.none,none,(.fields #[(.int 2 0),(.int 0 0),(.ref 37),(.int 13 0),(.int 0 0),(.ref 66),(.int 18 0),(.int 13 0),(.ref 92),(.int 19 0),(.int 13 0),(.ref 107),(.int 20 0),(.int 13 0),(.ref 122),(.int 21 0),(.int 0 0),(.ref 141)]),#[]⟩
noncomputable def o120 (P:Params):Obj:=⟨(.type "dict"),none,(.dict #[kv P "__module__" 1053 (sv "cpy313.idlelib.pyparse" 289),kv P "__qualname__" 1055 (sv "Parser" 1054),kv P "__firstlineno__" 1057 (.int 21 1056),kv P "__init__" 1066 (.ref 149),kv P "set_code" 1074 (.ref 156),kv P "find_good_parse_start" 1082 (.ref 163),kv P "set_lo" 1090 (.ref 170),kv P "_study1" 1109 (.ref 177),kv P "get_continuation_type" 1116 (.ref 184),kv P "_study2" 1136 (.ref 191),kv P "compute_bracket_indent" 1143 (.ref 198),kv P "get_num_lines_in_stmt" 1150 (.ref 205),kv P "compute_backslash_indent" 1157 (.ref 212),kv P "get_base_indent_string" 1164 (.ref 219),kv P "is_block_opener" 1171 (.ref 226),kv P "is_block_closer" 1178 (.ref 233),kv P "get_last_stmt_bracketing" 1185 (.ref 240),kv P "__static_attributes__" 1197 (.ref 241)] 18),#[]⟩
noncomputable def o121:Obj:=⟨.none,none,(.fields #[(.int 23 0),(.int 4 0),(.ref 148),(.int 27 0),(.int 4 0),(.ref 155),(.int 32 0),(.int 4 0),(.ref 162),(.int 35 0),(.int 4 0),(.ref 169),(.int 38 0),(.int 4 0),(.ref 176),(.int 123 0),(.int 4 0),(.ref 183),(.int 126 0),(.int 4 0),(.ref 190),(.int 199 0),(.int 4 0),(.ref 197),(.int 202 0),(.int 4 0),(.ref 204),(.int 205 0),(.int 4 0),(.ref 211),(.int 208 0),(.int 4 0),(.ref 218),(.int 211 0),(.int 4 0),(.ref 225),(.int 215 0),(.int 4 0),(.ref 232),(.int 218 0),(.int 4 0),(.ref 239)]),#[]⟩
noncomputable def o122:Obj:=⟨(.type "code"),none,(.fields #[(sv "Parser" 1048),(sv "Parser" 1049),(sv "/claim/cut.py" 1050),(.int 21 0),(.int 0 0),(.int 0 0),(.int 0 0),(.int 0 0),(.ref 139),(.bool false),(.int 276 0),(.ref 140),.none,.none,.none,.none,(.int 1051 0),(.int 21 0),(sv "/claim/cut.py" 1052)]),#[]⟩
noncomputable def o123:Obj:=⟨(.type "frame"),none,.plain,#[(some (.ref 141)),(some (.ref 3)),(some (.ref 138)),none,(some (sv "cpy313.idlelib.pyparse" 289)),none,(some (.ref 0))]⟩
noncomputable def o124:Obj:=⟨(.type "tuple"),none,(.seq #[(sv "self" 1061),(sv "indentwidth" 1062),(sv "tabwidth" 1063)] 0),#[]⟩
noncomputable def o125:Obj:=⟨.none,none,(.func ⟨(Str.ofString "__init__"),(Str.ofString "Parser.__init__"),(aO (mb 0)),(.stmts (aH (mb 0))),(ay (mb 0)),0,[],.none,.none,.none,.none,none,.none,.none,0⟩),#[]⟩
noncomputable def o126:Obj:=⟨(.type "code"),none,(.fields #[(sv "__init__" 1058),(sv "Parser.__init__" 1059),(sv "/claim/cut.py" 1060),(.int 23 0),(.int 3 0),(.int 0 0),(.int 0 0),(.int 3 0),(.ref 143),(.bool true),(.int 276 0),(.ref 144),.none,(.ref 145),(.ref 146),(.ref 147),(.int 1064 0),(.int 23 0),(sv "/claim/cut.py" 1065)]),#[]⟩
noncomputable def o127:Obj:=⟨(.type "function"),none,(.func ⟨(Str.ofString "__init__"),(Str.ofString "Parser.__init__"),(aO (mb 0)),(.stmts (aH (mb 0))),(ay (mb 0)),3,[],.none,.none,.none,(sv "cpy313.idlelib.pyparse" 289),none,(.ref 148),.none,0⟩),#[]⟩
noncomputable def o128:Obj:=⟨(.type "tuple"),none,(.seq #[(sv "self" 1070),(sv "s" 1071)] 0),#[]⟩
noncomputable def o129:Obj:=⟨.none,none,(.func ⟨(Str.ofString "set_code"),(Str.ofString "Parser.set_code"),(aO (mb 1)),(.stmts (aH (mb 1))),(ay (mb 1)),0,[],.none,.none,.none,.none,none,.none,.none,0⟩),#[]⟩
noncomputable def o130:Obj:=⟨(.type "code"),none,(.fields #[(sv "set_code" 1067),(sv "Parser.set_code" 1068),(sv "/claim/cut.py" 1069),(.int 27 0),(.int 2 0),(.int 0 0),(.int 0 0),(.int 3 0),(.ref 150),(.bool true),(.int 276 0),(.ref 151),.none,(.ref 152),(.ref 153),(.ref 154),(.int 1072 0),(.int 27 0),(sv "/claim/cut.py" 1073)]),#[]⟩
noncomputable def o131:Obj:=⟨(.type "function"),none,(.func ⟨(Str.ofString "set_code"),(Str.ofString "Parser.set_code"),(aO (mb 1)),(.stmts (aH (mb 1))),(ay (mb 1)),3,[],.none,.none,.none,(sv "cpy313.idlelib.pyparse" 289),none,(.ref 155),.none,0⟩),#[]⟩
noncomputable def o132:Obj:=⟨(.type "tuple"),none,(.seq #[(sv "self" 1078),(sv "is_char_in_string" 1079)] 0),#[]⟩
noncomputable def o133:Obj:=⟨.none,none,(.func ⟨(Str.ofString "find_good_parse_start"),(Str.ofString "Parser.find_good_parse_start"),(aO (mb 2)),(.stmts (aH (mb 2))),(ay (mb 2)),0,[],.none,.none,.none,.none,none,.none,.none,0⟩),#[]⟩
noncomputable def o134:Obj:=⟨(.type "code"),none,(.fields #[(sv "find_good_parse_start" 1075),(sv "Parser.find_good_parse_start" 1076),(sv "/claim/cut.py" 1077),(.int 32 0),(.int 2 0),(.int 0 0),(.int 0 0),(.int 3 0),(.ref 157),(.bool true),(.int 276 0),(.ref 158),.none,(.ref 159),(.ref 160),(.ref 161),(.int 1080 0),(.int 32 0),(sv "/claim/cut.py" 1081)]),#[]⟩
noncomputable def o135:Obj:=⟨(.type "function"),none,(.func ⟨(Str.ofString "find_good_parse_start"),(Str.ofString "Parser.find_good_parse_start"),(aO (mb 2)),(.stmts (aH (mb 2))),(ay (mb 2)),3,[],.none,.none,.none,(sv "cpy313.idlelib.pyparse" 289),none,(.ref 162),.none,0⟩),#[]⟩
noncomputable def o136:Obj:=⟨(.type "tuple"),none,(.seq #[(sv "self" 1086),(sv "lo" 1087)] 0),#[]⟩
noncomputable def o137:Obj:=⟨.none,none,(.func ⟨(Str.ofString "set_lo"),(Str.ofString "Parser.set_lo"),(aO (mb 3)),(.stmts (aH (mb 3))),(ay (mb 3)),0,[],.none,.none,.none,.none,none,.none,.none,0⟩),#[]⟩
noncomputable def o138:Obj:=⟨(.type "code"),none,(.fields #[(sv "set_lo" 1083),(sv "Parser.set_lo" 1084),(sv "/claim/cut.py" 1085),(.int 35 0),(.int 2 0),(.int 0 0),(.int 0 0),(.int 3 0),(.ref 164),(.bool true),(.int 276 0),(.ref 165),.none,(.ref 166),(.ref 167),(.ref 168),(.int 1088 0),(.int 35 0),(sv "/claim/cut.py" 1089)]),#[]⟩
noncomputable def o139:Obj:=⟨(.type "function"),none,(.func ⟨(Str.ofString "set_lo"),(Str.ofString "Parser.set_lo"),(aO (mb 3)),(.stmts (aH (mb 3))),(ay (mb 3)),3,[],.none,.none,.none,(sv "cpy313.idlelib.pyparse" 289),none,(.ref 169),.none,0⟩),#[]⟩
noncomputable def o140:Obj:=⟨(.type "tuple"),none,(.seq #[(sv "self" 1094),(sv "code" 1095),(sv "continuation" 1096),(sv "level" 1097),(sv "lno" 1098),(sv "goodlines" 1099),(sv "push_good" 1100),(sv "i" 1101),(sv "n" 1102),(sv "ch" 1103),(sv "quote" 1104),(sv "firstlno" 1105),(sv "w" 1106)] 0),#[]⟩
noncomputable def o141:Obj:=⟨.none,none,(.func ⟨(Str.ofString "_study1"),(Str.ofString "Parser._study1"),(aO (mb 4)),(.stmts (aH (mb 4))),(ay (mb 4)),0,[],.none,.none,.none,.none,none,.none,.none,0⟩),#[]⟩
noncomputable def o142:Obj:=⟨(.type "code"),none,(.fields #[(sv "_study1" 1091),(sv "Parser._study1" 1092),(sv "/claim/cut.py" 1093),(.int 38 0),(.int 1 0),(.int 0 0),(.int 0 0),(.int 3 0),(.ref 171),(.bool true),(.int 276 0),(.ref 172),.none,(.ref 173),(.ref 174),(.ref 175),(.int 1107 0),(.int 38 0),(sv "/claim/cut.py" 1108)]),#[]⟩
noncomputable def o143:Obj:=⟨(.type "function"),none,(.func ⟨(Str.ofString "_study1"),(Str.ofString "Parser._study1"),(aO (mb 4)),(.stmts (aH (mb 4))),(ay (mb 4)),3,[],.none,.none,.none,(sv "cpy313.idlelib.pyparse" 289),none,(.ref 176),.none,0⟩),#[]⟩
noncomputable def o144:Obj:=⟨(.type "tuple"),none,(.seq #[(sv "self" 1113)] 0),#[]⟩
noncomputable def o145:Obj:=⟨.none,none,(.func ⟨(Str.ofString "get_continuation_type"),(Str.ofString "Parser.get_continuation_type"),(aO (mb 5)),(.stmts (aH (mb 5))),(ay (mb 5)),0,[],.none,.none,.none,.none,none,.none,.none,0⟩),#[]⟩
noncomputable def o146:Obj:=⟨(.type "code"),none,(.fields #[(sv "get_continuation_type" 1110),(sv "Parser.get_continuation_type" 1111),(sv "/claim/cut.py" 1112),(.int 123 0),(.int 1 0),(.int 0 0),(.int 0 0),(.int 3 0),(.ref 178),(.bool true),(.int 276 0),(.ref 179),.none,(.ref 180),(.ref 181),(.ref 182),(.int 1114 0),(.int 123 0),(sv "/claim/cut.py" 1115)]),#[]⟩
noncomputable def o147:Obj:=⟨(.type "function"),none,(.func ⟨(Str.ofString "get_continuation_type"),(Str.ofString "Parser.get_continuation_type"),(aO (mb 5)),(.stmts (aH (mb 5))),(ay (mb 5)),3,[],.none,.none,.none,(sv "cpy313.idlelib.pyparse" 289),none,(.ref 183),.none,0⟩),#[]⟩
noncomputable def o148:Obj:=⟨(.type "tuple"),none,(.seq #[(sv "self" 1120),(sv "code" 1121),(sv "goodlines" 1122),(sv "i" 1123),(sv "p" 1124),(sv "q" 1125),(sv "nothing" 1126),(sv "lastch" 1127),(sv "stack" 1128),(sv "push_stack" 1129),(sv "bracketing" 1130),(sv "m" 1131),(sv "newp" 1132),(sv "ch" 1133)] 0),#[]⟩
noncomputable def o149:Obj:=⟨.none,none,(.func ⟨(Str.ofString "_study2"),(Str.ofString "Parser._study2"),(aO (mb 6)),(.stmts (aH (mb 6))),(ay (mb 6)),0,[],.none,.none,.none,.none,none,.none,.none,0⟩),#[]⟩
noncomputable def o150:Obj:=⟨(.type "code"),none,(.fields #[(sv "_study2" 1117),(sv "Parser._study2" 1118),(sv "/claim/cut.py" 1119),(.int 126 0),(.int 1 0),(.int 0 0),(.int 0 0),(.int 3 0),(.ref 185),(.bool true),(.int 276 0),(.ref 186),.none,(.ref 187),(.ref 188),(.ref 189),(.int 1134 0),(.int 126 0),(sv "/claim/cut.py" 1135)]),#[]⟩
noncomputable def o151:Obj:=⟨(.type "function"),none,(.func ⟨(Str.ofString "_study2"),(Str.ofString "Parser._study2"),(aO (mb 6)),(.stmts (aH (mb 6))),(ay (mb 6)),3,[],.none,.none,.none,(sv "cpy313.idlelib.pyparse" 289),none,(.ref 190),.none,0⟩),#[]⟩
noncomputable def o152:Obj:=⟨(.type "tuple"),none,(.seq #[(sv "self" 1140)] 0),#[]⟩
noncomputable def o153:Obj:=⟨.none,none,(.func ⟨(Str.ofString "compute_bracket_indent"),(Str.ofString "Parser.compute_bracket_indent"),(aO (mb 7)),(.stmts (aH (mb 7))),(ay (mb 5)),0,[],.none,.none,.none,.none,none,.none,.none,0⟩),#[]⟩
noncomputable def o154:Obj:=⟨(.type "code"),none,(.fields #[(sv "compute_bracket_indent" 1137),(sv "Parser.compute_bracket_indent" 1138),(sv "/claim/cut.py" 1139),(.int 199 0),(.int 1 0),(.int 0 0),(.int 0 0),(.int 3 0),(.ref 192),(.bool true),(.int 276 0),(.ref 193),.none,(.ref 194),(.ref 195),(.ref 196),(.int 1141 0),(.int 199 0),(sv "/claim/cut.py" 1142)]),#[]⟩
noncomputable def o155:Obj:=⟨(.type "function"),none,(.func ⟨(Str.ofString "compute_bracket_indent"),(Str.ofString "Parser.compute_bracket_indent"),(aO (mb 7)),(.stmts (aH (mb 7))),(ay (mb 5)),3,[],.none,.none,.none,(sv "cpy313.idlelib.pyparse" 289),none,(.ref 197),.none,0⟩),#[]⟩
noncomputable def o156:Obj:=⟨(.type "tuple"),none,(.seq #[(sv "self" 1147)] 0),#[]⟩
noncomputable def o157:Obj:=⟨.none,none,(.func ⟨(Str.ofString "get_num_lines_in_stmt"),(Str.ofString "Parser.get_num_lines_in_stmt"),(aO (mb 8)),(.stmts (aH (mb 8))),(ay (mb 5)),0,[],.none,.none,.none,.none,none,.none,.none,0⟩),#[]⟩
noncomputable def o158:Obj:=⟨(.type "code"),none,(.fields #[(sv "get_num_lines_in_stmt" 1144),(sv "Parser.get_num_lines_in_stmt" 1145),(sv "/claim/cut.py" 1146),(.int 202 0),(.int 1 0),(.int 0 0),(.int 0 0),(.int 3 0),(.ref 199),(.bool true),(.int 276 0),(.ref 200),.none,(.ref 201),(.ref 202),(.ref 203),(.int 1148 0),(.int 202 0),(sv "/claim/cut.py" 1149)]),#[]⟩
noncomputable def o159:Obj:=⟨(.type "function"),none,(.func ⟨(Str.ofString "get_num_lines_in_stmt"),(Str.ofString "Parser.get_num_lines_in_stmt"),(aO (mb 8)),(.stmts (aH (mb 8))),(ay (mb 5)),3,[],.none,.none,.none,(sv "cpy313.idlelib.pyparse" 289),none,(.ref 204),.none,0⟩),#[]⟩
noncomputable def o160:Obj:=⟨(.type "tuple"),none,(.seq #[(sv "self" 1154)] 0),#[]⟩
noncomputable def o161:Obj:=⟨.none,none,(.func ⟨(Str.ofString "compute_backslash_indent"),(Str.ofString "Parser.compute_backslash_indent"),(aO (mb 9)),(.stmts (aH (mb 9))),(ay (mb 5)),0,[],.none,.none,.none,.none,none,.none,.none,0⟩),#[]⟩
noncomputable def o162:Obj:=⟨(.type "code"),none,(.fields #[(sv "compute_backslash_indent" 1151),(sv "Parser.compute_backslash_indent" 1152),(sv "/claim/cut.py" 1153),(.int 205 0),(.int 1 0),(.int 0 0),(.int 0 0),(.int 3 0),(.ref 206),(.bool true),(.int 276 0),(.ref 207),.none,(.ref 208),(.ref 209),(.ref 210),(.int 1155 0),(.int 205 0),(sv "/claim/cut.py" 1156)]),#[]⟩
noncomputable def o163:Obj:=⟨(.type "function"),none,(.func ⟨(Str.ofString "compute_backslash_indent"),(Str.ofString "Parser.compute_backslash_indent"),(aO (mb 9)),(.stmts (aH (mb 9))),(ay (mb 5)),3,[],.none,.none,.none,(sv "cpy313.idlelib.pyparse" 289),none,(.ref 211),.none,0⟩),#[]⟩
noncomputable def o164:Obj:=⟨(.type "tuple"),none,(.seq #[(sv "self" 1161)] 0),#[]⟩
noncomputable def o165:Obj:=⟨.none,none,(.func ⟨(Str.ofString "get_base_indent_string"),(Str.ofString "Parser.get_base_indent_string"),(aO (mb 10)),(.stmts (aH (mb 10))),(ay (mb 5)),0,[],.none,.none,.none,.none,none,.none,.none,0⟩),#[]⟩
noncomputable def o166:Obj:=⟨(.type "code"),none,(.fields #[(sv "get_base_indent_string" 1158),(sv "Parser.get_base_indent_string" 1159),(sv "/claim/cut.py" 1160),(.int 208 0),(.int 1 0),(.int 0 0),(.int 0 0),(.int 3 0),(.ref 213),(.bool true),(.int 276 0),(.ref 214),.none,(.ref 215),(.ref 216),(.ref 217),(.int 1162 0),(.int 208 0),(sv "/claim/cut.py" 1163)]),#[]⟩
noncomputable def o167:Obj:=⟨(.type "function"),none,(.func ⟨(Str.ofString "get_base_indent_string"),(Str.ofString "Parser.get_base_indent_string"),(aO (mb 10)),(.stmts (aH (mb 10))),(ay (mb 5)),3,[],.none,.none,.none,(sv "cpy313.idlelib.pyparse" 289),none,(.ref 218),.none,0⟩),#[]⟩
noncomputable def o168:Obj:=⟨(.type "tuple"),none,(.seq #[(sv "self" 1168)] 0),#[]⟩
noncomputable def o169:Obj:=⟨.none,none,(.func ⟨(Str.ofString "is_block_opener"),(Str.ofString "Parser.is_block_opener"),(aO (mb 11)),(.stmts (aH (mb 11))),(ay (mb 11)),0,[],.none,.none,.none,.none,none,.none,.none,0⟩),#[]⟩
noncomputable def o170:Obj:=⟨(.type "code"),none,(.fields #[(sv "is_block_opener" 1165),(sv "Parser.is_block_opener" 1166),(sv "/claim/cut.py" 1167),(.int 211 0),(.int 1 0),(.int 0 0),(.int 0 0),(.int 3 0),(.ref 220),(.bool true),(.int 276 0),(.ref 221),.none,(.ref 222),(.ref 223),(.ref 224),(.int 1169 0),(.int 211 0),(sv "/claim/cut.py" 1170)]),#[]⟩
noncomputable def o171:Obj:=⟨(.type "function"),none,(.func ⟨(Str.ofString "is_block_opener"),(Str.ofString "Parser.is_block_opener"),(aO (mb 11)),(.stmts (aH (mb 11))),(ay (mb 11)),3,[],.none,.none,.none,(sv "cpy313.idlelib.pyparse" 289),none,(.ref 225),.none,0⟩),#[]⟩
noncomputable def o172:Obj:=⟨(.type "tuple"),none,(.seq #[(sv "self" 1175)] 0),#[]⟩
noncomputable def o173:Obj:=⟨.none,none,(.func ⟨(Str.ofString "is_block_closer"),(Str.ofString "Parser.is_block_closer"),(aO (mb 12)),(.stmts (aH (mb 12))),(ay (mb 5)),0,[],.none,.none,.none,.none,none,.none,.none,0⟩),#[]⟩
noncomputable def o174:Obj:=⟨(.type "code"),none,(.fields #[(sv "is_block_closer" 1172),(sv "Parser.is_block_closer" 1173),(sv "/claim/cut.py" 1174),(.int 215 0),(.int 1 0),(.int 0 0),(.int 0 0),(.int 3 0),(.ref 227),(.bool true),(.int 276 0),(.ref 228),.none,(.ref 229),(.ref 230),(.ref 231),(.int 1176 0),(.int 215 0),(sv "/claim/cut.py" 1177)]),#[]⟩
noncomputable def o175:Obj:=⟨(.type "function"),none,(.func ⟨(Str.ofString "is_block_closer"),(Str.ofString "Parser.is_block_closer"),(aO (mb 12)),(.stmts (aH (mb 12))),(ay (mb 5)),3,[],.none,.none,.none,(sv "cpy313.idlelib.pyparse" 289),none,(.ref 232),.none,0⟩),#[]⟩
noncomputable def o176:Obj:=⟨(.type "tuple"),none,(.seq #[(sv "self" 1182)] 0),#[]⟩
noncomputable def o177:Obj:=⟨.none,none,(.func ⟨(Str.ofString "get_last_stmt_bracketing"),(Str.ofString "Parser.get_last_stmt_bracketing"),(aO (mb 13)),(.stmts (aH (mb 13))),(ay (mb 5)),0,[],.none,.none,.none,.none,none,.none,.none,0⟩),#[]⟩
noncomputable def o178:Obj:=⟨(.type "code"),none,(.fields #[(sv "get_last_stmt_bracketing" 1179),(sv "Parser.get_last_stmt_bracketing" 1180),(sv "/claim/cut.py" 1181),(.int 218 0),(.int 1 0),(.int 0 0),(.int 0 0),(.int 3 0),(.ref 234),(.bool true),(.int 276 0),(.ref 235),.none,(.ref 236),(.ref 237),(.ref 238),(.int 1183 0),(.int 218 0),(sv "/claim/cut.py" 1184)]),#[]⟩
noncomputable def o179:Obj:=⟨(.type "function"),none,(.func ⟨(Str.ofString "get_last_stmt_bracketing"),(Str.ofString "Parser.get_last_stmt_bracketing"),(aO (mb 13)),(.stmts (aH (mb 13))),(ay (mb 5)),3,[],.none,.none,.none,(sv "cpy313.idlelib.pyparse" 289),none,(.ref 239),.none,0⟩),#[]⟩
noncomputable def o180:Obj:=⟨(.type "tuple"),none,(.seq #[(sv "code" 1186),(sv "continuation" 1187),(sv "goodlines" 1188),(sv "indentwidth" 1189),(sv "lastch" 1190),(sv "lastopenbracketpos" 1191),(sv "stmt_bracketing" 1192),(sv "stmt_end" 1193),(sv "stmt_start" 1194),(sv "study_level" 1195),(sv "tabwidth" 1196)] 0),#[]⟩
noncomputable def o181 (P:Params):Obj:=⟨(.type "dict"),none,(.dict #[kv P "__module__" 1053 (sv "cpy313.idlelib.pyparse" 289),kv P "__firstlineno__" 1057 (.int 21 1056),kv P "__init__" 1066 (.ref 149),kv P "set_code" 1074 (.ref 156),kv P "find_good_parse_start" 1082 (.ref 163),kv P "set_lo" 1090 (.ref 170),kv P "_study1" 1109 (.ref 177),kv P "get_continuation_type" 1116 (.ref 184),kv P "_study2" 1136 (.ref 191),kv P "compute_bracket_indent" 1143 (.ref 198),kv P "get_num_lines_in_stmt" 1150 (.ref 205),kv P "compute_backslash_indent" 1157 (.ref 212),kv P "get_base_indent_string" 1164 (.ref 219),kv P "is_block_opener" 1171 (.ref 226),kv P "is_block_closer" 1178 (.ref 233),kv P "get_last_stmt_bracketing" 1185 (.ref 240),kv P "__static_attributes__" 1197 (.ref 241),kv P "__dict__" 1199 (.ref 244),kv P "__weakref__" 1201 (.ref 245),kv P "__doc__" 1202 .none] 4),#[]⟩
noncomputable def o182:Obj:=⟨(.type "type"),none,(.cls ⟨(Str.ofString "Parser"),[(.type "object")],[(.ref 243),(.type "object")],242,(Str.ofString "Parser"),true,[],[],false,none,false⟩),#[none,none,(some (sv "Parser" 1046)),(some (sv "Parser" 1054)),(some (.builtin "object.__new__")),(some (.bool true))]⟩
noncomputable def o183:Obj:=⟨(.type "getset_descriptor"),none,(.fields #[(sv "__dict__" 1198),(.ref 243),(.builtin "function.__dict__"),(.builtin "function.__dict__#set")]),#[]⟩
noncomputable def o184:Obj:=⟨(.type "getset_descriptor"),none,(.fields #[(sv "__weakref__" 1200),(.ref 243),(.builtin "ExceptionGroup.__weakref__"),.none]),#[]⟩
noncomputable def o185:Obj:=⟨(.type "super"),none,(.fields #[(.ref 243),(.ref 243),(.ref 243)]),#[]⟩
noncomputable def o186:Obj:=⟨(.type "builtin_function_or_method"),none,(.fields #[(.builtin "object.__init_subclass__"),(.ref 243)]),#[]⟩
noncomputable def tS9 (P:Params):BT:=(N (o0 P) (N (o1 P) (N (o118 P) (N o7 (N o7 (N o29 (N (o58 P) (lf o111) (lf o151)) (N o84 (lf o132) (lf o7))) (N o42 (N o69 (lf o7) (lf o8)) (N o97 (lf o141) (lf o178)))) (N o22 (N o36 (N o7 (lf o117) (lf o7)) (N o90 (lf o7) (lf o173))) (N o49 (N o7 (lf o8) (lf o164)) (N o105 (lf o146) (lf o186))))) (N (o27 P) (N o18 (N o7 (N o61 (lf o115) (lf o7)) (N o88 (lf o135) (lf o7))) (N o37 (N o74 (lf o125) (lf o162)) (N o7 (lf o8) (lf o182)))) (N o26 (N o39 (N o7 (lf o7) (lf o157)) (N o93 (lf o7) (lf o8))) (N o52 (N o8 (lf o130) (lf o167)) (N (o107 P) (lf o148) O))))) (N o5 (N o9 (N o16 (N o8 (N o59 (lf o113) (lf o8)) (N o86 (lf o133) (lf o170))) (N o44 (N o71 (lf o124) (lf o7)) (N o99 (lf o143) (lf o180)))) (N o24 (N o37 (N o64 (lf o57) (lf o156)) (N o7 (lf o138) (lf o175))) (N o50 (N o80 (lf o7) (lf o165)) (N o8 (lf o7) O)))) (N (o13 P) (N (o20 P) (N o34 (N o8 (lf o116) (lf o154)) (N o89 (lf o8) (lf o172))) (N o46 (N o104 (lf o127) (lf o7)) (N o7 (lf o7) (lf o184)))) (N o119 (N o6 (N o67 (lf o122) (lf o159)) (N o95 (lf o140) (lf o7))) (N o56 (N (o82 P) (lf o7) (lf o8)) (N o109 (lf o149) O)))))) (N (o2 P) (N o4 (N o8 (N o15 (N o7 (N o7 (lf o112) (lf o7)) (N o85 (lf o7) (lf o169))) (N o43 (N o70 (lf o8) (lf o160)) (N o98 (lf o142) (lf o179)))) (N o23 (N o6 (N o63 (lf o7) (lf o8)) (N o80 (lf o137) (lf o174))) (N o7 (N o77 (lf o128) (lf o7)) (N o7 (lf o147) O)))) (N o12 (N (o19 P) (N o33 (N o7 (lf o7) (lf o153)) (N o7 (lf o7) (lf o8))) (N o45 (N o6 (lf o126) (lf o163)) (N o101 (lf o144) (lf o183)))) (N o7 (N o41 (N (o66 P) (lf o121) (lf o158)) (N (o94 P) (lf o8) (lf o176))) (N o53 (N o81 (lf o131) (lf o7)) (N o108 (lf o7) O))))) (N o6 (N o10 (N o17 (N o32 (N o60 (lf o114) (lf o152)) (N o87 (lf o134) (lf o171))) (N o6 (N o73 (lf o7) (lf o161)) (N o100 (lf o7) (lf (o181 P))))) (N o25 (N o38 (N o65 (lf (o120 P)) (lf o7)) (N o8 (lf o139) (lf o7))) (N o51 (N o7 (lf o129) (lf o166)) (N o106 (lf o8) O)))) (N o14 (N o21 (N o35 (N o62 (lf o7) (lf o155)) (N o7 (lf o136) (lf o7))) (N o48 (N o76 (lf o7) (lf o8)) (N o102 (lf o145) (lf o185)))) (N o28 (N o37 (N o68 (lf o123) (lf o7)) (N o96 (lf o7) (lf o177))) (N o57 (N o83 (lf o8) (lf o168)) (N o110 (lf o150) O)))))))
noncomputable def S9 (w:World)(os:OsState):SharedT:=⟨tS9 w.params,248,{},Array.mk [.finished,.finished,.finished],⟨0,0,0,0⟩,1205,os⟩
noncomputable def o187 (P:Params):Obj:=⟨(.type "dict"),none,(.dict #[kv P "__name__" 165 (sv "law_dm0168_04" 1205),kv P "__doc__" 166 .none,kv P "__package__" 167 .none,kv P "__loader__" 168 (.builtin "__main__.__loader__#opaque"),kv P "__spec__" 169 .none,kv P "__annotations__" 170 (.ref 6),kv P "__builtins__" 171 (.ref 4),kv P "__file__" 173 (sv "/claim/cut.py" 172),kv P "__cached__" 174 .none,kv P "_sre" 275 (.ref 12),kv P "_wall" 288 (.ref 38),kv P "_twin_re_2" 334 (.ref 43),kv P "_twin_re_3" 609 (.ref 48),kv P "_twin_re_6" 639 (.ref 53),kv P "C_NONE" 648 (.int 0 643),kv P "C_BACKSLASH" 649 (.int 1 644),kv P "C_STRING_FIRST_LINE" 650 (.int 2 645),kv P "C_STRING_NEXT_LINES" 651 (.int 3 646),kv P "C_BRACKET" 652 (.int 4 647),kv P "_junkre" 654 (.ref 58),kv P "_match_stringre" 656 (.ref 59),kv P "_chew_ordinaryre" 658 (.ref 60),kv P "ParseMap" 686 (.ref 77),kv P "trans" 948 (.ref 85),kv P "Parser" 1204 (.ref 243),kv P "_law_draw" 1214 (.ref 254),kv P "_law_told" 1220 (.ref 259),kv P "law" 1236 (.ref 266)] 28),#[]⟩
noncomputable def o188:Obj:=⟨.none,none,(.fields #[(.int 2 0),(.int 0 0),(.ref 37),(.int 13 0),(.int 0 0),(.ref 66),(.int 18 0),(.int 13 0),(.ref 92),(.int 19 0),(.int 13 0),(.ref 107),(.int 20 0),(.int 13 0),(.ref 122),(.int 21 0),(.int 0 0),(.ref 141),(.int 221 0),(.int 0 0),(.ref 253),(.int 225 0),(.int 0 0),(.ref 258),(.int 229 0),(.int 0 0),(.ref 265)]),#[]⟩
noncomputable def o189:Obj:=⟨(.type "tuple"),none,(.seq #[(sv "pool" 1210),(sv "bound" 1211)] 0),#[]⟩
noncomputable def o190:Obj:=⟨.none,none,(.func ⟨(Str.ofString "_law_draw"),(Str.ofString "_law_draw"),(aO (aD pw.main.body 17)),(.stmts (aH (aD pw.main.body 17))),(ay (aD pw.main.body 17)),0,[],.none,.none,.none,.none,none,.none,.none,0⟩),#[]⟩
noncomputable def o191:Obj:=⟨(.type "code"),none,(.fields #[(sv "_law_draw" 1207),(sv "_law_draw" 1208),(sv "/claim/cut.py" 1209),(.int 221 0),(.int 2 0),(.int 0 0),(.int 0 0),(.int 3 0),(.ref 248),(.bool true),(.int 276 0),(.ref 249),.none,(.ref 250),(.ref 251),(.ref 252),(.int 1212 0),(.int 221 0),(sv "/claim/cut.py" 1213)]),#[]⟩
noncomputable def o192:Obj:=⟨(.type "function"),none,(.func ⟨(Str.ofString "_law_draw"),(Str.ofString "_law_draw"),(aO (aD pw.main.body 17)),(.stmts (aH (aD pw.main.body 17))),(ay (aD pw.main.body 17)),3,[],.none,.none,.none,(sv "law_dm0168_04" 1205),none,(.ref 253),.none,0⟩),#[]⟩
noncomputable def o193:Obj:=⟨.none,none,(.func ⟨(Str.ofString "_law_told"),(Str.ofString "_law_told"),(aO (aD pw.main.body 18)),(.stmts (aH (aD pw.main.body 18))),(ay (aD pw.main.body 18)),0,[],.none,.none,.none,.none,none,.none,.none,0⟩),#[]⟩
noncomputable def o194:Obj:=⟨(.type "code"),none,(.fields #[(sv "_law_told" 1215),(sv "_law_told" 1216),(sv "/claim/cut.py" 1217),(.int 225 0),(.int 3 0),(.int 0 0),(.int 0 0),(.int 3 0),(.ref 255),(.bool true),(.int 276 0),(.ref 256),.none,.none,.none,(.ref 257),(.int 1218 0),(.int 225 0),(sv "/claim/cut.py" 1219)]),#[]⟩
noncomputable def o195:Obj:=⟨(.type "function"),none,(.func ⟨(Str.ofString "_law_told"),(Str.ofString "_law_told"),(aO (aD pw.main.body 18)),(.stmts (aH (aD pw.main.body 18))),(ay (aD pw.main.body 18)),3,[],.none,.none,.none,(sv "law_dm0168_04" 1205),none,(.ref 258),.none,0⟩),#[]⟩
noncomputable def o196:Obj:=⟨(.type "tuple"),none,(.seq #[(sv "script" 1224),(sv "parts" 1225),(sv "pool" 1226),(sv "parser" 1227),(sv "text" 1228),(sv "turn" 1229),(sv "last" 1230),(sv "level" 1231),(sv "part" 1232),(sv "way" 1233)] 0),#[]⟩
noncomputable def o197:Obj:=⟨.none,none,(.func ⟨(Str.ofString "law"),(Str.ofString "law"),(aO (aD pw.main.body 19)),(.stmts (aH (aD pw.main.body 19))),(ay (aD pw.main.body 19)),0,[],.none,.none,.none,.none,none,.none,.none,0⟩),#[]⟩
noncomputable def o198:Obj:=⟨(.type "code"),none,(.fields #[(sv "law" 1221),(sv "law" 1222),(sv "/claim/cut.py" 1223),(.int 229 0),(.int 1 0),(.int 0 0),(.int 0 0),(.int 3 0),(.ref 260),(.bool true),(.int 276 0),(.ref 261),.none,(.ref 262),(.ref 263),(.ref 264),(.int 1234 0),(.int 229 0),(sv "/claim/cut.py" 1235)]),#[]⟩
noncomputable def o199:Obj:=⟨(.type "function"),none,(.func ⟨(Str.ofString "law"),(Str.ofString "law"),(aO (aD pw.main.body 19)),(.stmts (aH (aD pw.main.body 19))),(ay (aD pw.main.body 19)),3,[],.none,.none,.none,(sv "law_dm0168_04" 1205),none,(.ref 265),.none,0⟩),#[]⟩
noncomputable def yZ (P:Params):BT:=(N (o0 P) (N (o1 P) (N (o187 P) (N o7 (N o7 (N o29 (N (o58 P) (N o111 (lf o7) O) (lf o151)) (N o84 (lf o132) (lf o7))) (N o42 (N o69 (lf o7) (lf o8)) (N o97 (lf o141) (lf o178)))) (N o22 (N o36 (N o7 (N o117 (lf o7) O) (lf o7)) (N o90 (lf o7) (lf o173))) (N o49 (N o7 (lf o8) (lf o164)) (N o105 (lf o146) (lf o186))))) (N (o27 P) (N o18 (N o7 (N o61 (N o115 (lf o195) O) (lf o7)) (N o88 (lf o135) (lf o7))) (N o37 (N o74 (lf o125) (lf o162)) (N o7 (lf o8) (lf o182)))) (N o26 (N o39 (N o7 (lf o7) (lf o157)) (N o93 (lf o7) (lf o8))) (N o52 (N o8 (lf o130) (lf o167)) (N (o107 P) (lf o148) (lf o7)))))) (N o5 (N o9 (N o16 (N o8 (N o59 (N o113 (lf o193) O) (lf o8)) (N o86 (lf o133) (lf o170))) (N o44 (N o71 (lf o124) (lf o7)) (N o99 (lf o143) (lf o180)))) (N o24 (N o37 (N o64 (N o57 (lf o198) O) (lf o156)) (N o7 (lf o138) (lf o175))) (N o50 (N o80 (lf o7) (lf o165)) (N o8 (lf o7) (lf o8))))) (N (o13 P) (N (o20 P) (N o34 (N o8 (N o116 (lf o8) O) (lf o154)) (N o89 (lf o8) (lf o172))) (N o46 (N o104 (lf o127) (lf o7)) (N o7 (lf o7) (lf o184)))) (N o188 (N o6 (N o67 (lf o122) (lf o159)) (N o95 (lf o140) (lf o7))) (N o56 (N (o82 P) (lf o7) (lf o8)) (N o109 (lf o149) (lf o191))))))) (N (o2 P) (N o4 (N o8 (N o15 (N o7 (N o7 (N o112 (lf o8) O) (lf o7)) (N o85 (lf o7) (lf o169))) (N o43 (N o70 (lf o8) (lf o160)) (N o98 (lf o142) (lf o179)))) (N o23 (N o6 (N o63 (N o7 (lf o197) O) (lf o8)) (N o80 (lf o137) (lf o174))) (N o7 (N o77 (lf o128) (lf o7)) (N o7 (lf o147) (lf o7))))) (N o12 (N (o19 P) (N o33 (N o7 (N o7 (lf o7) O) (lf o153)) (N o7 (lf o7) (lf o8))) (N o45 (N o6 (lf o126) (lf o163)) (N o101 (lf o144) (lf o183)))) (N o7 (N o41 (N (o66 P) (lf o121) (lf o158)) (N (o94 P) (lf o8) (lf o176))) (N o53 (N o81 (lf o131) (lf o7)) (N o108 (lf o7) (lf o190)))))) (N o6 (N o10 (N o17 (N o32 (N o60 (N o114 (lf o194) O) (lf o152)) (N o87 (lf o134) (lf o171))) (N o6 (N o73 (lf o7) (lf o161)) (N o100 (lf o7) (lf (o181 P))))) (N o25 (N o38 (N o65 (N (o120 P) (lf o199) O) (lf o7)) (N o8 (lf o139) (lf o7))) (N o51 (N o7 (lf o129) (lf o166)) (N o106 (lf o8) (lf o189))))) (N o14 (N o21 (N o35 (N o62 (N o7 (lf o196) O) (lf o155)) (N o7 (lf o136) (lf o7))) (N o48 (N o76 (lf o7) (lf o8)) (N o102 (lf o145) (lf o185)))) (N o28 (N o37 (N o68 (lf o123) (lf o7)) (N o96 (lf o7) (lf o177))) (N o57 (N o83 (lf o8) (lf o168)) (N o110 (lf o150) (lf o192))))))))
noncomputable def S10 (w:World)(os:OsState):SharedT:=⟨yZ w.params,267,{},Array.mk [.finished,.finished,.finished],⟨0,0,0,0⟩,1237,os⟩
noncomputable def o200:Obj:=⟨(.ref 77),(some 84),(.dict #[] 0),#[]⟩
noncomputable def o201:Obj:=⟨(.type "range_iterator"),none,(.fields #[(.int 0 0),(.int 128 0),(.int 1 0)]),#[]⟩
noncomputable def yc (P:Params):BT:=(N (o0 P) (N (o1 P) (N (o54 P) (N o7 (N o7 (N o29 (lf (o58 P)) O) (N o42 (lf o69) O)) (N o22 (N o36 (lf o7) O) (lf o49))) (N (o27 P) (N o18 (N o7 (lf o61) O) (N o37 (lf o74) O)) (N o26 (N o39 (lf o7) O) (lf o52)))) (N o5 (N o9 (N o16 (N o8 (lf o59) O) (N o44 (lf o71) O)) (N o24 (N o37 (lf o64) O) (lf o50))) (N (o13 P) (N (o20 P) (N o34 (lf o8) O) (N o46 (lf o200) O)) (N o55 (N o6 (lf o67) O) (lf o56))))) (N (o2 P) (N o4 (N o8 (N o15 (N o7 (lf o7) O) (N o43 (lf o70) O)) (N o23 (N o6 (lf o63) O) (lf o7))) (N o12 (N (o19 P) (N o33 (lf o7) O) (N o45 (lf o6) O)) (N o7 (N o41 (lf (o66 P)) O) (lf o53)))) (N o6 (N o10 (N o17 (N o32 (lf o60) O) (N o6 (lf o73) O)) (N o25 (N o38 (lf o65) O) (lf o51))) (N o14 (N o21 (N o35 (lf o62) O) (N o48 (lf o201) O)) (N o28 (N o37 (lf o68) O) (lf o57))))))
noncomputable def yw (w:World)(os:OsState):SharedT:=⟨yc w.params,87,{},Array.mk [],⟨0,0,0,0⟩,692,os⟩
noncomputable def o202:Obj:=⟨(.ref 77),(some 84),(.dict #[ki 0 692 120 691,ki 1 694 120 691,ki 2 696 120 691,ki 3 698 120 691,ki 4 700 120 691,ki 5 702 120 691,ki 6 704 120 691,ki 7 706 120 691,ki 8 708 120 691,ki 9 710 120 691,ki 10 712 120 691,ki 11 714 120 691,ki 12 716 120 691,ki 13 718 120 691,ki 14 720 120 691,ki 15 722 120 691,ki 16 724 120 691,ki 17 726 120 691,ki 18 728 120 691,ki 19 730 120 691,ki 20 732 120 691,ki 21 734 120 691,ki 22 736 120 691,ki 23 738 120 691,ki 24 740 120 691] 25),#[]⟩
noncomputable def o203:Obj:=⟨(.type "range_iterator"),none,(.fields #[(.int 25 0),(.int 103 0),(.int 1 0)]),#[]⟩
noncomputable def yC (P:Params):BT:=(N (o0 P) (N (o1 P) (N (o54 P) (N o7 (N o7 (N o29 (lf (o58 P)) O) (N o42 (lf o69) O)) (N o22 (N o36 (lf o7) O) (lf o49))) (N (o27 P) (N o18 (N o7 (lf o61) O) (N o37 (lf o74) O)) (N o26 (N o39 (lf o7) O) (lf o52)))) (N o5 (N o9 (N o16 (N o8 (lf o59) O) (N o44 (lf o71) O)) (N o24 (N o37 (lf o64) O) (lf o50))) (N (o13 P) (N (o20 P) (N o34 (lf o8) O) (N o46 (lf o202) O)) (N o55 (N o6 (lf o67) O) (lf o56))))) (N (o2 P) (N o4 (N o8 (N o15 (N o7 (lf o7) O) (N o43 (lf o70) O)) (N o23 (N o6 (lf o63) O) (lf o7))) (N o12 (N (o19 P) (N o33 (lf o7) O) (N o45 (lf o6) O)) (N o7 (N o41 (lf (o66 P)) O) (lf o53)))) (N o6 (N o10 (N o17 (N o32 (lf o60) O) (N o6 (lf o73) O)) (N o25 (N o38 (lf o65) O) (lf o51))) (N o14 (N o21 (N o35 (lf o62) O) (N o48 (lf o203) O)) (N o28 (N o37 (lf o68) O) (lf o57))))))
noncomputable def xE (w:World)(os:OsState):SharedT:=⟨yC w.params,87,{},Array.mk [],⟨0,0,0,0⟩,742,os⟩
noncomputable def o204:Obj:=⟨(.ref 77),(some 84),(.dict #[ki 0 692 120 691,ki 1 694 120 691,ki 2 696 120 691,ki 3 698 120 691,ki 4 700 120 691,ki 5 702 120 691,ki 6 704 120 691,ki 7 706 120 691,ki 8 708 120 691,ki 9 710 120 691,ki 10 712 120 691,ki 11 714 120 691,ki 12 716 120 691,ki 13 718 120 691,ki 14 720 120 691,ki 15 722 120 691,ki 16 724 120 691,ki 17 726 120 691,ki 18 728 120 691,ki 19 730 120 691,ki 20 732 120 691,ki 21 734 120 691,ki 22 736 120 691,ki 23 738 120 691,ki 24 740 120 691,ki 25 742 120 691,ki 26 744 120 691,ki 27 746 120 691,ki 28 748 120 691,ki 29 750 120 691,ki 30 752 120 691,ki 31 754 120 691,ki 32 756 120 691,ki 33 758 120 691,ki 34 760 120 691,ki 35 762 120 691,ki 36 764 120 691,ki 37 766 120 691,ki 38 768 120 691,ki 39 770 120 691,ki 40 772 120 691,ki 41 774 120 691,ki 42 776 120 691,ki 43 778 120 691,ki 44 780 120 691,ki 45 782 120 691,ki 46 784 120 691,ki 47 786 120 691,ki 48 788 120 691,ki 49 790 120 691] 50),#[]⟩
noncomputable def o205:Obj:=⟨(.type "range_iterator"),none,(.fields #[(.int 50 0),(.int 78 0),(.int 1 0)]),#[]⟩
noncomputable def yA (P:Params):BT:=(N (o0 P) (N (o1 P) (N (o54 P) (N o7 (N o7 (N o29 (lf (o58 P)) O) (N o42 (lf o69) O)) (N o22 (N o36 (lf o7) O) (lf o49))) (N (o27 P) (N o18 (N o7 (lf o61) O) (N o37 (lf o74) O)) (N o26 (N o39 (lf o7) O) (lf o52)))) (N o5 (N o9 (N o16 (N o8 (lf o59) O) (N o44 (lf o71) O)) (N o24 (N o37 (lf o64) O) (lf o50))) (N (o13 P) (N (o20 P) (N o34 (lf o8) O) (N o46 (lf o204) O)) (N o55 (N o6 (lf o67) O) (lf o56))))) (N (o2 P) (N o4 (N o8 (N o15 (N o7 (lf o7) O) (N o43 (lf o70) O)) (N o23 (N o6 (lf o63) O) (lf o7))) (N o12 (N (o19 P) (N o33 (lf o7) O) (N o45 (lf o6) O)) (N o7 (N o41 (lf (o66 P)) O) (lf o53)))) (N o6 (N o10 (N o17 (N o32 (lf o60) O) (N o6 (lf o73) O)) (N o25 (N o38 (lf o65) O) (lf o51))) (N o14 (N o21 (N o35 (lf o62) O) (N o48 (lf o205) O)) (N o28 (N o37 (lf o68) O) (lf o57))))))
noncomputable def yJ (w:World)(os:OsState):SharedT:=⟨yA w.params,87,{},Array.mk [],⟨0,0,0,0⟩,792,os⟩
noncomputable def o206:Obj:=⟨(.ref 77),(some 84),(.dict #[ki 0 692 120 691,ki 1 694 120 691,ki 2 696 120 691,ki 3 698 120 691,ki 4 700 120 691,ki 5 702 120 691,ki 6 704 120 691,ki 7 706 120 691,ki 8 708 120 691,ki 9 710 120 691,ki 10 712 120 691,ki 11 714 120 691,ki 12 716 120 691,ki 13 718 120 691,ki 14 720 120 691,ki 15 722 120 691,ki 16 724 120 691,ki 17 726 120 691,ki 18 728 120 691,ki 19 730 120 691,ki 20 732 120 691,ki 21 734 120 691,ki 22 736 120 691,ki 23 738 120 691,ki 24 740 120 691,ki 25 742 120 691,ki 26 744 120 691,ki 27 746 120 691,ki 28 748 120 691,ki 29 750 120 691,ki 30 752 120 691,ki 31 754 120 691,ki 32 756 120 691,ki 33 758 120 691,ki 34 760 120 691,ki 35 762 120 691,ki 36 764 120 691,ki 37 766 120 691,ki 38 768 120 691,ki 39 770 120 691,ki 40 772 120 691,ki 41 774 120 691,ki 42 776 120 691,ki 43 778 120 691,ki 44 780 120 691,ki 45 782 120 691,ki 46 784 120 691,ki 47 786 120 691,ki 48 788 120 691,ki 49 790 120 691,ki 50 792 120 691,ki 51 794 120 691,ki 52 796 120 691,ki 53 798 120 691,ki 54 800 120 691,ki 55 802 120 691,ki 56 804 120 691,ki 57 806 120 691,ki 58 808 120 691,ki 59 810 120 691,ki 60 812 120 691,ki 61 814 120 691,ki 62 816 120 691,ki 63 818 120 691,ki 64 820 120 691,ki 65 822 120 691,ki 66 824 120 691,ki 67 826 120 691,ki 68 828 120 691,ki 69 830 120 691,ki 70 832 120 691,ki 71 834 120 691,ki 72 836 120 691,ki 73 838 120 691,ki 74 840 120 691] 75),#[]⟩
noncomputable def o207:Obj:=⟨(.type "range_iterator"),none,(.fields #[(.int 75 0),(.int 53 0),(.int 1 0)]),#[]⟩
noncomputable def yR (P:Params):BT:=(N (o0 P) (N (o1 P) (N (o54 P) (N o7 (N o7 (N o29 (lf (o58 P)) O) (N o42 (lf o69) O)) (N o22 (N o36 (lf o7) O) (lf o49))) (N (o27 P) (N o18 (N o7 (lf o61) O) (N o37 (lf o74) O)) (N o26 (N o39 (lf o7) O) (lf o52)))) (N o5 (N o9 (N o16 (N o8 (lf o59) O) (N o44 (lf o71) O)) (N o24 (N o37 (lf o64) O) (lf o50))) (N (o13 P) (N (o20 P) (N o34 (lf o8) O) (N o46 (lf o206) O)) (N o55 (N o6 (lf o67) O) (lf o56))))) (N (o2 P) (N o4 (N o8 (N o15 (N o7 (lf o7) O) (N o43 (lf o70) O)) (N o23 (N o6 (lf o63) O) (lf o7))) (N o12 (N (o19 P) (N o33 (lf o7) O) (N o45 (lf o6) O)) (N o7 (N o41 (lf (o66 P)) O) (lf o53)))) (N o6 (N o10 (N o17 (N o32 (lf o60) O) (N o6 (lf o73) O)) (N o25 (N o38 (lf o65) O) (lf o51))) (N o14 (N o21 (N o35 (lf o62) O) (N o48 (lf o207) O)) (N o28 (N o37 (lf o68) O) (lf o57))))))
noncomputable def xO (w:World)(os:OsState):SharedT:=⟨yR w.params,87,{},Array.mk [],⟨0,0,0,0⟩,842,os⟩
noncomputable def o208:Obj:=⟨(.ref 77),(some 84),(.dict #[ki 0 692 120 691,ki 1 694 120 691,ki 2 696 120 691,ki 3 698 120 691,ki 4 700 120 691,ki 5 702 120 691,ki 6 704 120 691,ki 7 706 120 691,ki 8 708 120 691,ki 9 710 120 691,ki 10 712 120 691,ki 11 714 120 691,ki 12 716 120 691,ki 13 718 120 691,ki 14 720 120 691,ki 15 722 120 691,ki 16 724 120 691,ki 17 726 120 691,ki 18 728 120 691,ki 19 730 120 691,ki 20 732 120 691,ki 21 734 120 691,ki 22 736 120 691,ki 23 738 120 691,ki 24 740 120 691,ki 25 742 120 691,ki 26 744 120 691,ki 27 746 120 691,ki 28 748 120 691,ki 29 750 120 691,ki 30 752 120 691,ki 31 754 120 691,ki 32 756 120 691,ki 33 758 120 691,ki 34 760 120 691,ki 35 762 120 691,ki 36 764 120 691,ki 37 766 120 691,ki 38 768 120 691,ki 39 770 120 691,ki 40 772 120 691,ki 41 774 120 691,ki 42 776 120 691,ki 43 778 120 691,ki 44 780 120 691,ki 45 782 120 691,ki 46 784 120 691,ki 47 786 120 691,ki 48 788 120 691,ki 49 790 120 691,ki 50 792 120 691,ki 51 794 120 691,ki 52 796 120 691,ki 53 798 120 691,ki 54 800 120 691,ki 55 802 120 691,ki 56 804 120 691,ki 57 806 120 691,ki 58 808 120 691,ki 59 810 120 691,ki 60 812 120 691,ki 61 814 120 691,ki 62 816 120 691,ki 63 818 120 691,ki 64 820 120 691,ki 65 822 120 691,ki 66 824 120 691,ki 67 826 120 691,ki 68 828 120 691,ki 69 830 120 691,ki 70 832 120 691,ki 71 834 120 691,ki 72 836 120 691,ki 73 838 120 691,ki 74 840 120 691,ki 75 842 120 691,ki 76 844 120 691,ki 77 846 120 691,ki 78 848 120 691,ki 79 850 120 691,ki 80 852 120 691,ki 81 854 120 691,ki 82 856 120 691,ki 83 858 120 691,ki 84 860 120 691,ki 85 862 120 691,ki 86 864 120 691,ki 87 866 120 691,ki 88 868 120 691,ki 89 870 120 691,ki 90 872 120 691,ki 91 874 120 691,ki 92 876 120 691,ki 93 878 120 691,ki 94 880 120 691,ki 95 882 120 691,ki 96 884 120 691,ki 97 886 120 691,ki 98 888 120 691,ki 99 890 120 691] 100),#[]⟩
noncomputable def o209:Obj:=⟨(.type "range_iterator"),none,(.fields #[(.int 100 0),(.int 28 0),(.int 1 0)]),#[]⟩
noncomputable def xt (P:Params):BT:=(N (o0 P) (N (o1 P) (N (o54 P) (N o7 (N o7 (N o29 (lf (o58 P)) O) (N o42 (lf o69) O)) (N o22 (N o36 (lf o7) O) (lf o49))) (N (o27 P) (N o18 (N o7 (lf o61) O) (N o37 (lf o74) O)) (N o26 (N o39 (lf o7) O) (lf o52)))) (N o5 (N o9 (N o16 (N o8 (lf o59) O) (N o44 (lf o71) O)) (N o24 (N o37 (lf o64) O) (lf o50))) (N (o13 P) (N (o20 P) (N o34 (lf o8) O) (N o46 (lf o208) O)) (N o55 (N o6 (lf o67) O) (lf o56))))) (N (o2 P) (N o4 (N o8 (N o15 (N o7 (lf o7) O) (N o43 (lf o70) O)) (N o23 (N o6 (lf o63) O) (lf o7))) (N o12 (N (o19 P) (N o33 (lf o7) O) (N o45 (lf o6) O)) (N o7 (N o41 (lf (o66 P)) O) (lf o53)))) (N o6 (N o10 (N o17 (N o32 (lf o60) O) (N o6 (lf o73) O)) (N o25 (N o38 (lf o65) O) (lf o51))) (N o14 (N o21 (N o35 (lf o62) O) (N o48 (lf o209) O)) (N o28 (N o37 (lf o68) O) (lf o57))))))
noncomputable def yE (w:World)(os:OsState):SharedT:=⟨xt w.params,87,{},Array.mk [],⟨0,0,0,0⟩,892,os⟩
noncomputable def hSf (P:Params):Heap:=⟨Array.mk [o0 P,o1 P,o2 P,o187 P,o4,o5,o6,o7,o8,o9,o10,o27 P,o12,o13 P,o14,o7,o15,o16,o17,o18,o19 P,o20 P,o21,o22,o23,o24,o25,o26,o7,o188,o28,o29,o7,o8,o32,o7,o33,o34,o35,o36,o6,o37,o38,o39,o41,o6,o37,o42,o43,o44,o6,o37,o45,o46,o48,o49,o7,o50,o51,o52,o53,o56,o57,o58 P,o7,o59,o60,o61,o7,o8,o62,o7,o63,o64,o65,o7,o66 P,o67,o68,o69,o70,o71,o73,o74,o6,o104,o76,o7,o77,o80,o7,o8,o81,o82 P,o83,o84,o85,o86,o87,o88,o7,o89,o7,o90,o80,o7,o8,o93,o94 P,o95,o96,o97,o98,o99,o100,o7,o101,o7,o102,o105,o7,o8,o106,o107 P,o108,o109,o110,o111,o112,o113,o114,o115,o7,o116,o7,o117,o7,o57,o120 P,o7,o121,o122,o123,o7,o8,o124,o7,o125,o126,o127,o7,o8,o128,o7,o129,o130,o131,o7,o8,o132,o7,o133,o134,o135,o7,o8,o136,o7,o137,o138,o139,o7,o8,o140,o7,o141,o142,o143,o7,o8,o144,o7,o145,o146,o147,o7,o8,o148,o7,o149,o150,o151,o7,o8,o152,o7,o153,o154,o155,o7,o8,o156,o7,o157,o158,o159,o7,o8,o160,o7,o161,o162,o163,o7,o8,o164,o7,o165,o166,o167,o7,o8,o168,o7,o169,o170,o171,o7,o8,o172,o7,o173,o174,o175,o7,o8,o176,o7,o177,o178,o179,o180,o181 P,o182,o183,o184,o185,o186,o7,o8,o189,o7,o190,o191,o192,o7,o8,o193,o194,o195,o7,o8,o196,o7,o197,o198,o199],{}⟩
noncomputable def Sf (w:World)(os:OsState):Shared:=⟨hSf w.params,Array.mk [.finished,.finished,.finished],⟨0,0,0,0⟩,1237,os⟩
noncomputable def bE:List Stmt:=behindTheImports pw
noncomputable def env:Env:={scope:=pw.main.scope,locals:=mainNs,globals:=mainNs,cells:=[],code:=(.ref 30),frame:=some 31}
noncomputable def cE:Code:=.body bE env
noncomputable def B:List Frame:=[topFrame ⟨0,0,0,0⟩]
noncomputable def an:Option Value:=(some (.ref 6))
noncomputable def Z (w:World)(os:OsState):Shared:=⟨hSz w.params,Array.mk [],⟨0,0,0,0⟩,276,os⟩
theorem pre (w:World)(os:OsState):topGo treeTable pw w 28 an 12 (Z w os) (topStub pw)=some (Sa w os,⟨denote treeTable cE,cE,⟨0,0,0,0⟩,B⟩):=by
 rewrite[tH,tF,tD];kernel_rfl
theorem blk (w:World)(os:OsState):segRun treeTable pw w 28 an 1 1 (Sa w os) (blockOf bE env cE ⟨0,0,0,0⟩ B)=some (.next,(S0 w os).abs,cE,⟨0,0,0,0⟩):=by
 rewrite[tG,tF];kernel_rfl
noncomputable def st1:List Stmt:=[aD pw.main.body 1,aD pw.main.body 2,aD pw.main.body 3]
def Q1 (w:World):Prop:=∀os,segRunT treeTable pw w 28 an 1 126 (S0 w os) (piecesOf st1 env cE ⟨0,0,0,0⟩ B)=some (.next,S1 w os,cE,⟨6,0,6,10⟩)
theorem q1 (w:World):Q1 (w):=by
 unfold Q1;rewrite[tA,tF];intro os;kernel_rfl
theorem p1 (w:World):Q1 w:=q1 w
theorem r1 (w:World)(os:OsState):segRun treeTable pw w 28 an 1 126 (S0 w os).abs (piecesOf st1 env cE ⟨0,0,0,0⟩ B)=some (.next,(S1 w os).abs,cE,⟨6,0,6,10⟩):=segRun_of (p1 w os)
noncomputable def st2:List Stmt:=[aD pw.main.body 4,aD pw.main.body 5]
def Q2 (w:World):Prop:=∀os,segRunT treeTable pw w 28 an 1 392 (S1 w os) (piecesOf st2 env cE ⟨6,0,6,10⟩ B)=some (.next,S2 w os,cE,⟨8,0,8,10⟩)
theorem q2 (w:World):Q2 (w):=by
 unfold Q2;rewrite[tA,tF];intro os;kernel_rfl
theorem p2 (w:World):Q2 w:=q2 w
theorem r2 (w:World)(os:OsState):segRun treeTable pw w 28 an 1 392 (S1 w os).abs (piecesOf st2 env cE ⟨6,0,6,10⟩ B)=some (.next,(S2 w os).abs,cE,⟨8,0,8,10⟩):=segRun_of (p2 w os)
noncomputable def st3:List Stmt:=[aD pw.main.body 6,aD pw.main.body 7,aD pw.main.body 8,aD pw.main.body 9]
def Q3 (w:World):Prop:=∀os,segRunT treeTable pw w 28 an 1 233 (S2 w os) (piecesOf st3 env cE ⟨8,0,8,10⟩ B)=some (.next,S3 w os,cE,⟨12,0,12,16⟩)
theorem q3f (w:World):Q3 ((World.withFollow w "special-get-raises" false)):=by
 unfold Q3;rewrite[tA,tF];intro os;kernel_rfl
theorem q3t (w:World):Q3 ((World.withFollow w "special-get-raises" true)):=by
 unfold Q3;rewrite[tA,tF];intro os;kernel_rfl
theorem p3 (w:World):Q3 w:=(byRow2 "special-get-raises" (P:=fun w=>Q3 (w)) q3f q3t) w
theorem r3 (w:World)(os:OsState):segRun treeTable pw w 28 an 1 233 (S2 w os).abs (piecesOf st3 env cE ⟨8,0,8,10⟩ B)=some (.next,(S3 w os).abs,cE,⟨12,0,12,16⟩):=segRun_of (p3 w os)
noncomputable def st4:List Stmt:=[aD pw.main.body 10]
def Q4 (w:World):Prop:=∀os,segRunT treeTable pw w 28 an 1 226 (S3 w os) (piecesOf st4 env cE ⟨12,0,12,16⟩ B)=some (.next,S4 w os,cE,⟨13,0,16,18⟩)
theorem q4 (w:World):Q4 (w):=by
 unfold Q4;rewrite[tA,tF];intro os;kernel_rfl
theorem p4 (w:World):Q4 w:=q4 w
theorem r4 (w:World)(os:OsState):segRun treeTable pw w 28 an 1 226 (S3 w os).abs (piecesOf st4 env cE ⟨12,0,12,16⟩ B)=some (.next,(S4 w os).abs,cE,⟨13,0,16,18⟩):=segRun_of (p4 w os)
noncomputable def st5:List Stmt:=[aD pw.main.body 11]
noncomputable def th5 (w:World)(os:OsState):Thread:=match PySem.W.Fast.tw10295753902157049106 PySem.W.Fast.tw14364793385576792824 pw w 28 an 1 113 (S4 w os) (piecesOf st5 env cE ⟨13,0,16,18⟩ B) with
 |some r=>r.2
 |none=>⟨doneF .next,cE,⟨13,0,16,18⟩,B⟩
def oU (w:World):Prop:=∀os,segGoT treeTable pw w 28 an 1 113 (S4 w os) (piecesOf st5 env cE ⟨13,0,16,18⟩ B)=some (yw w os,th5 w os)
theorem yP (w:World):oU ((World.withFollow w "special-get-raises" false)):=by
 unfold oU;rewrite[tC,tF];intro os;kernel_rfl
theorem xI (w:World):oU ((World.withFollow w "special-get-raises" true)):=by
 unfold oU;rewrite[tC,tF];intro os;kernel_rfl
theorem zk (w:World):oU w:=(byRow2 "special-get-raises" (P:=fun w=>oU (w)) yP xI) w
def pj (w:World):Prop:=∀os,segGoT treeTable pw w 28 an 1 1000 (yw w os) (th5 w os)=some (xE w os,th5 w os)
theorem yt (w:World):pj ((World.withFollow w "special-get-raises" false)):=by
 unfold pj;rewrite[tC,tF];intro os;kernel_rfl
theorem xW (w:World):pj ((World.withFollow w "special-get-raises" true)):=by
 unfold pj;rewrite[tC,tF];intro os;kernel_rfl
theorem zn (w:World):pj w:=(byRow2 "special-get-raises" (P:=fun w=>pj (w)) yt xW) w
def oh (w:World):Prop:=∀os,segGoT treeTable pw w 28 an 1 1000 (xE w os) (th5 w os)=some (yJ w os,th5 w os)
theorem x8 (w:World):oh ((World.withFollow w "special-get-raises" false)):=by
 unfold oh;rewrite[tC,tF];intro os;kernel_rfl
theorem xL (w:World):oh ((World.withFollow w "special-get-raises" true)):=by
 unfold oh;rewrite[tC,tF];intro os;kernel_rfl
theorem zq (w:World):oh w:=(byRow2 "special-get-raises" (P:=fun w=>oh (w)) x8 xL) w
def pt (w:World):Prop:=∀os,segGoT treeTable pw w 28 an 1 1000 (yJ w os) (th5 w os)=some (xO w os,th5 w os)
theorem yx (w:World):pt ((World.withFollow w "special-get-raises" false)):=by
 unfold pt;rewrite[tC,tF];intro os;kernel_rfl
theorem xQ (w:World):pt ((World.withFollow w "special-get-raises" true)):=by
 unfold pt;rewrite[tC,tF];intro os;kernel_rfl
theorem y0 (w:World):pt w:=(byRow2 "special-get-raises" (P:=fun w=>pt (w)) yx xQ) w
def oB (w:World):Prop:=∀os,segGoT treeTable pw w 28 an 1 1000 (xO w os) (th5 w os)=some (yE w os,th5 w os)
theorem yG (w:World):oB ((World.withFollow w "special-get-raises" false)):=by
 unfold oB;rewrite[tC,tF];intro os;kernel_rfl
theorem yF (w:World):oB ((World.withFollow w "special-get-raises" true)):=by
 unfold oB;rewrite[tC,tF];intro os;kernel_rfl
theorem zf (w:World):oB w:=(byRow2 "special-get-raises" (P:=fun w=>oB (w)) yG yF) w
def Q5 (w:World):Prop:=∀os,segRunT treeTable pw w 28 an 1 1143 (yE w os) (th5 w os)=some (.next,S5 w os,cE,⟨17,0,17,5⟩)
theorem q5f (w:World):Q5 ((World.withFollow w "special-get-raises" false)):=by
 unfold Q5;rewrite[tA,tF];intro os;kernel_rfl
theorem q5t (w:World):Q5 ((World.withFollow w "special-get-raises" true)):=by
 unfold Q5;rewrite[tA,tF];intro os;kernel_rfl
theorem p5 (w:World):Q5 w:=(byRow2 "special-get-raises" (P:=fun w=>Q5 (w)) q5f q5t) w
theorem r5 (w:World)(os:OsState):segRun treeTable pw w 28 an 1 (113+(1000+(1000+(1000+(1000+1143))))) (S4 w os).abs (piecesOf st5 env cE ⟨13,0,16,18⟩ B)=some (.next,(S5 w os).abs,cE,⟨17,0,17,5⟩):=seg_go (segGo_of (zk w os)) (seg_go (segGo_of (zn w os)) (seg_go (segGo_of (zq w os)) (seg_go (segGo_of (y0 w os)) (seg_go (segGo_of (zf w os)) (segRun_of (p5 w os))))))
noncomputable def st6:List Stmt:=[aD pw.main.body 12]
def Q6 (w:World):Prop:=∀os,segRunT treeTable pw w 28 an 1 367 (S5 w os) (piecesOf st6 env cE ⟨17,0,17,5⟩ B)=some (.next,S6 w os,cE,⟨18,0,18,49⟩)
theorem zx (w:World):Q6 ((World.withFollow (World.withFollow w "special-get-raises" false) "comprehension-iter-twice" false)):=by
 unfold Q6;rewrite[tA,tF];intro os;kernel_rfl
theorem zc (w:World):Q6 ((World.withFollow (World.withFollow w "special-get-raises" true) "comprehension-iter-twice" false)):=by
 unfold Q6;rewrite[tA,tF];intro os;kernel_rfl
theorem zm (w:World):Q6 ((World.withFollow (World.withFollow w "special-get-raises" false) "comprehension-iter-twice" true)):=by
 unfold Q6;rewrite[tA,tF];intro os;kernel_rfl
theorem y3 (w:World):Q6 ((World.withFollow (World.withFollow w "special-get-raises" true) "comprehension-iter-twice" true)):=by
 unfold Q6;rewrite[tA,tF];intro os;kernel_rfl
theorem p6 (w:World):Q6 w:=(byRow2 "comprehension-iter-twice" (P:=fun w=>Q6 (w)) (byRow2 "special-get-raises" (P:=fun w=>Q6 ((World.withFollow w "comprehension-iter-twice" false))) zx zc) (byRow2 "special-get-raises" (P:=fun w=>Q6 ((World.withFollow w "comprehension-iter-twice" true))) zm y3)) w
theorem r6 (w:World)(os:OsState):segRun treeTable pw w 28 an 1 367 (S5 w os).abs (piecesOf st6 env cE ⟨17,0,17,5⟩ B)=some (.next,(S6 w os).abs,cE,⟨18,0,18,49⟩):=segRun_of (p6 w os)
noncomputable def st7:List Stmt:=[aD pw.main.body 13]
def Q7 (w:World):Prop:=∀os,segRunT treeTable pw w 28 an 1 367 (S6 w os) (piecesOf st7 env cE ⟨18,0,18,49⟩ B)=some (.next,S7 w os,cE,⟨19,0,19,49⟩)
theorem zB (w:World):Q7 ((World.withFollow (World.withFollow w "special-get-raises" false) "comprehension-iter-twice" false)):=by
 unfold Q7;rewrite[tA,tF];intro os;kernel_rfl
theorem zE (w:World):Q7 ((World.withFollow (World.withFollow w "special-get-raises" true) "comprehension-iter-twice" false)):=by
 unfold Q7;rewrite[tA,tF];intro os;kernel_rfl
theorem zG (w:World):Q7 ((World.withFollow (World.withFollow w "special-get-raises" false) "comprehension-iter-twice" true)):=by
 unfold Q7;rewrite[tA,tF];intro os;kernel_rfl
theorem y2 (w:World):Q7 ((World.withFollow (World.withFollow w "special-get-raises" true) "comprehension-iter-twice" true)):=by
 unfold Q7;rewrite[tA,tF];intro os;kernel_rfl
theorem p7 (w:World):Q7 w:=(byRow2 "comprehension-iter-twice" (P:=fun w=>Q7 (w)) (byRow2 "special-get-raises" (P:=fun w=>Q7 ((World.withFollow w "comprehension-iter-twice" false))) zB zE) (byRow2 "special-get-raises" (P:=fun w=>Q7 ((World.withFollow w "comprehension-iter-twice" true))) zG y2)) w
theorem r7 (w:World)(os:OsState):segRun treeTable pw w 28 an 1 367 (S6 w os).abs (piecesOf st7 env cE ⟨18,0,18,49⟩ B)=some (.next,(S7 w os).abs,cE,⟨19,0,19,49⟩):=segRun_of (p7 w os)
noncomputable def st8:List Stmt:=[aD pw.main.body 14]
def Q8 (w:World):Prop:=∀os,segRunT treeTable pw w 28 an 1 522 (S7 w os) (piecesOf st8 env cE ⟨19,0,19,49⟩ B)=some (.next,S8 w os,cE,⟨20,0,20,52⟩)
theorem zh (w:World):Q8 ((World.withFollow (World.withFollow w "special-get-raises" false) "comprehension-iter-twice" false)):=by
 unfold Q8;rewrite[tA,tF];intro os;kernel_rfl
theorem y8 (w:World):Q8 ((World.withFollow (World.withFollow w "special-get-raises" true) "comprehension-iter-twice" false)):=by
 unfold Q8;rewrite[tA,tF];intro os;kernel_rfl
theorem yU (w:World):Q8 ((World.withFollow (World.withFollow w "special-get-raises" false) "comprehension-iter-twice" true)):=by
 unfold Q8;rewrite[tA,tF];intro os;kernel_rfl
theorem y1 (w:World):Q8 ((World.withFollow (World.withFollow w "special-get-raises" true) "comprehension-iter-twice" true)):=by
 unfold Q8;rewrite[tA,tF];intro os;kernel_rfl
theorem p8 (w:World):Q8 w:=(byRow2 "comprehension-iter-twice" (P:=fun w=>Q8 (w)) (byRow2 "special-get-raises" (P:=fun w=>Q8 ((World.withFollow w "comprehension-iter-twice" false))) zh y8) (byRow2 "special-get-raises" (P:=fun w=>Q8 ((World.withFollow w "comprehension-iter-twice" true))) yU y1)) w
theorem r8 (w:World)(os:OsState):segRun treeTable pw w 28 an 1 522 (S7 w os).abs (piecesOf st8 env cE ⟨19,0,19,49⟩ B)=some (.next,(S8 w os).abs,cE,⟨20,0,20,52⟩):=segRun_of (p8 w os)
noncomputable def st9:List Stmt:=[aD pw.main.body 15]
def Q9 (w:World):Prop:=∀os,segRunT treeTable pw w 28 an 1 665 (S8 w os) (piecesOf st9 env cE ⟨20,0,20,52⟩ B)=some (.next,S9 w os,cE,⟨21,0,219,16⟩)
theorem q9 (w:World):Q9 (w):=by
 unfold Q9;rewrite[tA,tF];intro os;kernel_rfl
theorem p9 (w:World):Q9 w:=q9 w
theorem r9 (w:World)(os:OsState):segRun treeTable pw w 28 an 1 665 (S8 w os).abs (piecesOf st9 env cE ⟨20,0,20,52⟩ B)=some (.next,(S9 w os).abs,cE,⟨21,0,219,16⟩):=segRun_of (p9 w os)
noncomputable def fk:List Stmt:=[aD pw.main.body 16,aD pw.main.body 17,aD pw.main.body 18,aD pw.main.body 19]
def Q10 (w:World):Prop:=∀os,segRunT treeTable pw w 28 an 1 104 (S9 w os) (piecesOf fk env cE ⟨21,0,219,16⟩ B)=some (.next,S10 w os,cE,⟨229,0,265,15⟩)
theorem q10 (w:World):Q10 (w):=by
 unfold Q10;rewrite[tA,tF];intro os;kernel_rfl
theorem p10 (w:World):Q10 w:=q10 w
theorem r10 (w:World)(os:OsState):segRun treeTable pw w 28 an 1 104 (S9 w os).abs (piecesOf fk env cE ⟨21,0,219,16⟩ B)=some (.next,(S10 w os).abs,cE,⟨229,0,265,15⟩):=segRun_of (p10 w os)
theorem fin (w:World)(os:OsState):topRun treeTable pw w 28 an 2 (S10 w os).abs (restOf [] env cE ⟨229,0,265,15⟩ B)=some (Sf w os):=by
 rewrite[tE,tF];kernel_rfl
theorem k10 (w:World)(os:OsState):topRun treeTable pw w 28 an (104+2) (S9 w os).abs (restOf (fk++[]) env cE ⟨21,0,219,16⟩ B)=some (Sf w os):=piece_app (r10 w os) (fin w os)
theorem k9 (w:World)(os:OsState):topRun treeTable pw w 28 an (665+(104+2)) (S8 w os).abs (restOf (st9++(fk++[])) env cE ⟨20,0,20,52⟩ B)=some (Sf w os):=piece_app (r9 w os) (k10 w os)
theorem k8 (w:World)(os:OsState):topRun treeTable pw w 28 an (522+(665+(104+2))) (S7 w os).abs (restOf (st8++(st9++(fk++[]))) env cE ⟨19,0,19,49⟩ B)=some (Sf w os):=piece_app (r8 w os) (k9 w os)
theorem k7 (w:World)(os:OsState):topRun treeTable pw w 28 an (367+(522+(665+(104+2)))) (S6 w os).abs (restOf (st7++(st8++(st9++(fk++[])))) env cE ⟨18,0,18,49⟩ B)=some (Sf w os):=piece_app (r7 w os) (k8 w os)
theorem k6 (w:World)(os:OsState):topRun treeTable pw w 28 an (367+(367+(522+(665+(104+2))))) (S5 w os).abs (restOf (st6++(st7++(st8++(st9++(fk++[]))))) env cE ⟨17,0,17,5⟩ B)=some (Sf w os):=piece_app (r6 w os) (k7 w os)
theorem k5 (w:World)(os:OsState):topRun treeTable pw w 28 an ((113+(1000+(1000+(1000+(1000+1143)))))+(367+(367+(522+(665+(104+2)))))) (S4 w os).abs (restOf (st5++(st6++(st7++(st8++(st9++(fk++[])))))) env cE ⟨13,0,16,18⟩ B)=some (Sf w os):=piece_app (r5 w os) (k6 w os)
theorem k4 (w:World)(os:OsState):topRun treeTable pw w 28 an (226+((113+(1000+(1000+(1000+(1000+1143)))))+(367+(367+(522+(665+(104+2))))))) (S3 w os).abs (restOf (st4++(st5++(st6++(st7++(st8++(st9++(fk++[]))))))) env cE ⟨12,0,12,16⟩ B)=some (Sf w os):=piece_app (r4 w os) (k5 w os)
theorem k3 (w:World)(os:OsState):topRun treeTable pw w 28 an (233+(226+((113+(1000+(1000+(1000+(1000+1143)))))+(367+(367+(522+(665+(104+2)))))))) (S2 w os).abs (restOf (st3++(st4++(st5++(st6++(st7++(st8++(st9++(fk++[])))))))) env cE ⟨8,0,8,10⟩ B)=some (Sf w os):=piece_app (r3 w os) (k4 w os)
theorem k2 (w:World)(os:OsState):topRun treeTable pw w 28 an (392+(233+(226+((113+(1000+(1000+(1000+(1000+1143)))))+(367+(367+(522+(665+(104+2))))))))) (S1 w os).abs (restOf (st2++(st3++(st4++(st5++(st6++(st7++(st8++(st9++(fk++[]))))))))) env cE ⟨6,0,6,10⟩ B)=some (Sf w os):=piece_app (r2 w os) (k3 w os)
theorem k1 (w:World)(os:OsState):topRun treeTable pw w 28 an (126+(392+(233+(226+((113+(1000+(1000+(1000+(1000+1143)))))+(367+(367+(522+(665+(104+2)))))))))) (S0 w os).abs (restOf (st1++(st2++(st3++(st4++(st5++(st6++(st7++(st8++(st9++(fk++[])))))))))) env cE ⟨0,0,0,0⟩ B)=some (Sf w os):=piece_app (r1 w os) (k2 w os)
theorem all:(st1++(st2++(st3++(st4++(st5++(st6++(st7++(st8++(st9++(fk++[]))))))))))=bE:=by kernel_rfl
theorem kb (w:World)(os:OsState):topRun treeTable pw w 28 an (1+(126+(392+(233+(226+((113+(1000+(1000+(1000+(1000+1143)))))+(367+(367+(522+(665+(104+2))))))))))) (Sa w os) ⟨denote treeTable cE,cE,⟨0,0,0,0⟩,B⟩=some (Sf w os):=piece_block (b:=bE) (env:=env) (blk w os) (by rw[←all];exact k1 w os)
theorem run (w:World)(os:OsState):topRun treeTable pw w 28 an (12+(1+(126+(392+(233+(226+((113+(1000+(1000+(1000+(1000+1143)))))+(367+(367+(522+(665+(104+2)))))))))))) (Z w os) (topStub pw)=some (Sf w os):=go_top (pre w os) (kb w os)
theorem opn (w:World):importEnds treeTable (opening pw) w 799 (start (opening pw)).1 (start (opening pw)).2=some ⟨hSe w.params,Array.mk [],⟨0,0,0,0⟩,276,(start (opening pw)).1.os⟩:=by
 rewrite[tB,tF];kernel_rfl
theorem xJ (w:World):(fun os=>(fenceModules? pw ⟨hSe w.params,Array.mk [],⟨0,0,0,0⟩,276,os⟩).map (fun s=>(s.heap,s.gens,s.drawn,s.toks)))=fun _=>some (hSz w.params,Array.mk [],⟨0,0,0,0⟩,276):=by kernel_rfl
noncomputable def view:Program:={pw with main:={pw.main with body:=[aD pw.main.body 0,aD pw.main.body 1,aD pw.main.body 3,aD pw.main.body 4,aD pw.main.body 5,aD pw.main.body 6,aD pw.main.body 7,aD pw.main.body 8,aD pw.main.body 9,aD pw.main.body 10,aD pw.main.body 11,aD pw.main.body 15,aD pw.main.body 17,aD pw.main.body 18,aD pw.main.body 19]}}
noncomputable def loose:List PySem.Str:=[Str.ofString "_twin_re_2",Str.ofString "_twin_re_3",Str.ofString "_twin_re_6",Str.ofString "C_NONE",Str.ofString "C_BACKSLASH",Str.ofString "C_STRING_FIRST_LINE",Str.ofString "C_STRING_NEXT_LINES",Str.ofString "C_BRACKET",Str.ofString "_junkre",Str.ofString "_match_stringre",Str.ofString "_chew_ordinaryre",Str.ofString "trans"]
noncomputable def lv:List (PySem.Str×WData):=[(Str.ofString "C_NONE",.int 0),(Str.ofString "C_BACKSLASH",.int 1),(Str.ofString "C_STRING_FIRST_LINE",.int 2),(Str.ofString "C_STRING_NEXT_LINES",.int 3),(Str.ofString "C_BRACKET",.int 4)]
noncomputable def K (P:Params):Frag:=[(3,o187 P),(32,o7),(33,o8),(34,o32),(35,o7),(36,o33),(37,o34),(38,o35),(42,o38),(43,o39),(47,o42),(48,o43),(52,o45),(53,o46),(58,o51),(59,o52),(60,o53),(61,o56),(68,o7),(69,o8),(70,o62),(71,o7),(72,o63),(73,o64),(74,o65),(75,o7),(76,o66 P),(77,o67),(78,o68),(79,o69),(84,o6),(85,o104),(143,o7),(144,o8),(145,o124),(146,o7),(147,o125),(148,o126),(149,o127),(150,o7),(151,o8),(152,o128),(153,o7),(154,o129),(155,o130),(156,o131),(157,o7),(158,o8),(159,o132),(160,o7),(161,o133),(162,o134),(163,o135),(164,o7),(165,o8),(166,o136),(167,o7),(168,o137),(169,o138),(170,o139),(171,o7),(172,o8),(173,o140),(174,o7),(175,o141),(176,o142),(177,o143),(178,o7),(179,o8),(180,o144),(181,o7),(182,o145),(183,o146),(184,o147),(185,o7),(186,o8),(187,o148),(188,o7),(189,o149),(190,o150),(191,o151),(192,o7),(193,o8),(194,o152),(195,o7),(196,o153),(197,o154),(198,o155),(199,o7),(200,o8),(201,o156),(202,o7),(203,o157),(204,o158),(205,o159),(206,o7),(207,o8),(208,o160),(209,o7),(210,o161),(211,o162),(212,o163),(213,o7),(214,o8),(215,o164),(216,o7),(217,o165),(218,o166),(219,o167),(220,o7),(221,o8),(222,o168),(223,o7),(224,o169),(225,o170),(226,o171),(227,o7),(228,o8),(229,o172),(230,o7),(231,o173),(232,o174),(233,o175),(234,o7),(235,o8),(236,o176),(237,o7),(238,o177),(239,o178),(240,o179),(241,o180),(242,o181 P),(243,o182),(244,o183),(245,o184),(248,o7),(249,o8),(250,o189),(251,o7),(252,o190),(253,o191),(254,o192),(255,o7),(256,o8),(257,o193),(258,o194),(259,o195),(260,o7),(261,o8),(262,o196),(263,o7),(264,o197),(265,o198),(266,o199)]
noncomputable def as_:List Addr:=[3,32,33,34,35,36,37,38,42,43,47,48,52,53,58,59,60,61,68,69,70,71,72,73,74,75,76,77,78,79,84,85,143,144,145,146,147,148,149,150,151,152,153,154,155,156,157,158,159,160,161,162,163,164,165,166,167,168,169,170,171,172,173,174,175,176,177,178,179,180,181,182,183,184,185,186,187,188,189,190,191,192,193,194,195,196,197,198,199,200,201,202,203,204,205,206,207,208,209,210,211,212,213,214,215,216,217,218,219,220,221,222,223,224,225,226,227,228,229,230,231,232,233,234,235,236,237,238,239,240,241,242,243,244,245,248,249,250,251,252,253,254,255,256,257,258,259,260,261,262,263,264,265,266]
noncomputable def H:Hook:=kHook K as_ (fun _=>by kernel_rfl)
noncomputable def Xt (s:Shared):Bool:=xlAt view lv s&&recOk (RowW.records (OpenRow.toRowW (OpenLaw.row PySem.Challenge.rw_dm0168_04))) s
end Mine.H4
end
section
namespace Mine.H4
open PySem PySem.W PySem.Calls PyProof.Rows
theorem size (w:World):((hSz w.params).isNs mainGlobals&&(Array.mk []:Array GenState).size==0,(hSz w.params).objs.size,(hSz w.params).nsMap mainGlobals "__annotations__")=(true,28,an):=by kernel_rfl
theorem lk1 (w:World)(os:OsState):(staticsOk (importedModules pw.main.body) (hSz w.params) (hSf w.params)&&namesBound pw (hSf w.params)&&gensDone (Sf w os)&&laidKept (hSz w.params) (hSf w.params))=true:=by kernel_rfl
theorem lk3 (w:World)(os:OsState):H.obs (Sf w os)=H.val w:=by kernel_rfl
theorem lk2 (w:World)(os:OsState):openSeen view loose (importedModules pw.main.body) Xt false (Sf w os)=openGood view loose:=by
 unfold openSeen openGood
 refine looks_pair ?_ (looks_pair ?_ (looks_pair ?_ (looks_pair ?_ (looks_pair ?_ (looks_pair ?_ (looks_pair ?_ (looks_pair ?_ ?_)))))))
 all_goals kernel_rfl
theorem hl:LeftO pw view loose Xt H.obs H.val 16622 false:=
 LeftO.of_pieces (H₀:=hSz) (H₁:=hSf) (gs₀:=Array.mk []) (gs₁:=Array.mk [.finished,.finished,.finished]) (d₀:=⟨0,0,0,0⟩) (d₁:=⟨0,0,0,0⟩) (k₀:=276) (k₁:=1237)
  (open_cut opn rfl xJ) size run rfl (fun w=>funext fun os=>looks_pair (lk1 w os) (looks_pair (lk2 w os) (lk3 w os)))
end Mine.H4
end
section
namespace Mine.Om
inductive E|n (k:Nat)|v (i:Nat)|a (x y:E)|s (x:E)|m (k:Nat)(x:E)
noncomputable def at':List Nat→Nat→Nat
 | [],_=>0
 |x::_,0=>x
 |_::c,i+1=>at' c i
noncomputable def E.d (c:List Nat):E→Nat
 | .n k=>k
 | .v i=>at' c i
 | .a x y=>x.d c+y.d c
 | .s x=>x.d c+1
 | .m k x=>k*x.d c
noncomputable def ev:List Nat→List Nat→Nat
 |k::p,x::c=>k*x+ev p c
 |_,_=>0
noncomputable def add:List Nat→List Nat→List Nat
 | [],q=>q
 |a::p,[]=>a::p
 |a::p,b::q=>(a+b)::add p q
noncomputable def mul (k:Nat):List Nat→List Nat
 | []=>[]
 |a::p=>k*a::mul k p
noncomputable def vr:Nat→List Nat
 |0=>[1]
 |i+1=>0::vr i
noncomputable def E.f:E→List Nat
 | .n k=>[k]
 | .v i=>0::vr i
 | .a x y=>add x.f y.f
 | .s x=>add x.f [1]
 | .m k x=>mul k x.f
noncomputable def le:List Nat→List Nat→Bool
 | [],_=>true
 |a::p,[]=>Nat.ble a 0&&le p []
 |a::p,b::q=>Nat.ble a b&&le p q
theorem dI:∀c,ev [] c=0
 | []=>rfl
 |_::_=>rfl
theorem mC:∀p q c,ev (add p q) c=ev p c+ev q c
 | [],q,c=>((congrArg (·+ev q c) (dI c)).trans (Nat.zero_add _)).symm
 |a::p,[],c=>(congrArg (ev (a::p) c+·) (dI c)).symm
 |a::p,b::q,[]=>rfl
 |a::p,b::q,x::c=>(congr (congrArg _ (Nat.add_mul a b x)) (mC p q c)).trans (Nat.add_add_add_comm ..)
theorem rq (k:Nat):∀p c,ev (mul k p) c=k*ev p c
 | [],c=>(dI c).trans (congrArg (k*·) (dI c)).symm
 |a::p,[]=>rfl
 |a::p,x::c=>(congr (congrArg _ (Nat.mul_assoc k a x)) (rq k p c)).trans (Nat.mul_add ..).symm
theorem ve:∀i c,ev (vr i) c=at' c i
 |0,[]=>rfl
 |_+1,[]=>rfl
 |0,x::c=>(congr (congrArg _ (Nat.one_mul x)) (dI c)).trans (Nat.add_zero x)
 |i+1,x::c=>(congr (congrArg _ (Nat.zero_mul x)) (ve i c)).trans (Nat.zero_add _)
theorem rD (k:Nat)(c:List Nat):ev [k] (1::c)=k:=(congr (congrArg _ (Nat.mul_one k)) (dI c)).trans (Nat.add_zero k)
theorem E.eq (c:List Nat):∀e:E,ev e.f (1::c)=e.d c
 | .n k=>rD k c
 | .v i=>(ve (i+1) (1::c))
 | .a x y=>(mC ..).trans (congr (congrArg _ (E.eq c x)) (E.eq c y))
 | .s x=>(mC ..).trans (congr (congrArg _ (E.eq c x)) (rD 1 c))
 | .m k x=>(rq ..).trans (congrArg _ (E.eq c x))
theorem qC:∀p q c,le p q=true→ev p c≤ev q c
 | [],q,c,_=>(dI c).symm▸Nat.zero_le _
 |a::p,[],[],_=>Nat.le_refl _
 |a::p,b::q,[],_=>Nat.le_refl _
 |a::p,[],x::c,h=>have h:=(Bool.and_eq_true _ _).mp h;Nat.le_trans (Nat.add_le_add (Nat.mul_le_mul_right x (Nat.le_of_ble_eq_true h.1)) (qC p [] c h.2)) (Nat.le_of_eq ((congr (congrArg _ (Nat.zero_mul x)) (dI c)).trans rfl))
 |a::p,b::q,x::c,h=>have h:=(Bool.and_eq_true _ _).mp h;Nat.add_le_add (Nat.mul_le_mul_right x (Nat.le_of_ble_eq_true h.1)) (qC p q c h.2)
noncomputable def chk (L R:E):List (E×E)→Bool
 | []=>le (E.s R).f L.f
 | (l,r)::q=>chk (.a L l) (.a R r) q
noncomputable def Den (c:List Nat):List (E×E)→Prop
 | []=>False
 | (l,r)::q=>l.d c≤r.d c→Den c q
theorem go (c:List Nat):∀q L R,L.d c≤R.d c→chk L R q=true→Den c q
 | [],L,R,h,k=>absurd (Nat.le_trans (Nat.le_trans (Nat.le_of_eq (E.eq c (.s R)).symm) (qC _ _ (1::c) k)) (Nat.le_trans (Nat.le_of_eq (E.eq c L)) h)) (Nat.not_succ_le_self _)
 | (l,r)::q,L,R,h,k=>fun i=>go c q (.a L l) (.a R r) (Nat.add_le_add h i) k
theorem no (c:List Nat)(q:List (E×E))(k:chk (.n 0) (.n 0) q=true):Den c q:=go c q _ _ (Nat.le_refl _) k
inductive Z|n (k:Int)|v (i:Nat)|a (x y:Z)|s (x y:Z)|g (x:Z)|m (k:Int)(x:Z)
noncomputable def zt:List Int→Nat→Int
 | [],_=>0
 |x::_,0=>x
 |_::c,i+1=>zt c i
noncomputable def Z.d (c:List Int):Z→Int
 | .n k=>k
 | .v i=>zt c i
 | .a x y=>x.d c+y.d c
 | .s x y=>x.d c-y.d c
 | .g x=>-x.d c
 | .m k x=>k*x.d c
noncomputable def zv:List Int→List Int→Int
 |k::p,x::c=>k*x+zv p c
 |_,_=>0
noncomputable def sT:List Int→List Int→List Int
 | [],q=>q
 |a::p,[]=>a::p
 |a::p,b::q=>(a+b)::sT p q
noncomputable def pb (k:Int):List Int→List Int
 | []=>[]
 |a::p=>k*a::pb k p
noncomputable def zr:Nat→List Int
 |0=>[1]
 |i+1=>0::zr i
noncomputable def Z.f:Z→List Int
 | .n k=>[k]
 | .v i=>0::zr i
 | .a x y=>sT x.f y.f
 | .s x y=>sT x.f (pb (-1) y.f)
 | .g x=>pb (-1) x.f
 | .m k x=>pb k x.f
theorem eB:∀c,zv [] c=0
 | []=>rfl
 |_::_=>rfl
theorem mm:∀p q c,zv (sT p q) c=zv p c+zv q c
 | [],q,c=>((congrArg (·+zv q c) (eB c)).trans (Int.zero_add _)).symm
 |a::p,[],c=>((congrArg (zv (a::p) c+·) (eB c)).trans (Int.add_zero _)).symm
 |a::p,b::q,[]=>rfl
 |a::p,b::q,x::c=>(congr (congrArg _ (Int.add_mul a b x)) (mm p q c)).trans ((Int.add_assoc ..).trans ((congrArg _ (Int.add_left_comm ..)).trans (Int.add_assoc ..).symm))
theorem mK (k:Int):∀p c,zv (pb k p) c=k*zv p c
 | [],c=>(eB c).trans ((congrArg (k*·) (eB c)).trans (Int.mul_zero k)).symm
 |a::p,[]=>(Int.mul_zero k).symm
 |a::p,x::c=>(congr (congrArg _ (Int.mul_assoc k a x)) (mK k p c)).trans (Int.mul_add ..).symm
theorem u5:∀i c,zv (zr i) c=zt c i
 |0,[]=>rfl
 |_+1,[]=>rfl
 |0,x::c=>(congr (congrArg _ (Int.one_mul x)) (eB c)).trans (Int.add_zero x)
 |i+1,x::c=>(congr (congrArg _ (Int.zero_mul x)) (u5 i c)).trans (Int.zero_add _)
theorem wT (k:Int)(c:List Int):zv [k] (1::c)=k:=(congr (congrArg _ (Int.mul_one k)) (eB c)).trans (Int.add_zero k)
theorem rm (p c:List Int):zv (pb (-1) p) c=-zv p c:=(mK ..).trans (Int.neg_one_mul _)
theorem Z.eq (c:List Int):∀e:Z,zv e.f (1::c)=e.d c
 | .n k=>wT k c
 | .v i=>(congr (congrArg _ (Int.zero_mul 1)) (u5 i c)).trans (Int.zero_add _)
 | .a x y=>(mm ..).trans (congr (congrArg _ (Z.eq c x)) (Z.eq c y))
 | .s x y=>(mm ..).trans ((congr (congrArg (·+·) (Z.eq c x)) ((rm ..).trans (congrArg (- ·) (Z.eq c y)))).trans Int.sub_eq_add_neg.symm)
 | .g x=>(rm ..).trans (congrArg (- ·) (Z.eq c x))
 | .m k x=>(mK ..).trans (congrArg _ (Z.eq c x))
noncomputable def zer:List Int→Bool
 | []=>true
 | .ofNat 0::p=>zer p
 |_=>false
theorem rY:∀p c,zer p=true→zv p c=0
 | [],c,_=>eB c
 | .ofNat 0::p,[],_=>rfl
 | .ofNat 0::p,x::c,h=>(congr (congrArg _ (Int.zero_mul x)) (rY p c h)).trans rfl
noncomputable def yr:List Int→Bool
 | .ofNat (_+1)::p=>zer p
 |_=>false
theorem sN:∀p c,yr p=true→0<zv p (1::c)
 | .ofNat (n+1)::p,c,h=>Int.lt_of_lt_of_le (Int.ofNat_succ_pos n) (Int.le_of_eq ((congr (congrArg _ (Int.mul_one _)) (rY p c h)).trans (Int.add_zero _)).symm)
noncomputable def w6 (L R:Z):List (Z×Z)→Bool
 | []=>yr (Z.s L R).f
 | (l,r)::q=>w6 (.a L l) (.a R r) q
noncomputable def w5 (c:List Int):List (Z×Z)→Prop
 | []=>False
 | (l,r)::q=>l.d c≤r.d c→w5 c q
theorem zgo (c:List Int):∀q L R,L.d c≤R.d c→w6 L R q=true→w5 c q
 | [],L,R,h,k=>absurd (Int.sub_nonpos_of_le h) (Int.not_le.mpr (Int.lt_of_lt_of_le (sN _ c k) (Int.le_of_eq (Z.eq c (.s L R)))))
 | (l,r)::q,L,R,h,k=>fun i=>zgo c q (.a L l) (.a R r) (Int.add_le_add h i) k
theorem nz (c:List Int)(q:List (Z×Z))(k:w6 (.n 0) (.n 0) q=true):w5 c q:=zgo c q _ _ (Int.le_refl _) k
theorem zl {m n:Nat}(h:m≤n):(m:Int)≤n:=Int.ofNat_le.mpr h
theorem nl {a b:Nat}(h:¬b<a):a≤b:=Nat.le_of_not_lt h
theorem nt {a b:Nat}(h:¬b≤a):a<b:=Nat.lt_of_not_le h
theorem le' {a b:Nat}(h:a=b):a≤b:=Nat.le_of_eq h
theorem sl (a b:Nat):a-b≤a:=Nat.sub_le a b
theorem sb (a b:Nat):a≤(a-b)+b:=Nat.sub_le_iff_le_add.mp (Nat.le_refl (a-b))
theorem sc {a b:Nat}(h:b≤a):a-b+b≤a:=Nat.le_of_eq (Nat.sub_add_cancel h)
theorem ne {a b:Nat}(h:¬a=b):a<b∨b<a:=Nat.lt_or_gt_of_ne h
theorem to (a b:Nat):a≤b∨b≤a:=Nat.le_total a b
theorem sz {a b:Nat}(h:a≤b):a-b=0:=Nat.sub_eq_zero_of_le h
theorem an {a b:Nat}(h:a≤b)(k:b≤a):a=b:=Nat.le_antisymm h k
theorem il {a b:Int}(h:¬b<a):a≤b:=Int.not_lt.mp h
theorem it {a b:Int}(h:¬b≤a):a<b:=Int.not_le.mp h
theorem nn (a:Nat):0≤(a:Int):=Int.natCast_nonneg a
theorem tn {a:Int}(h:0≤a):(a.toNat:Int)≤a:=Int.le_of_eq (Int.toNat_of_nonneg h)
theorem st (a:Int):a≤(a.toNat:Int):=Int.self_le_toNat a
noncomputable def v0:E:=.v 0
noncomputable def w0:Z:=.v 0
noncomputable def v1:E:=.v 1
noncomputable def w1:Z:=.v 1
noncomputable def v2:E:=.v 2
noncomputable def w2:Z:=.v 2
noncomputable def v3:E:=.v 3
noncomputable def w3:Z:=.v 3
noncomputable def v4:E:=.v 4
noncomputable def w4:Z:=.v 4
noncomputable def v5:E:=.v 5
noncomputable def v6:E:=.v 6
noncomputable def v7:E:=.v 7
end Mine.Om
end
section
namespace Mine.Om
section
variable {a b c d e f g i j k l m n:Nat}
theorem o0:a≤b→c≤d→e+(a+c)≤e+(b+d):=fun h0 h1=>nl fun h=>no [a,b,c,d,e] [(v0,v1),(v2,v3),(.s (.a v4 (.a v1 v3)),.a v4 (.a v0 v2))] rfl h0 h1 h
theorem o1:a≤1048576→a≤16777216:=fun h0=>nl fun h=>no [a] [(v0,.n 1048576),(.s (.n 16777216),v0)] rfl h0 h
theorem o2 {a:Int}:¬a<0→0≤a:=fun h0=>il fun h=>nz [a] [(.n 0,w0),(.a w0 (.n 1),.n 0)] rfl (il h0) h
theorem o3:a+b<c→a<c:=fun h0=>nt fun h=>no [a,b,c] [(.s (.a v0 v1),v2),(v2,v0)] rfl h0 h
theorem o4:a+10*b+200<c→a+64<c:=fun h0=>nt fun h=>no [a,b,c] [(.s (.a (.a v0 (.m 10 v1)) (.n 200)),v2),(v2,.a v0 (.n 64))] rfl h0 h
theorem o5:a≤b→c+10*b+200<d→c+10*a+200<d:=fun h0 h1=>nt fun h=>no [a,b,c,d] [(.m 10 v0,.m 10 v1),(.s (.a (.a v2 (.m 10 v1)) (.n 200)),v3),(v3,.a (.a v2 (.m 10 v0)) (.n 200))] rfl (Nat.mul_le_mul_left 10 h0) h1 h
theorem o6:a≤b→c+b<d→c+a<d:=fun h0 h1=>nt fun h=>no [a,b,c,d] [(v0,v1),(.s (.a v2 v1),v3),(v3,.a v2 v0)] rfl h0 h1 h
theorem o7:a+10*(b+1)+200<c→a+3+10*b+200<c:=fun h0=>nt fun h=>no [a,b,c] [(.s (.a (.a v0 (.m 10 (.s v1))) (.n 200)),v2),(v2,.a (.a (.a v0 (.n 3)) (.m 10 v1)) (.n 200))] rfl h0 h
theorem o8:a+(b+1)<c→a+1+b<c:=fun h0=>nt fun h=>no [a,b,c] [(.s (.a v0 (.s v1)),v2),(v2,.a (.s v0) v1)] rfl h0 h
theorem o9:a≤b→¬a<b→a=b:=fun h0 h1=>an (nl fun h=>no [a,b] [(v0,v1),(.s v1,v0)] rfl h0 h) (nl fun h=>no [a,b] [(v1,v0),(.s v0,v1)] rfl (nl h1) h)
theorem o10:a<b→b+1-(a+1)<b+1-a:=fun h0=>nt fun h=>no [a,b,((b+1)-a),((b+1)-(a+1))] [(v2,v3),(.s v1,.a v2 v0),(.a v3 (.s v0),.s v1)] rfl h (sb (b+1) a) (sc (nl fun u=>no [a,b,((b+1)-a),((b+1)-(a+1))] [(.s v0,v1),(.s (.s v1),.s v0)] rfl h0 u))
theorem o11:a≤b→a+1≤b+1:=fun h0=>nl fun h=>no [a,b] [(v0,v1),(.s (.s v1),.s v0)] rfl h0 h
theorem o12:a≤b→c≤d→d<a→c≤b:=fun h0 h1 h2=>nl fun h=>no [a,b,c,d] [(v0,v1),(v2,v3),(.s v3,v0),(.s v1,v2)] rfl h0 h1 h2 h
theorem o13:a≤b→a≤b+1:=fun h0=>nl fun h=>no [a,b] [(v0,v1),(.s (.s v1),v0)] rfl h0 h
theorem o14:a=b→a≤b:=fun h0=>nl fun h=>no [a,b] [(v0,v1),(.s v1,v0)] rfl (le' h0) h
theorem o15:a=b+c→b≤a:=fun h0=>nl fun h=>no [a,b,c] [(.a v1 v2,v0),(.s v0,v1)] rfl (le' h0.symm) h
theorem o16:a<128→¬1114111<(↑a:Int):=fun h0=>fun h=>nz [↑a] [(.a w0 (.n 1),.n 128),(.a (.n 1114111) (.n 1),w0)] rfl (zl h0) h
theorem o17:¬(↑a:Int)<0:=fun h=>nz [↑a] [(.a w0 (.n 1),.n 0),(.n 0,w0)] rfl h (nn a)
theorem o18 {a:Int}{b:Nat}:a≤(↑b:Int)→Min.min (Int.toNat a) b=Int.toNat a:=fun h=>Nat.min_eq_left (Int.toNat_le.mpr h)
theorem o19 {a:Int}:0≤a→Max.max 0 a=a:=Int.max_eq_right
theorem o20 {a:Int}:0≤a→¬a<0:=fun h0=>fun h=>nz [a] [(.n 0,w0),(.a w0 (.n 1),.n 0)] rfl h0 h
theorem o21:1≤a+1+1:=nl fun h=>no [a] [(.s (.s (.s v0)),.n 1)] rfl h
theorem o22:a+10*(b+1)+200<c→a+1+10*b+200<c:=fun h0=>nt fun h=>no [a,b,c] [(.s (.a (.a v0 (.m 10 (.s v1))) (.n 200)),v2),(v2,.a (.a (.s v0) (.m 10 v1)) (.n 200))] rfl h0 h
theorem o23:a+1+b=a+(b+1):=an (nl fun h=>no [a,b] [(.s (.a v0 (.s v1)),.a (.s v0) v1)] rfl h) (nl fun h=>no [a,b] [(.s (.a (.s v0) v1),.a v0 (.s v1))] rfl h)
theorem o24:0<a→¬a-1=a:=fun h0=>fun h=>no [a,(a-1)] [(v0,v1),(.s v1,v0)] rfl (le' h.symm) (sc (nl fun u=>no [a,(a-1)] [(.s (.n 0),v0),(.s v0,.n 1)] rfl h0 u))
theorem o25:0<a→a-1<a:=fun h0=>nt fun h=>no [a,(a-1)] [(v0,v1),(.s v1,v0)] rfl h (sc (nl fun u=>no [a,(a-1)] [(.s (.n 0),v0),(.s v0,.n 1)] rfl h0 u))
theorem o26:Int.toNat (-1+(↑a:Int))=a-1:=by rw[Int.add_comm];exact Int.toNat_sub a 1
theorem o27:-1+(↑a:Int)<(↑a:Int):=it fun h=>nz [↑a] [(w0,.a (.g (.n 1)) w0)] rfl h
theorem o28:0<a→0≤-1+(↑a:Int):=fun h0=>il fun h=>nz [↑a] [(.a (.n 0) (.n 1),w0),(.a (.a (.g (.n 1)) w0) (.n 1),.n 0)] rfl (zl h0) h
theorem o29:a<b→b<a→False:=fun h0 h1=>no [a,b] [(.s v0,v1),(.s v1,v0)] rfl h0 h1
theorem o30:a<a→False:=fun h0=>no [a] [(.s v0,v0)] rfl h0
theorem o31:a≤b→b<c→a≤c∧c<a+(d+1-a)→a≤b∧b<a+(d+1-a):=fun h0 h1 h2=>⟨nl fun h=>no [a,b,c,d,((d+1)-a)] [(v0,v1),(.s v1,v0)] rfl h0 h,nt fun h=>no [a,b,c,d,((d+1)-a)] [(.s v1,v2),(.s v2,.a v0 v4),(.a v0 v4,v1)] rfl h1 h2.2 h⟩
theorem o32:a≤b→b<c→a≤b∧b<a+(c+1-a):=fun h0 h1=>⟨nl fun h=>no [a,b,c] [(v0,v1),(.s v1,v0)] rfl h0 h,nt fun h=>no [a,b,c,((c+1)-a)] [(.s v1,v2),(.a v0 v3,v1),(.s v2,.a v3 v0)] rfl h1 h (sb (c+1) a)⟩
theorem o33:a≤b∧b<a+(c+1-a)→a≤b:=fun h0=>nl fun h=>no [a,b,c,((c+1)-a)] [(v0,v1),(.s v1,v0)] rfl h0.1 h
theorem o34:Int.toNat (max 0 (↑a:Int))=a:=congrArg Int.toNat (Int.max_eq_right (Int.natCast_nonneg a))
theorem o35:¬a≤b→b-c≤a-c:=fun h0=>nl fun h=>(to a c).elim (fun u=>(to b c).elim (fun uv=>no [a,b,c,(a-c),(b-c)] [(.s v3,v4),(v4,.n 0)] rfl h (le' (sz uv))) (fun uv=>no [a,b,c,(a-c),(b-c)] [(.s v1,v0),(v0,v2),(v2,v1)] rfl (nt h0) u uv)) (fun u=>(to b c).elim (fun uv=>no [a,b,c,(a-c),(b-c)] [(.s v3,v4),(v4,.n 0)] rfl h (le' (sz uv))) (fun uv=>no [a,b,c,(a-c),(b-c)] [(.s v1,v0),(.s v3,v4),(v0,.a v3 v2),(.a v4 v2,v1)] rfl (nt h0) h (sb a c) (sc (nl fun uvv=>no [a,b,c,(a-c),(b-c)] [(v2,v1),(.s v1,v2)] rfl uv uvv))))
theorem o36:a-b≤a-b:=nl fun h=>no [a,b,(a-b)] [(.s v2,v2)] rfl h
theorem o37:¬a≤b→max 0 (min (↑a:Int) (↑b:Int))=max 0 (min (↑b:Int) (↑b:Int)):=fun h=>congrArg (max 0) ((Int.min_eq_right (Int.ofNat_le.mpr (Nat.le_of_not_le h))).trans (Int.min_self _).symm)
theorem o38:0<a→0≤-1+(↑a:Int)∧-1+(↑a:Int)<(↑a:Int):=fun h0=>⟨il fun h=>nz [↑a] [(.a (.n 0) (.n 1),w0),(.a (.a (.g (.n 1)) w0) (.n 1),.n 0)] rfl (zl h0) h,it fun h=>nz [↑a] [(w0,.a (.g (.n 1)) w0)] rfl h⟩
theorem o39:a<b→a<b:=fun h0=>nt fun h=>no [a,b] [(.s v0,v1),(v1,v0)] rfl h0 h
theorem o40:a=b+1→¬(↑a:Int)-1=(↑b:Int)→False:=fun h0 h1=>(Int.lt_or_gt_of_ne h1).elim (fun u=>nz [↑a,↑b] [(.a w1 (.n 1),w0),(.a (.s w0 (.n 1)) (.n 1),w1)] rfl (zl (le' h0.symm)) u) (fun u=>nz [↑a,↑b] [(w0,.a w1 (.n 1)),(.a w1 (.n 1),.s w0 (.n 1))] rfl (zl (le' h0)) u)
theorem o41:(↑a:Int)-1=(↑b:Int)→a=b+1:=fun h0=>Nat.le_antisymm (nl fun h=>nz [↑a,↑b] [(.s w0 (.n 1),w1),(.a (.a w1 (.n 1)) (.n 1),w0)] rfl (Int.le_of_eq h0) (zl h)) (nl fun h=>nz [↑a,↑b] [(w1,.s w0 (.n 1)),(.a w0 (.n 1),.a w1 (.n 1))] rfl (Int.le_of_eq h0.symm) (zl h))
theorem o42:¬(↑a:Int)<(↑b:Int)→a≤b→a=b:=fun h0 h1=>Nat.le_antisymm (nl fun h=>nz [↑b,↑a] [(w1,w0),(.a w0 (.n 1),w1)] rfl (zl h1) (zl h)) (nl fun h=>nz [↑b,↑a] [(w0,w1),(.a w1 (.n 1),w0)] rfl (il h0) (zl h))
theorem o43:a<a+1:=nt fun h=>no [a] [(.s v0,v0)] rfl h
theorem o44:a<a+2:=nt fun h=>no [a] [(.a v0 (.n 2),v0)] rfl h
theorem o45:a+1<b→(↑a:Int)+1<(↑b:Int):=fun h0=>it fun h=>nz [↑a,↑b] [(.a (.a w0 (.n 1)) (.n 1),w1),(w1,.a w0 (.n 1))] rfl (zl h0) h
theorem o46:-(↑a:Int)≤(↑b:Int)+1:=il fun h=>nz [↑b,↑a] [(.a (.a w0 (.n 1)) (.n 1),.g w1),(.n 0,w0),(.n 0,w1)] rfl h (nn b) (nn a)
theorem o47:a<b→b≤a+1→a+1=b:=fun h0 h1=>an (nl fun h=>no [a,b] [(.s v0,v1),(.s v1,.s v0)] rfl h0 h) (nl fun h=>no [a,b] [(v1,.s v0),(.s (.s v0),v1)] rfl h1 h)
theorem o48:¬(↑a:Int)=0→¬a=0:=fun h0=>fun h=>(Int.lt_or_gt_of_ne h0).elim (fun u=>nz [↑a] [(.n 0,w0),(.a w0 (.n 1),.n 0)] rfl (zl (le' h.symm)) u) (fun u=>nz [↑a] [(w0,.n 0),(.a (.n 0) (.n 1),w0)] rfl (zl (le' h)) u)
theorem o49:(↑a:Int)=0→a=0:=fun h0=>Nat.le_antisymm (nl fun h=>nz [↑a] [(w0,.n 0),(.a (.n 0) (.n 1),w0)] rfl (Int.le_of_eq h0) (zl h)) (nl fun h=>nz [↑a] [(.n 0,w0),(.a w0 (.n 1),.n 0)] rfl (Int.le_of_eq h0.symm) (zl h))
theorem o50:a≤b→a≤b+3:=fun h0=>nl fun h=>no [a,b] [(v0,v1),(.s (.a v1 (.n 3)),v0)] rfl h0 h
theorem o51:a=120→¬a=92:=fun h0=>fun h=>no [a] [(.n 120,v0),(v0,.n 92)] rfl (le' h0.symm) (le' h)
theorem o52:a=120→¬a=10:=fun h0=>fun h=>no [a] [(.n 120,v0),(v0,.n 10)] rfl (le' h0.symm) (le' h)
theorem o53:a<b→(↑a:Int)<(↑b:Int):=fun h0=>it fun h=>nz [↑a,↑b] [(.a w0 (.n 1),w1),(w1,w0)] rfl (zl h0) h
theorem o54:-(↑a:Int)≤(↑b:Int):=il fun h=>nz [↑b,↑a] [(.a w0 (.n 1),.g w1),(.n 0,w0),(.n 0,w1)] rfl h (nn b) (nn a)
theorem o55:a+1+b-a=b+1:=an (nl fun h=>no [a,b,(((a+1)+b)-a)] [(.s (.s v1),v2),(.a v2 v0,.a (.s v0) v1)] rfl h (sc (nl fun u=>no [a,b,(((a+1)+b)-a)] [(.s (.a (.s v0) v1),v0)] rfl u))) (nl fun h=>no [a,b,(((a+1)+b)-a)] [(.s v2,.s v1),(.a (.s v0) v1,.a v2 v0)] rfl h (sb ((a+1)+b) a))
theorem o56:(↑a:Int)+1+(↑b:Int)=(↑(a+1+b):Int):=Int.le_antisymm (il fun h=>nz [↑a,↑b] [(.a (.a (.a w0 (.n 1)) w1) (.n 1),.a (.a w0 (.n 1)) w1)] rfl h) (il fun h=>nz [↑a,↑b] [(.a (.a (.a w0 (.n 1)) w1) (.n 1),.a (.a w0 (.n 1)) w1)] rfl h)
theorem o57:(↑a:Int)+1-1=(↑a:Int):=Int.le_antisymm (il fun h=>nz [↑a] [(.a w0 (.n 1),.s (.a w0 (.n 1)) (.n 1))] rfl h) (il fun h=>nz [↑a] [(.a (.s (.a w0 (.n 1)) (.n 1)) (.n 1),w0)] rfl h)
theorem o58:a<b→a≤b:=fun h0=>nl fun h=>no [a,b] [(.s v0,v1),(.s v1,v0)] rfl h0 h
theorem o59:a≤a+1+b:=nl fun h=>no [a,b] [(.s (.a (.s v0) v1),v0)] rfl h
theorem o60:a≤b→b<c→a≤c:=fun h0 h1=>nl fun h=>no [a,b,c] [(v0,v1),(.s v1,v2),(.s v2,v0)] rfl h0 h1 h
theorem o61:a<b→b≤c→c-b<c-a:=fun h0 h1=>nt fun h=>no [a,b,c,(c-a),(c-b)] [(.s v0,v1),(v3,v4),(v2,.a v3 v0),(.a v4 v1,v2)] rfl h0 h (sb c a) (sc (nl fun u=>no [a,b,c,(c-a),(c-b)] [(v1,v2),(.s v2,v1)] rfl h1 u))
theorem o62:(↑a:Int)<(↑b:Int)→a<b:=fun h0=>nt fun h=>nz [↑a,↑b] [(.a w0 (.n 1),w1),(w1,w0)] rfl h0 (zl h)
theorem o63:a+5≤b→a≤b:=fun h0=>nl fun h=>no [a,b] [(.a v0 (.n 5),v1),(.s v1,v0)] rfl h0 h
theorem o64:a+5≤b→c≤d+e→e≤a→d=1→c≤b:=fun h0 h1 h2 h3=>nl fun h=>no [a,b,c,d,e] [(.a v0 (.n 5),v1),(v2,.a v3 v4),(v4,v0),(v3,.n 1),(.s v1,v2)] rfl h0 h1 h2 (le' h3) h
theorem o65:a≤b+c→b≤d+1→a≤d+(c+1):=fun h0 h1=>nl fun h=>no [a,b,c,d] [(v0,.a v1 v2),(v1,.s v3),(.s (.a v3 (.s v2)),v0)] rfl h0 h1 h
theorem o66:a+1<b→a+2≤b:=fun h0=>nl fun h=>no [a,b] [(.s (.s v0),v1),(.s v1,.a v0 (.n 2))] rfl h0 h
theorem o67:¬(↑a:Int)+1+1=(↑b:Int)→¬a+2=b:=fun h0=>fun h=>(Int.lt_or_gt_of_ne h0).elim (fun u=>nz [↑a,↑b] [(w1,.a w0 (.n 2)),(.a (.a (.a w0 (.n 1)) (.n 1)) (.n 1),w1)] rfl (zl (le' h.symm)) u) (fun u=>nz [↑a,↑b] [(.a w0 (.n 2),w1),(.a w1 (.n 1),.a (.a w0 (.n 1)) (.n 1))] rfl (zl (le' h)) u)
theorem o68:a+2=b→a+2≤b:=fun h0=>nl fun h=>no [a,b] [(.a v0 (.n 2),v1),(.s v1,.a v0 (.n 2))] rfl (le' h0) h
theorem o69:(↑a:Int)+1+1=(↑b:Int)→a+2=b:=fun h0=>Nat.le_antisymm (nl fun h=>nz [↑a,↑b] [(.a (.a w0 (.n 1)) (.n 1),w1),(.a w1 (.n 1),.a w0 (.n 2))] rfl (Int.le_of_eq h0) (zl h)) (nl fun h=>nz [↑a,↑b] [(w1,.a (.a w0 (.n 1)) (.n 1)),(.a (.a w0 (.n 2)) (.n 1),w1)] rfl (Int.le_of_eq h0.symm) (zl h))
theorem o70:a+1<b→(↑(a+1):Int)<(↑b:Int):=fun h0=>it fun h=>nz [↑a,↑b] [(.a (.a w0 (.n 1)) (.n 1),w1),(w1,.a w0 (.n 1))] rfl (zl h0) h
theorem o71:-(↑a:Int)≤(↑(b+1):Int):=il fun h=>nz [↑b,↑a] [(.a (.a w0 (.n 1)) (.n 1),.g w1),(.n 0,w0),(.n 0,w1)] rfl h (nn b) (nn a)
theorem o72:0≤(↑a:Int):=il fun h=>nz [↑a] [(.a w0 (.n 1),.n 0),(.n 0,w0)] rfl h (nn a)
theorem o73:a+1≤b→a≤b:=fun h0=>nl fun h=>no [a,b] [(.s v0,v1),(.s v1,v0)] rfl h0 h
theorem o74:a+1≤b→a<b:=fun h0=>nt fun h=>no [a,b] [(.s v0,v1),(v1,v0)] rfl h0 h
theorem o75:a+1≤b→a=b→False:=fun h0 h1=>no [a,b] [(.s v0,v1),(v1,v0)] rfl h0 (le' h1.symm)
theorem o76:a+1≤a+1+b:=nl fun h=>no [a,b] [(.s (.a (.s v0) v1),.s v0)] rfl h
theorem o77:a+1+b<min c d→a+1+b<c:=fun h=>Nat.lt_of_lt_of_le h (Nat.min_le_left ..)
theorem o78:a+1<b→a+1≤b-1:=fun h0=>nl fun h=>no [a,b,(b-1)] [(.s (.s v0),v1),(.s v2,.s v0),(v1,.s v2)] rfl h0 h (sb b 1)
theorem o79:a+1+0≤b→a+1≤b:=fun h0=>nl fun h=>no [a,b] [(.a (.s v0) (.n 0),v1),(.s v1,.s v0)] rfl h0 h
theorem o80:a+1+2≤b→a+1≤b:=fun h0=>nl fun h=>no [a,b] [(.a (.s v0) (.n 2),v1),(.s v1,.s v0)] rfl h0 h
theorem o81:a=0→a=a-1:=fun h0=>an (nl fun h=>no [a,(a-1)] [(v0,.n 0),(.s v1,v0)] rfl (le' h0) h) (nl fun h=>no [a,(a-1)] [(.s v0,v1),(v1,v0)] rfl h (sl a 1))
theorem o82:a<b→a+1≤b:=fun h0=>nl fun h=>no [a,b] [(.s v0,v1),(.s v1,.s v0)] rfl h0 h
theorem o83:¬a=0→(↑(a-1):Int)=(↑a:Int)-1:=fun h0=>Int.le_antisymm (il fun h=>(Nat.lt_or_gt_of_ne h0).elim (fun u=>nz [↑a,↑(a-1)] [(.a w0 (.n 1),.n 0),(.n 0,w0)] rfl (zl u) (nn a)) (fun u=>nz [↑a,↑(a-1)] [(.a (.s w0 (.n 1)) (.n 1),w1),(.a w1 (.n 1),w0)] rfl h (zl (sc (nl fun uv=>nz [↑a,↑(a-1)] [(.a (.n 0) (.n 1),w0),(.a w0 (.n 1),.n 1)] rfl (zl u) (zl uv)))))) (il fun h=>nz [↑(a-1),↑a] [(.a w0 (.n 1),.s w1 (.n 1)),(w1,.a w0 (.n 1))] rfl h (zl (sb a 1)))
theorem o84:a+3-a=3:=an (nl fun h=>no [a,((a+3)-a)] [(.s (.n 3),v1),(.a v1 v0,.a v0 (.n 3))] rfl h (sc (nl fun u=>no [a,((a+3)-a)] [(.s (.a v0 (.n 3)),v0)] rfl u))) (nl fun h=>no [a,((a+3)-a)] [(.s v1,.n 3),(.a v0 (.n 3),.a v1 v0)] rfl h (sb (a+3) a))
theorem o85:(↑a:Int)+1+2=(↑(a+3):Int):=Int.le_antisymm (il fun h=>nz [↑a] [(.a (.a w0 (.n 3)) (.n 1),.a (.a w0 (.n 1)) (.n 2))] rfl h) (il fun h=>nz [↑a] [(.a (.a (.a w0 (.n 1)) (.n 2)) (.n 1),.a w0 (.n 3))] rfl h)
theorem o86:a≤a+3:=nl fun h=>no [a] [(.s (.a v0 (.n 3)),v0)] rfl h
theorem o87:a<b→a=b→False:=fun h0 h1=>no [a,b] [(.s v0,v1),(v1,v0)] rfl h0 (le' h1.symm)
theorem o88:(↑(a+1):Int)-1=(↑a:Int):=Int.le_antisymm (il fun h=>nz [↑a] [(.a w0 (.n 1),.s (.a w0 (.n 1)) (.n 1))] rfl h) (il fun h=>nz [↑a] [(.a (.s (.a w0 (.n 1)) (.n 1)) (.n 1),w0)] rfl h)
theorem o89:a≤b→a=b+1→False:=fun h0 h1=>no [a,b] [(v0,v1),(.s v1,v0)] rfl h0 (le' h1.symm)
theorem o90:a≤900→b≤a+1→b≤1000:=fun h0 h1=>nl fun h=>no [a,b] [(v0,.n 900),(v1,.s v0),(.s (.n 1000),v1)] rfl h0 h1 h
theorem o91:a≤900→a≤1000:=fun h0=>nl fun h=>no [a] [(v0,.n 900),(.s (.n 1000),v0)] rfl h0 h
theorem o92:¬0<a→¬0<(↑a:Int):=fun h0=>fun h=>nz [↑a] [(w0,.n 0),(.a (.n 0) (.n 1),w0)] rfl (zl (nl h0)) h
theorem o93:0<a→0<(↑a:Int):=fun h0=>it fun h=>nz [↑a] [(.a (.n 0) (.n 1),w0),(w0,.n 0)] rfl (zl h0) h
theorem o94:(↑a:Int)=(↑b:Int)→a=b:=fun h0=>Nat.le_antisymm (nl fun h=>nz [↑a,↑b] [(w0,w1),(.a w1 (.n 1),w0)] rfl (Int.le_of_eq h0) (zl h)) (nl fun h=>nz [↑a,↑b] [(w1,w0),(.a w0 (.n 1),w1)] rfl (Int.le_of_eq h0.symm) (zl h))
theorem o95:a≤900→b≤c+1→c≤a+1→b≤1000:=fun h0 h1 h2=>nl fun h=>no [a,b,c] [(v0,.n 900),(v1,.s v2),(v2,.s v0),(.s (.n 1000),v1)] rfl h0 h1 h2 h
theorem o96:a+5≤b→c≤d+a→d=1→c≤b:=fun h0 h1 h2=>nl fun h=>no [a,b,c,d] [(.a v0 (.n 5),v1),(v2,.a v3 v0),(v3,.n 1),(.s v1,v2)] rfl h0 h1 (le' h2) h
theorem o97:a≤b→b=c→c+5≤d→a+5≤d:=fun h0 h1 h2=>nl fun h=>no [a,b,c,d] [(v0,v1),(v1,v2),(.a v2 (.n 5),v3),(.s v3,.a v0 (.n 5))] rfl h0 (le' h1) h2 h
theorem o98:a≤b→c≤a→c≤b:=fun h0 h1=>nl fun h=>no [a,b,c] [(v0,v1),(v2,v0),(.s v1,v2)] rfl h0 h1 h
theorem o99:-1<(↑a:Int):=it fun h=>nz [↑a] [(w0,.g (.n 1)),(.n 0,w0)] rfl h (nn a)
theorem o100:0<a→-(↑a:Int)≤-1:=fun h0=>il fun h=>nz [↑a] [(.a (.n 0) (.n 1),w0),(.a (.g (.n 1)) (.n 1),.g w0)] rfl (zl h0) h
theorem o101:a≤890→b≤c+1→c≤a+1→b≤900:=fun h0 h1 h2=>nl fun h=>no [a,b,c] [(v0,.n 890),(v1,.s v2),(v2,.s v0),(.s (.n 900),v1)] rfl h0 h1 h2 h
theorem o102:a=b→c=d→a<c→b≤d:=fun h0 h1 h2=>nl fun h=>no [a,b,c,d] [(v1,v0),(v2,v3),(.s v0,v2),(.s v3,v1)] rfl (le' h0.symm) (le' h1) h2 h
theorem o103:a+1<b→¬a+1=b-1→a+1<b-1:=fun h0 h1=>nt fun h=>(ne h1).elim (fun u=>no [a,b,(b-1)] [(v2,.s v0),(.s (.s v0),v2)] rfl h u) (fun u=>no [a,b,(b-1)] [(.s (.s v0),v1),(.s v2,.s v0),(v1,.s v2)] rfl h0 u (sb b 1))
theorem o104:a=b→a<c→c≤b→False:=fun h0 h1 h2=>no [a,b,c] [(v1,v0),(.s v0,v2),(v2,v1)] rfl (le' h0.symm) h1 h2
theorem o105:a<b→b-1<b:=fun h0=>nt fun h=>no [a,b,(b-1)] [(v1,v2),(.s v2,v1)] rfl h (sc (nl fun u=>no [a,b,(b-1)] [(.s v0,v1),(.s v1,.n 1)] rfl h0 u))
theorem o106:a<b→¬a=b-1→a<b-1:=fun h0 h1=>nt fun h=>(ne h1).elim (fun u=>no [a,b,(b-1)] [(v2,v0),(.s v0,v2)] rfl h u) (fun u=>no [a,b,(b-1)] [(.s v0,v1),(.s v2,v0),(v1,.s v2)] rfl h0 u (sb b 1))
theorem o107:0+a=a:=an (nl fun h=>no [a] [(.s v0,.a (.n 0) v0)] rfl h) (nl fun h=>no [a] [(.s (.a (.n 0) v0),v0)] rfl h)
theorem o108:¬120=10:=fun h=>no [] [(.n 120,.n 10)] rfl (le' h)
theorem o109:¬a=10→¬a=10:=fun h0=>fun h=>(ne h0).elim (fun u=>no [a] [(.n 10,v0),(.s v0,.n 10)] rfl (le' h.symm) u) (fun u=>no [a] [(v0,.n 10),(.s (.n 10),v0)] rfl (le' h) u)
theorem o110:¬41=10:=fun h=>no [] [(.n 41,.n 10)] rfl (le' h)
theorem o111:¬40=10:=fun h=>no [] [(.n 40,.n 10)] rfl (le' h)
theorem o112:a=0→a≤b:=fun h0=>nl fun h=>no [a,b] [(v0,.n 0),(.s v1,v0)] rfl (le' h0) h
theorem o113:a=b+1→c=b+1→c≤a:=fun h0 h1=>nl fun h=>no [a,b,c] [(.s v1,v0),(v2,.s v1),(.s v0,v2)] rfl (le' h0.symm) (le' h1) h
theorem o114:a=b+1→c≤b→c≤a:=fun h0 h1=>nl fun h=>no [a,b,c] [(.s v1,v0),(v2,v1),(.s v0,v2)] rfl (le' h0.symm) h1 h
theorem o115:a≤b→c=b+1→a<c:=fun h0 h1=>nt fun h=>no [a,b,c] [(v0,v1),(.s v1,v2),(v2,v0)] rfl h0 (le' h1.symm) h
theorem o116:a=b+c→d≤b→d≤a:=fun h0 h1=>nl fun h=>no [a,b,c,d] [(.a v1 v2,v0),(v3,v1),(.s v0,v3)] rfl (le' h0.symm) h1 h
theorem o117:a+b+c=a+(b+c):=an (nl fun h=>no [a,b,c] [(.s (.a v0 (.a v1 v2)),.a (.a v0 v1) v2)] rfl h) (nl fun h=>no [a,b,c] [(.s (.a (.a v0 v1) v2),.a v0 (.a v1 v2))] rfl h)
theorem o118:¬a≤b→¬b<a-1→(↑b:Int)+1=(↑a:Int):=fun h0 h1=>Int.le_antisymm (il fun h=>nz [↑b,↑a,↑(a-1)] [(.a w0 (.n 1),w1),(.a w1 (.n 1),.a w0 (.n 1))] rfl (zl (nt h0)) h) (il fun h=>nz [↑b,↑a,↑(a-1)] [(w2,w0),(.a (.a w0 (.n 1)) (.n 1),w1),(w1,.a w2 (.n 1))] rfl (zl (nl h1)) h (zl (sb a 1)))
theorem o119:a<b→c<a→a-1<b-1:=fun h0 h1=>nt fun h=>no [a,b,c,(b-1),(a-1)] [(.s v0,v1),(v3,v4),(v1,.s v3),(.s v4,v0)] rfl h0 h (sb b 1) (sc (nl fun u=>no [a,b,c,(b-1),(a-1)] [(.s v2,v0),(.s v0,.n 1)] rfl h1 u))
theorem o120:a+1<b→a<b:=fun h0=>nt fun h=>no [a,b] [(.s (.s v0),v1),(v1,v0)] rfl h0 h
theorem o121:a≤b→a-1≤b:=fun h0=>nl fun h=>no [a,b,(a-1)] [(v0,v1),(.s v1,v2),(v2,v0)] rfl h0 h (sl a 1)
theorem o122:a-1+1≤b→a≤b:=fun h0=>nl fun h=>no [a,b,(a-1)] [(.s v2,v1),(.s v1,v0),(v0,.s v2)] rfl h0 h (sb a 1)
theorem o123:a<b→c<a→c<b:=fun h0 h1=>nt fun h=>no [a,b,c] [(.s v0,v1),(.s v2,v0),(v1,v2)] rfl h0 h1 h
theorem o124:a<b+1→¬a=b→a<b:=fun h0 h1=>nt fun h=>(ne h1).elim (fun u=>no [a,b] [(v1,v0),(.s v0,v1)] rfl h u) (fun u=>no [a,b] [(.s v0,.s v1),(.s v1,v0)] rfl h0 u)
theorem o125:a<0→False:=fun h0=>no [a] [(.s v0,.n 0)] rfl h0
theorem o126:1+(a+1)=a+1+1:=an (nl fun h=>no [a] [(.s (.s (.s v0)),.a (.n 1) (.s v0))] rfl h) (nl fun h=>no [a] [(.s (.a (.n 1) (.s v0)),.s (.s v0))] rfl h)
theorem o127:0<a+1:=nt fun h=>no [a] [(.s v0,.n 0)] rfl h
theorem o128:1+a≤b→b<1+c-1→b-1<c-1:=fun h0 h1=>nt fun h=>no [a,b,c,((1+c)-1),(c-1),(b-1)] [(.s v1,v3),(v4,v5),(v2,.s v4),(.s v3,.a (.n 1) v2),(.s v5,v1)] rfl h1 h (sb c 1) (sc (nl fun u=>no [a,b,c,((1+c)-1),(c-1),(b-1)] [(.s (.a (.n 1) v2),.n 1)] rfl u)) (sc (nl fun u=>no [a,b,c,((1+c)-1),(c-1),(b-1)] [(.a (.n 1) v0,v1),(.s v1,.n 1)] rfl h0 u))
theorem o129:1+a≤b→a≤b-1:=fun h0=>nl fun h=>no [a,b,(b-1)] [(.a (.n 1) v0,v1),(.s v2,v0),(v1,.s v2)] rfl h0 h (sb b 1)
theorem o130:1+a≤b→b=b-1+1:=fun h0=>an (nl fun h=>no [a,b,(b-1)] [(.s (.s v2),v1),(v1,.s v2)] rfl h (sb b 1)) (nl fun h=>no [a,b,(b-1)] [(.s v1,.s v2),(.s v2,v1)] rfl h (sc (nl fun u=>no [a,b,(b-1)] [(.a (.n 1) v0,v1),(.s v1,.n 1)] rfl h0 u)))
theorem o131:0<a→1+a-1=a-1+1:=fun h0=>an (nl fun h=>no [a,(a-1),((1+a)-1)] [(.s (.s v1),v2),(v0,.s v1),(.s v2,.a (.n 1) v0)] rfl h (sb a 1) (sc (nl fun u=>no [a,(a-1),((1+a)-1)] [(.s (.a (.n 1) v0),.n 1)] rfl u))) (nl fun h=>no [a,((1+a)-1),(a-1)] [(.s v1,.s v2),(.a (.n 1) v0,.s v1),(.s v2,v0)] rfl h (sb (1+a) 1) (sc (nl fun u=>no [a,((1+a)-1),(a-1)] [(.s (.n 0),v0),(.s v0,.n 1)] rfl h0 u)))
theorem o132:a<b→1+a<1+b:=fun h0=>nt fun h=>no [a,b] [(.s v0,v1),(.a (.n 1) v1,.a (.n 1) v0)] rfl h0 h
theorem o133:a+1<1+b-1→a<b-1:=fun h0=>nt fun h=>no [a,b,((1+b)-1),(b-1)] [(.s (.s v0),v2),(v3,v0),(v1,.s v3),(.s v2,.a (.n 1) v1)] rfl h0 h (sb b 1) (sc (nl fun u=>no [a,b,((1+b)-1),(b-1)] [(.s (.a (.n 1) v1),.n 1)] rfl u))
theorem o134:0<1+a:=nt fun h=>no [a] [(.a (.n 1) v0,.n 0)] rfl h
theorem o135:a<b→0<b:=fun h0=>nt fun h=>no [a,b] [(.s v0,v1),(v1,.n 0)] rfl h0 h
theorem o136:a<b→1+b-1=b-1+1:=fun h0=>an (nl fun h=>no [a,b,(b-1),((1+b)-1)] [(.s (.s v2),v3),(v1,.s v2),(.s v3,.a (.n 1) v1)] rfl h (sb b 1) (sc (nl fun u=>no [a,b,(b-1),((1+b)-1)] [(.s (.a (.n 1) v1),.n 1)] rfl u))) (nl fun h=>no [a,b,((1+b)-1),(b-1)] [(.s v2,.s v3),(.a (.n 1) v1,.s v2),(.s v3,v1)] rfl h (sb (1+b) 1) (sc (nl fun u=>no [a,b,((1+b)-1),(b-1)] [(.s v0,v1),(.s v1,.n 1)] rfl h0 u)))
theorem o137:a+1<1+b→a<b:=fun h0=>nt fun h=>no [a,b] [(.s (.s v0),.a (.n 1) v1),(v1,v0)] rfl h0 h
theorem o138:a<1-1→False:=fun h0=>no [a,(1-1)] [(.s v0,v1),(.s v1,.n 1)] rfl h0 (sc (nl fun u=>no [a,(1-1)] [(.s (.n 1),.n 1)] rfl u))
theorem o139:0<1:=nt fun h=>no [] [(.n 1,.n 0)] rfl h
theorem o140:a<b→c≤d→d<a→c≤d∧d<c+(b+1-c):=fun h0 h1 h2=>⟨nl fun h=>no [a,b,c,d] [(v2,v3),(.s v3,v2)] rfl h1 h,nt fun h=>no [a,b,c,d,((b+1)-c)] [(.s v0,v1),(.s v3,v0),(.a v2 v4,v3),(.s v1,.a v4 v2)] rfl h0 h2 h (sb (b+1) c)⟩
theorem o141:a<b→a<b+1:=fun h0=>nt fun h=>no [a,b] [(.s v0,v1),(.s v1,v0)] rfl h0 h
theorem o142:1≤1:=nl fun h=>no [] [(.s (.n 1),.n 1)] rfl h
theorem o143:a<16777216→¬16777216<a+1+0:=fun h0=>fun h=>no [a] [(.s v0,.n 16777216),(.s (.n 16777216),.a (.s v0) (.n 0))] rfl h0 h
theorem o144:¬a<b→b≤a:=fun h0=>nl fun h=>no [a,b] [(v1,v0),(.s v0,v1)] rfl (nl h0) h
theorem o145:a<b→¬b≤a:=fun h0=>fun h=>no [a,b] [(.s v0,v1),(v1,v0)] rfl h0 h
theorem o146:¬a<0:=fun h=>no [a] [(.s v0,.n 0)] rfl h
theorem o147:a≤b→(↑a:Int)-1<(↑b:Int):=fun h0=>it fun h=>nz [↑a,↑b] [(w0,w1),(w1,.s w0 (.n 1))] rfl (zl h0) h
theorem o148:a≤b→¬(↑(b+1):Int)-1<(↑a:Int):=fun h0=>fun h=>nz [↑a,↑b] [(w0,w1),(.a (.s (.a w1 (.n 1)) (.n 1)) (.n 1),w0)] rfl (zl h0) h
theorem o149:a<b→0+a<b:=fun h0=>nt fun h=>no [a,b] [(.s v0,v1),(v1,.a (.n 0) v0)] rfl h0 h
theorem o150:min a b=c→c≤b:=fun h=>h▸Nat.min_le_right ..
theorem o151:a+b=c→Int.toNat ((↑c:Int)-(↑a:Int))=b:=fun h0=>Nat.le_antisymm (nl fun h=>nz [↑a,↑b,↑c,↑(Int.toNat ((↑c:Int)-(↑a:Int)))] [(w2,.a w0 w1),(.a w1 (.n 1),w3),(w3,.s w2 w0)] rfl (zl (le' h0.symm)) (zl h) (tn (il fun u=>nz [↑a,↑b,↑c,↑(Int.toNat ((↑c:Int)-(↑a:Int)))] [(.a w0 w1,w2),(.a (.s w2 w0) (.n 1),.n 0),(.n 0,w1)] rfl (zl (le' h0)) u (nn b)))) (nl fun h=>nz [↑a,↑b,↑c,↑(Int.toNat ((↑c:Int)-(↑a:Int)))] [(.a w0 w1,w2),(.a w3 (.n 1),w1),(.s w2 w0,w3)] rfl (zl (le' h0)) (zl h) (st ((↑c:Int)-(↑a:Int))))
theorem o152:a=b→c≤b→¬0+a<c:=fun h0 h1=>fun h=>no [a,b,c] [(v1,v0),(v2,v1),(.s (.a (.n 0) v0),v2)] rfl (le' h0.symm) h1 h
theorem o153:a≤b→c+b=d→¬(↑d:Int)-(↑c:Int)<(↑a:Int):=fun h0 h1=>fun h=>nz [↑a,↑b,↑c,↑d] [(w0,w1),(.a w2 w1,w3),(.a (.s w3 w2) (.n 1),w0)] rfl (zl h0) (zl (le' h1)) h
theorem o154:a+(b+1)=a+1+b:=an (nl fun h=>no [a,b] [(.s (.a (.s v0) v1),.a v0 (.s v1))] rfl h) (nl fun h=>no [a,b] [(.s (.a v0 (.s v1)),.a (.s v0) v1)] rfl h)
theorem o155:a+(b+1)=c→a+1+b=c:=fun h0=>an (nl fun h=>no [a,b,c] [(.a v0 (.s v1),v2),(.s v2,.a (.s v0) v1)] rfl (le' h0) h) (nl fun h=>no [a,b,c] [(v2,.a v0 (.s v1)),(.s (.a (.s v0) v1),v2)] rfl (le' h0.symm) h)
theorem o156:a+(b+1)=c→a<c:=fun h0=>nt fun h=>no [a,b,c] [(.a v0 (.s v1),v2),(v2,v0)] rfl (le' h0) h
theorem o157:14+1≤9*a+20:=nl fun h=>no [a] [(.s (.a (.m 9 v0) (.n 20)),.s (.n 14))] rfl h
theorem o158:a≤4294967295→b+1+1≤a→b≤4294967295:=fun h0 h1=>nl fun h=>no [a,b] [(v0,.n 4294967295),(.s (.s v1),v0),(.s (.n 4294967295),v1)] rfl h0 h1 h
theorem o159:10+1≤9*a+20:=nl fun h=>no [a] [(.s (.a (.m 9 v0) (.n 20)),.s (.n 10))] rfl h
theorem o160:a≤b→9*a+2+8+1≤9*b+20:=fun h0=>nl fun h=>no [a,b] [(.m 9 v0,.m 9 v1),(.s (.a (.m 9 v1) (.n 20)),.s (.a (.a (.m 9 v0) (.n 2)) (.n 8)))] rfl (Nat.mul_le_mul_left 9 h0) h
theorem o161:9*a+2+8+1≤9*(a+1)+2:=nl fun h=>no [a] [(.s (.a (.m 9 (.s v0)) (.n 2)),.s (.a (.a (.m 9 v0) (.n 2)) (.n 8)))] rfl h
theorem o162:a+4+1≤a+6:=nl fun h=>no [a] [(.s (.a v0 (.n 6)),.s (.a v0 (.n 4)))] rfl h
theorem o163:a≤4294967295→min 4294967295 a=a:=Nat.min_eq_right
theorem o164:a<4*(b+1)→¬a≤4→a-4<4*b:=fun h0 h1=>nt fun h=>no [a,b,(a-4)] [(.s v0,.m 4 (.s v1)),(.m 4 v1,v2),(.a v2 (.n 4),v0)] rfl h0 h (sc (nl fun u=>no [a,b,(a-4)] [(.s (.n 4),v0),(.s v0,.n 4)] rfl (nt h1) u))
theorem o165:¬a≤4→a=4+(a-4):=fun h0=>an (nl fun h=>no [a,(a-4)] [(.s (.a (.n 4) v1),v0),(v0,.a v1 (.n 4))] rfl h (sb a 4)) (nl fun h=>no [a,(a-4)] [(.s v0,.a (.n 4) v1),(.a v1 (.n 4),v0)] rfl h (sc (nl fun u=>no [a,(a-4)] [(.s (.n 4),v0),(.s v0,.n 4)] rfl (nt h0) u)))
theorem o166:a≤4→4=a+(4-a):=fun h0=>an (nl fun h=>no [a,(4-a)] [(.s (.a v0 v1),.n 4),(.n 4,.a v1 v0)] rfl h (sb 4 a)) (nl fun h=>no [a,(4-a)] [(.s (.n 4),.a v0 v1),(.a v1 v0,.n 4)] rfl h (sc (nl fun u=>no [a,(4-a)] [(v0,.n 4),(.s (.n 4),v0)] rfl h0 u)))
theorem o167:¬a<4*0:=fun h=>no [a] [(.s v0,.m 4 (.n 0))] rfl h
theorem o168:a≤b→b-a<c→(¬c=0∧a≤b)∧b-a<c:=fun h0 h1=>⟨⟨fun h=>no [a,b,c,(b-a)] [(.s v3,v2),(v2,.n 0)] rfl h1 (le' h),nl fun h=>no [a,b,c,(b-a)] [(v0,v1),(.s v1,v0)] rfl h0 h⟩,nt fun h=>no [a,b,c,(b-a)] [(.s v3,v2),(v2,v3)] rfl h1 h⟩
theorem o169:a≤b-c→b-c<a→False:=fun h0 h1=>no [a,b,c,(b-c)] [(v0,v3),(.s v3,v0)] rfl h0 h1
theorem o170:a≤1048576→Min.min 9223372036854775807 a=a:=fun h=>Nat.min_eq_right (Nat.le_trans h (by decide))
theorem o171:a≤b→Min.min (Int.toNat (↑a:Int)) b=a:=fun h=>Nat.min_eq_left h
theorem o172:a≤b→b≤c→Min.min (Int.toNat (↑a:Int)) c=a:=fun h k=>Nat.min_eq_left (Nat.le_trans h k)
theorem o173:a≤b→b≤1048576→(↑a:Int)≤1048576:=fun h0 h1=>il fun h=>nz [↑a,↑b] [(w0,w1),(w1,.n 1048576),(.a (.n 1048576) (.n 1),w0)] rfl (zl h0) (zl h1) h
theorem o174:a≤b→b≤c→c≤1048576→(↑a:Int)≤1048576:=fun h0 h1 h2=>il fun h=>nz [↑a,↑b,↑c] [(w0,w1),(w1,w2),(w2,.n 1048576),(.a (.n 1048576) (.n 1),w0)] rfl (zl h0) (zl h1) (zl h2) h
theorem o175:a≤1048576→a≤1048576:=fun h0=>nl fun h=>no [a] [(v0,.n 1048576),(.s (.n 1048576),v0)] rfl h0 h
theorem o176:a≤1048576→b≤a→(↑b:Int)≤1048576:=fun h0 h1=>il fun h=>nz [↑a,↑b] [(w0,.n 1048576),(w1,w0),(.a (.n 1048576) (.n 1),w1)] rfl (zl h0) (zl h1) h
theorem o177:¬a+1<a:=fun h=>no [a] [(.s (.s v0),v0)] rfl h
theorem o178:a<b→b-(b-a)=a:=fun h0=>an (nl fun h=>no [a,b,(b-(b-a)),(b-a)] [(.s v0,v2),(v1,.a v3 v0),(.a v2 v3,v1)] rfl h (sb b a) (sc (nl fun u=>no [a,b,(b-(b-a)),(b-a)] [(v3,v1),(.s v1,v3)] rfl (sl b a) u))) (nl fun h=>no [a,b,(b-(b-a)),(b-a)] [(.s v2,v0),(v1,.a v2 v3),(.a v3 v0,v1)] rfl h (sb b (b-a)) (sc (nl fun u=>no [a,b,(b-(b-a)),(b-a)] [(.s v0,v1),(.s v1,v0)] rfl h0 u)))
theorem o179:a+b<c→b+1≤c-a:=fun h0=>nl fun h=>no [a,b,c,(c-a)] [(.s (.a v0 v1),v2),(.s v3,.s v1),(v2,.a v3 v0)] rfl h0 h (sb c a)
theorem o180:a-b-1=a-(b+1):=Nat.sub_sub a b 1
theorem o181:Int.toNat ((↑a:Int)-1)=a-1:=Int.toNat_sub a 1
theorem o182:a≤b→(↑a:Int)-1≤(↑b:Int):=fun h0=>il fun h=>nz [↑a,↑b] [(w0,w1),(.a w1 (.n 1),.s w0 (.n 1))] rfl (zl h0) h
theorem o183:0<a→0≤(↑a:Int)-1:=fun h0=>il fun h=>nz [↑a] [(.a (.n 0) (.n 1),w0),(.a (.s w0 (.n 1)) (.n 1),.n 0)] rfl (zl h0) h
theorem o184:6<14:=nt fun h=>no [] [(.n 14,.n 6)] rfl h
theorem o185:a≤b→a-c≤b:=fun h0=>nl fun h=>no [a,b,c,(a-c)] [(v0,v1),(.s v1,v3),(v3,v0)] rfl h0 h (sl a c)
theorem o186:a+b<c→0<c-b:=fun h0=>nt fun h=>no [a,b,c,(c-b)] [(.s (.a v0 v1),v2),(v3,.n 0),(v2,.a v3 v1)] rfl h0 h (sb c b)
theorem o187:a+b<c→c-b-1+1=c-b:=fun h0=>an (nl fun h=>no [a,b,c,(c-b),((c-b)-1)] [(.s v3,.s v4),(.s v4,v3)] rfl h (sc (nl fun u=>no [a,b,c,(c-b),((c-b)-1)] [(.s (.a v0 v1),v2),(v2,.a v3 v1),(.s v3,.n 1)] rfl h0 (sb c b) u))) (nl fun h=>no [a,b,c,((c-b)-1),(c-b)] [(.s (.s v3),v4),(v4,.s v3)] rfl h (sb (c-b) 1))
theorem o188:a≤b→c+d<a→a-d-1<b:=fun h0 h1=>nt fun h=>no [a,b,c,d,((a-d)-1),(a-d)] [(v0,v1),(v1,v4),(v5,v0),(.s v4,v5)] rfl h0 h (sl a d) (sc (nl fun u=>no [a,b,c,d,((a-d)-1),(a-d)] [(.s (.a v2 v3),v0),(v0,.a v5 v3),(.s v5,.n 1)] rfl h1 (sb a d) u))
theorem o189:a≤1048576→(↑a:Int)≤1048576:=fun h0=>il fun h=>nz [↑a] [(w0,.n 1048576),(.a (.n 1048576) (.n 1),w0)] rfl (zl h0) h
theorem o190:-1048576≤(↑a:Int):=il fun h=>nz [↑a] [(.a w0 (.n 1),.g (.n 1048576)),(.n 0,w0)] rfl h (nn a)
theorem o191:a<b→b≤1048576→(↑a:Int)≤1048576:=fun h0 h1=>il fun h=>nz [↑a,↑b] [(.a w0 (.n 1),w1),(w1,.n 1048576),(.a (.n 1048576) (.n 1),w0)] rfl (zl h0) (zl h1) h
theorem o192:a≤b→b≤c→c+5≤d→a≤d:=fun h0 h1 h2=>nl fun h=>no [a,b,c,d] [(v0,v1),(v1,v2),(.a v2 (.n 5),v3),(.s v3,v0)] rfl h0 h1 h2 h
theorem o193:a<b→c≤a→c+1≤b:=fun h0 h1=>nl fun h=>no [a,b,c] [(.s v0,v1),(v2,v0),(.s v1,.s v2)] rfl h0 h1 h
theorem o194:a<b-c→c+a<b:=fun h0=>nt fun h=>(to b c).elim (fun u=>no [a,b,c,(b-c)] [(.s v0,v3),(v3,.n 0)] rfl h0 (le' (sz u))) (fun u=>no [a,b,c,(b-c)] [(.s v0,v3),(v1,.a v2 v0),(.a v3 v2,v1)] rfl h0 h (sc (nl fun uv=>no [a,b,c,(b-c)] [(v2,v1),(.s v1,v2)] rfl u uv)))
theorem o195:a<b→b≤c→a<c:=fun h0 h1=>nt fun h=>no [a,b,c] [(.s v0,v1),(v1,v2),(v2,v0)] rfl h0 h1 h
theorem o196:a<b→¬(↑b:Int)=0:=fun h0=>fun h=>nz [↑a,↑b] [(.a w0 (.n 1),w1),(w1,.n 0),(.n 0,w0)] rfl (zl h0) (Int.le_of_eq h) (nn a)
theorem o197:1≤9*a+20:=nl fun h=>no [a] [(.s (.a (.m 9 v0) (.n 20)),.n 1)] rfl h
theorem o198:a<b→1≤b-a:=fun h0=>nl fun h=>no [a,b,(b-a)] [(.s v0,v1),(.s v2,.n 1),(v1,.a v2 v0)] rfl h0 h (sb b a)
theorem o199:a≤1048576→a≤4294967295:=fun h0=>nl fun h=>no [a] [(v0,.n 1048576),(.s (.n 4294967295),v0)] rfl h0 h
theorem o200:a+5≤1048576→a-b≤1048576:=fun h0=>nl fun h=>no [a,b,(a-b)] [(.a v0 (.n 5),.n 1048576),(.s (.n 1048576),v2),(v2,v0)] rfl h0 h (sl a b)
theorem o201:a<b→a+(b-1-a)=b-1:=fun h0=>an (nl fun h=>no [a,b,(b-1),((b-1)-a)] [(.s v2,.a v0 v3),(.a v3 v0,v2)] rfl h (sc (nl fun u=>no [a,b,(b-1),((b-1)-a)] [(.s v0,v1),(v1,.s v2),(.s v2,v0)] rfl h0 (sb b 1) u))) (nl fun h=>no [a,b,((b-1)-a),(b-1)] [(.s (.a v0 v2),v3),(v3,.a v2 v0)] rfl h (sb (b-1) a))
theorem o202:a<b→0=b→False:=fun h0 h1=>no [a,b] [(.s v0,v1),(v1,.n 0)] rfl h0 (le' h1.symm)
theorem o203:a≤b→b≤c→a+(min b c-a)=b:=fun h k=>(congrArg (fun t=>a+(t-a)) (Nat.min_eq_left k)).trans (Nat.add_sub_cancel' h)
theorem o204:20*a+b+36≤20*a+b+40:=nl fun h=>no [a,b] [(.s (.a (.a (.m 20 v0) v1) (.n 40)),.a (.a (.m 20 v0) v1) (.n 36))] rfl h
theorem o205:a+3*b+20<16777216→a+1+0<16777216:=fun h0=>nt fun h=>no [a,b] [(.s (.a (.a v0 (.m 3 v1)) (.n 20)),.n 16777216),(.n 16777216,.a (.s v0) (.n 0))] rfl h0 h
theorem o206:a=b-c→20*a+(d+1+1)+30+1≤20*b+d+34:=fun h0=>nl fun h=>no [a,b,c,d,(b-c)] [(.m 20 v0,.m 20 v4),(.s (.a (.a (.m 20 v1) v3) (.n 34)),.s (.a (.a (.m 20 v0) (.s (.s v3))) (.n 30))),(.m 20 v4,.m 20 v1)] rfl (Nat.mul_le_mul_left 20 (le' h0)) h (Nat.mul_le_mul_left 20 (sl b c))
theorem o207:a+3*b+20<16777216→c=b-d→a+1+1+3*c+12<16777216:=fun h0 h1=>nt fun h=>no [a,b,c,d,(b-d)] [(.s (.a (.a v0 (.m 3 v1)) (.n 20)),.n 16777216),(.m 3 v2,.m 3 v4),(.n 16777216,.a (.a (.s (.s v0)) (.m 3 v2)) (.n 12)),(.m 3 v4,.m 3 v1)] rfl h0 (Nat.mul_le_mul_left 3 (le' h1)) h (Nat.mul_le_mul_left 3 (sl b d))
theorem o208:a+3*b+20<16777216→c=b-d→-1+(↑c:Int)<4294967290:=fun h0 h1=>it fun h=>nz [↑a,↑b,↑c,↑(b-d),↑d] [(.a (.a (.a w0 (.m 3 w1)) (.n 20)) (.n 1),.n 16777216),(w2,w3),(w2,w3),(w2,w3),(.n 4294967290,.a (.g (.n 1)) w2),(.n 4294967290,.a (.g (.n 1)) w2),(.n 4294967290,.a (.g (.n 1)) w2),(w3,w1),(w3,w1),(w3,w1),(.n 0,w0)] rfl (zl h0) (zl (le' h1)) (zl (le' h1)) (zl (le' h1)) h h h (zl (sl b d)) (zl (sl b d)) (zl (sl b d)) (nn a)
theorem o209:-1≤-1:=il fun h=>nz [] [(.a (.g (.n 1)) (.n 1),.g (.n 1))] rfl h
theorem o210:a+1+(b+c)=a+1+b+c:=an (nl fun h=>no [a,b,c] [(.s (.a (.a (.s v0) v1) v2),.a (.s v0) (.a v1 v2))] rfl h) (nl fun h=>no [a,b,c] [(.s (.a (.s v0) (.a v1 v2)),.a (.a (.s v0) v1) v2)] rfl h)
theorem o211:a+3*b+20<16777216→a+0<16777216:=fun h0=>nt fun h=>no [a,b] [(.s (.a (.a v0 (.m 3 v1)) (.n 20)),.n 16777216),(.n 16777216,.a v0 (.n 0))] rfl h0 h
theorem o212:a+3*b+20<16777216→b≤4294967295:=fun h0=>nl fun h=>no [a,b] [(.s (.a (.a v0 (.m 3 v1)) (.n 20)),.n 16777216),(.s (.n 4294967295),v1)] rfl h0 h
theorem o213:20*a+b+38≤20*a+b+40:=nl fun h=>no [a,b] [(.s (.a (.a (.m 20 v0) v1) (.n 40)),.a (.a (.m 20 v0) v1) (.n 38))] rfl h
theorem o214:a+1+1+1+(b+c)=a+1+1+1+b+c:=an (nl fun h=>no [a,b,c] [(.s (.a (.a (.s (.s (.s v0))) v1) v2),.a (.s (.s (.s v0))) (.a v1 v2))] rfl h) (nl fun h=>no [a,b,c] [(.s (.a (.s (.s (.s v0))) (.a v1 v2)),.a (.a (.s (.s (.s v0))) v1) v2)] rfl h)
theorem o215:a+8≤a+9:=nl fun h=>no [a] [(.s (.a v0 (.n 9)),.a v0 (.n 8))] rfl h
theorem o216:a+9+1≤20*b+a+30:=nl fun h=>no [a,b] [(.s (.a (.a (.m 20 v1) v0) (.n 30)),.s (.a v0 (.n 9)))] rfl h
theorem o217:a+1+5≤a+6:=nl fun h=>no [a] [(.s (.a v0 (.n 6)),.a (.s v0) (.n 5))] rfl h
theorem o218:a+3*b+12<16777216→a+1+1<16777216:=fun h0=>nt fun h=>no [a,b] [(.s (.a (.a v0 (.m 3 v1)) (.n 12)),.n 16777216),(.n 16777216,.s (.s v0))] rfl h0 h
theorem o219:a+3*b+12<16777216→a+12<16777216:=fun h0=>nt fun h=>no [a,b] [(.s (.a (.a v0 (.m 3 v1)) (.n 12)),.n 16777216),(.n 16777216,.a v0 (.n 12))] rfl h0 h
theorem o220:20*a+b+35+1≤20*(a+1+1)+b+30:=nl fun h=>no [a,b] [(.s (.a (.a (.m 20 (.s (.s v0))) v1) (.n 30)),.s (.a (.a (.m 20 v0) v1) (.n 35)))] rfl h
theorem o221:a=b-c→20*a+(d+1+1)+30≤20*b+d+32:=fun h0=>nl fun h=>no [a,b,c,d,(b-c)] [(.m 20 v0,.m 20 v4),(.s (.a (.a (.m 20 v1) v3) (.n 32)),.a (.a (.m 20 v0) (.s (.s v3))) (.n 30)),(.m 20 v4,.m 20 v1)] rfl (Nat.mul_le_mul_left 20 (le' h0)) h (Nat.mul_le_mul_left 20 (sl b c))
theorem o222:a+3*(b+1+1)+12<16777216→c=b-d→a+1+1+3*c+12<16777216:=fun h0 h1=>nt fun h=>no [a,b,c,d,(b-d)] [(.s (.a (.a v0 (.m 3 (.s (.s v1)))) (.n 12)),.n 16777216),(.m 3 v2,.m 3 v4),(.n 16777216,.a (.a (.s (.s v0)) (.m 3 v2)) (.n 12)),(.m 3 v4,.m 3 v1)] rfl h0 (Nat.mul_le_mul_left 3 (le' h1)) h (Nat.mul_le_mul_left 3 (sl b d))
theorem o223:a<a+1+1+b:=nt fun h=>no [a,b] [(.a (.s (.s v0)) v1,v0)] rfl h
theorem o224 {a:Int}{b c d:Nat}:a+(↑(b+1+1):Int)<4294967290→c=b-d→a+1+(↑c:Int)<4294967290:=fun h0 h1=>it fun h=>nz [a,↑b,↑c,↑(b-d),↑d] [(.a (.a w0 (.a (.a w1 (.n 1)) (.n 1))) (.n 1),.n 4294967290),(w2,w3),(.n 4294967290,.a (.a w0 (.n 1)) w2),(w3,w1)] rfl h0 (zl (le' h1)) h (zl (sl b d))
theorem o225 {a:Int}:-1≤a→-1≤a+1:=fun h0=>il fun h=>nz [a] [(.g (.n 1),w0),(.a (.a w0 (.n 1)) (.n 1),.g (.n 1))] rfl h0 h
theorem o226:a+1+1<b+1→c=a-d→c<b:=fun h0 h1=>nt fun h=>no [a,b,c,d,(a-d)] [(.s (.s (.s v0)),.s v1),(v2,v4),(v1,v2),(v4,v0)] rfl h0 (le' h1) h (sl a d)
theorem o227:a+1+1+(b+c)=a+1+1+b+c:=an (nl fun h=>no [a,b,c] [(.s (.a (.a (.s (.s v0)) v1) v2),.a (.s (.s v0)) (.a v1 v2))] rfl h) (nl fun h=>no [a,b,c] [(.s (.a (.s (.s v0)) (.a v1 v2)),.a (.a (.s (.s v0)) v1) v2)] rfl h)
theorem o228:a+3*(b+1+1)+12<16777216→a+1+0<16777216:=fun h0=>nt fun h=>no [a,b] [(.s (.a (.a v0 (.m 3 (.s (.s v1)))) (.n 12)),.n 16777216),(.n 16777216,.a (.s v0) (.n 0))] rfl h0 h
theorem o229 {a:Int}{b:Nat}:-1≤a→a+(↑(b+1+1):Int)<4294967290→b≤4294967295:=fun h0 h1=>nl fun h=>nz [a,↑b] [(.g (.n 1),w0),(.a (.a w0 (.a (.a w1 (.n 1)) (.n 1))) (.n 1),.n 4294967290),(.a (.n 4294967295) (.n 1),w1)] rfl h0 h1 (zl h)
theorem o230:a+(2+b)=a+1+1+b:=an (nl fun h=>no [a,b] [(.s (.a (.s (.s v0)) v1),.a v0 (.a (.n 2) v1))] rfl h) (nl fun h=>no [a,b] [(.s (.a v0 (.a (.n 2) v1)),.a (.s (.s v0)) v1)] rfl h)
theorem o231 {a:Int}{b:Nat}:a+(↑b:Int)<4294967290→a+1<(↑4294967295:Int):=fun h0=>it fun h=>nz [a,↑b] [(.a (.a w0 w1) (.n 1),.n 4294967290),(.n 4294967295,.a w0 (.n 1)),(.n 0,w1)] rfl h0 h (nn b)
theorem o232 {a:Int}:-1≤a→¬a+1<(↑0:Int):=fun h0=>fun h=>nz [a] [(.g (.n 1),w0),(.a (.a w0 (.n 1)) (.n 1),.n 0)] rfl h0 h
theorem o233:min 1 (a+1)=1:=Nat.min_eq_left (Nat.le_add_left 1 a)
theorem o234:a=b+1→20*b+c+42+2≤20*a+c+30:=fun h0=>nl fun h=>no [a,b,c] [(.m 20 (.s v1),.m 20 v0),(.s (.a (.a (.m 20 v0) v2) (.n 30)),.a (.a (.a (.m 20 v1) v2) (.n 42)) (.n 2))] rfl (Nat.mul_le_mul_left 20 (le' h0.symm)) h
theorem o235:a+3*b+12<16777216→a+2<16777216:=fun h0=>nt fun h=>no [a,b] [(.s (.a (.a v0 (.m 3 v1)) (.n 12)),.n 16777216),(.n 16777216,.a v0 (.n 2))] rfl h0 h
theorem o236 {a:Int}{b:Nat}:a+(↑b:Int)<4294967290→a<4294967290:=fun h0=>it fun h=>nz [a,↑b] [(.a (.a w0 w1) (.n 1),.n 4294967290),(.n 4294967290,w0),(.n 0,w1)] rfl h0 h (nn b)
theorem o237:a+3*b+12<16777216→a+1+1+0<16777216:=fun h0=>nt fun h=>no [a,b] [(.s (.a (.a v0 (.m 3 v1)) (.n 12)),.n 16777216),(.n 16777216,.a (.s (.s v0)) (.n 0))] rfl h0 h
theorem o238:20*a+b+37≤20*a+b+38:=nl fun h=>no [a,b] [(.s (.a (.a (.m 20 v0) v1) (.n 38)),.a (.a (.m 20 v0) v1) (.n 37))] rfl h
theorem o239:a+27+2≤20*(b+1+1+1)+a+30:=nl fun h=>no [a,b] [(.s (.a (.a (.m 20 (.s (.s (.s v1)))) v0) (.n 30)),.a (.a v0 (.n 27)) (.n 2))] rfl h
theorem o240:a+3*b+12<16777216→a+7<16777216:=fun h0=>nt fun h=>no [a,b] [(.s (.a (.a v0 (.m 3 v1)) (.n 12)),.n 16777216),(.n 16777216,.a v0 (.n 7))] rfl h0 h
theorem o241:20*a+b+37+2≤20*(a+1+1)+b+30:=nl fun h=>no [a,b] [(.s (.a (.a (.m 20 (.s (.s v0))) v1) (.n 30)),.a (.a (.a (.m 20 v0) v1) (.n 37)) (.n 2))] rfl h
theorem o242 {a:Int}{b:Nat}:a+(↑(b+1+1):Int)<4294967290→a<4294967290:=fun h0=>it fun h=>nz [a,↑b] [(.a (.a w0 (.a (.a w1 (.n 1)) (.n 1))) (.n 1),.n 4294967290),(.n 4294967290,w0),(.n 0,w1)] rfl h0 h (nn b)
theorem o243:a<a+1+1:=nt fun h=>no [a] [(.s (.s v0),v0)] rfl h
theorem o244:a+23+2≤20*b+a+30:=nl fun h=>no [a,b] [(.s (.a (.a (.m 20 v1) v0) (.n 30)),.a (.a v0 (.n 23)) (.n 2))] rfl h
theorem o245:a+22+2≤20*b+a+30:=nl fun h=>no [a,b] [(.s (.a (.a (.m 20 v1) v0) (.n 30)),.a (.a v0 (.n 22)) (.n 2))] rfl h
theorem o246:a=b-c→20*a+(d+1+1+1)+30≤20*b+d+33:=fun h0=>nl fun h=>no [a,b,c,d,(b-c)] [(.m 20 v0,.m 20 v4),(.s (.a (.a (.m 20 v1) v3) (.n 33)),.a (.a (.m 20 v0) (.s (.s (.s v3)))) (.n 30)),(.m 20 v4,.m 20 v1)] rfl (Nat.mul_le_mul_left 20 (le' h0)) h (Nat.mul_le_mul_left 20 (sl b c))
theorem o247:a+3*b+12<16777216→c<b→d=c-e→a+1+1+1+3*d+12<16777216:=fun h0 h1 h2=>nt fun h=>no [a,b,c,d,e,(c-e)] [(.s (.a (.a v0 (.m 3 v1)) (.n 12)),.n 16777216),(.m 3 (.s v2),.m 3 v1),(.m 3 v3,.m 3 v5),(.n 16777216,.a (.a (.s (.s (.s v0))) (.m 3 v3)) (.n 12)),(.m 3 v5,.m 3 v2)] rfl h0 (Nat.mul_le_mul_left 3 h1) (Nat.mul_le_mul_left 3 (le' h2)) h (Nat.mul_le_mul_left 3 (sl c e))
theorem o248:a<b→a<b+c:=fun h0=>nt fun h=>no [a,b,c] [(.s v0,v1),(.a v1 v2,v0)] rfl h0 h
theorem o249 {a:Int}{b c d e:Nat}:a+(↑b:Int)<4294967290→c<b→d=c-e→a+1+(↑d:Int)<4294967290:=fun h0 h1 h2=>it fun h=>nz [a,↑b,↑c,↑d,↑(c-e),↑e] [(.a (.a w0 w1) (.n 1),.n 4294967290),(.a w2 (.n 1),w1),(w3,w4),(.n 4294967290,.a (.a w0 (.n 1)) w3),(w4,w2)] rfl h0 (zl h1) (zl (le' h2)) h (zl (sl c e))
theorem o250:a<b+1→c<a→d=c-e→d<b:=fun h0 h1 h2=>nt fun h=>no [a,b,c,d,e,(c-e)] [(.s v0,.s v1),(.s v2,v0),(v3,v5),(v1,v3),(v5,v2)] rfl h0 h1 (le' h2) h (sl c e)
theorem o251:a+(b+c)=a+b+c:=an (nl fun h=>no [a,b,c] [(.s (.a (.a v0 v1) v2),.a v0 (.a v1 v2))] rfl h) (nl fun h=>no [a,b,c] [(.s (.a v0 (.a v1 v2)),.a (.a v0 v1) v2)] rfl h)
theorem o252:a+3*b+12<16777216→c<b→c≤4294967295:=fun h0 h1=>nl fun h=>no [a,b,c] [(.s (.a (.a v0 (.m 3 v1)) (.n 12)),.n 16777216),(.s v2,v1),(.s (.n 4294967295),v2)] rfl h0 h1 h
theorem o253 {a:Int}:a<4294967290→a+1<(↑4294967295:Int):=fun h0=>it fun h=>nz [a] [(.a w0 (.n 1),.n 4294967290),(.n 4294967295,.a w0 (.n 1))] rfl h0 h
theorem o254:a+1+16≤a+17:=nl fun h=>no [a] [(.s (.a v0 (.n 17)),.a (.s v0) (.n 16))] rfl h
theorem o255:a+1+1+1≤a+3:=nl fun h=>no [a] [(.s (.a v0 (.n 3)),.s (.s (.s v0)))] rfl h
theorem o256:a+6<16777216→a+(4+1)<16777216:=fun h0=>nt fun h=>no [a] [(.s (.a v0 (.n 6)),.n 16777216),(.n 16777216,.a v0 (.s (.n 4)))] rfl h0 h
theorem o257:a+6+3≤a+14:=nl fun h=>no [a] [(.s (.a v0 (.n 14)),.a (.a v0 (.n 6)) (.n 3))] rfl h
theorem o258:a+1≤a+3:=nl fun h=>no [a] [(.s (.a v0 (.n 3)),.s v0)] rfl h
theorem o259:a+2≤a+3:=nl fun h=>no [a] [(.s (.a v0 (.n 3)),.a v0 (.n 2))] rfl h
theorem o260:a+1+1+1+1≤a+8:=nl fun h=>no [a] [(.s (.a v0 (.n 8)),.s (.s (.s (.s v0))))] rfl h
theorem o261:a+6<16777216→a+(3+1+1)<16777216:=fun h0=>nt fun h=>no [a] [(.s (.a v0 (.n 6)),.n 16777216),(.n 16777216,.a v0 (.s (.s (.n 3))))] rfl h0 h
theorem o262:a+b<16777216→a<16777216:=fun h0=>nt fun h=>no [a,b] [(.s (.a v0 v1),.n 16777216),(.n 16777216,v0)] rfl h0 h
theorem o263:a+(b+1)<16777216→a+1+b<16777216:=fun h0=>nt fun h=>no [a,b] [(.s (.a v0 (.s v1)),.n 16777216),(.n 16777216,.a (.s v0) v1)] rfl h0 h
theorem o264:1+(a+b)=a+1+b:=an (nl fun h=>no [a,b] [(.s (.a (.s v0) v1),.a (.n 1) (.a v0 v1))] rfl h) (nl fun h=>no [a,b] [(.s (.a (.n 1) (.a v0 v1)),.a (.s v0) v1)] rfl h)
theorem o265:20*a+55≤20*a+60:=nl fun h=>no [a] [(.s (.a (.m 20 v0) (.n 60)),.a (.m 20 v0) (.n 55))] rfl h
theorem o266:20*a+51≤20*a+60:=nl fun h=>no [a] [(.s (.a (.m 20 v0) (.n 60)),.a (.m 20 v0) (.n 51))] rfl h
theorem o267:20*a+42+3≤20*a+50:=nl fun h=>no [a] [(.s (.a (.m 20 v0) (.n 50)),.a (.a (.m 20 v0) (.n 42)) (.n 3))] rfl h
theorem o268:20*a+(0+1)+40≤20*a+41:=nl fun h=>no [a] [(.s (.a (.m 20 v0) (.n 41)),.a (.a (.m 20 v0) (.s (.n 0))) (.n 40))] rfl h
theorem o269:3*a+30<16777216→0+1+3*a+20<16777216:=fun h0=>nt fun h=>no [a] [(.s (.a (.m 3 v0) (.n 30)),.n 16777216),(.n 16777216,.a (.a (.s (.n 0)) (.m 3 v0)) (.n 20))] rfl h0 h
theorem o270:20*a+(0+1)+40≤20*(a+1+1)+50:=nl fun h=>no [a] [(.s (.a (.m 20 (.s (.s v0))) (.n 50)),.a (.a (.m 20 v0) (.s (.n 0))) (.n 40))] rfl h
theorem o271:3*(a+1+1)+30<16777216→0+1+3*a+20<16777216:=fun h0=>nt fun h=>no [a] [(.s (.a (.m 3 (.s (.s v0))) (.n 30)),.n 16777216),(.n 16777216,.a (.a (.s (.n 0)) (.m 3 v0)) (.n 20))] rfl h0 h
theorem o272:1≤20*a+60:=nl fun h=>no [a] [(.s (.a (.m 20 v0) (.n 60)),.n 1)] rfl h
theorem o273:a≤b→b+5≤1048576→c+1=a-d→3*c+30<16777216:=fun h0 h1 h2=>nt fun h=>no [a,b,c,d,(a-d)] [(.m 3 v0,.m 3 v1),(.m 3 (.a v1 (.n 5)),.m 3 (.n 1048576)),(.m 3 (.s v2),.m 3 v4),(.n 16777216,.a (.m 3 v2) (.n 30)),(.m 3 v4,.m 3 v0)] rfl (Nat.mul_le_mul_left 3 h0) (Nat.mul_le_mul_left 3 h1) (Nat.mul_le_mul_left 3 (le' h2)) h (Nat.mul_le_mul_left 3 (sl a d))
theorem o274:a≤b→b+5≤1048576→a-c≤4294967295:=fun h0 h1=>nl fun h=>no [a,b,c,(a-c)] [(v0,v1),(.a v1 (.n 5),.n 1048576),(.s (.n 4294967295),v3),(v3,v0)] rfl h0 h1 h (sl a c)
theorem o275:a≤b→min a b-c=a-c:=fun h=>congrArg (·-c) (Nat.min_eq_left h)
theorem o276:a<b→0≤a∧a<0+(b+1-0):=fun h0=>⟨nl fun h=>no [a,b] [(.s v0,.n 0)] rfl h,nt fun h=>no [a,b,((b+1)-0)] [(.s v0,v1),(.a (.n 0) v2,v0),(.s v1,.a v2 (.n 0))] rfl h0 h (sb (b+1) 0)⟩
theorem o277:a+(b+1)-1=a+b:=an (nl fun h=>no [a,b,((a+(b+1))-1)] [(.s (.a v0 v1),v2),(.s v2,.a v0 (.s v1))] rfl h (sc (nl fun u=>no [a,b,((a+(b+1))-1)] [(.s (.a v0 (.s v1)),.n 1)] rfl u))) (nl fun h=>no [a,b,((a+(b+1))-1)] [(.s v2,.a v0 v1),(.a v0 (.s v1),.s v2)] rfl h (sb (a+(b+1)) 1))
theorem o278:a+b<c→(↑(a+(b+1)):Int)-1<(↑c:Int):=fun h0=>it fun h=>nz [↑a,↑b,↑c] [(.a (.a w0 w1) (.n 1),w2),(w2,.s (.a w0 (.a w1 (.n 1))) (.n 1))] rfl (zl h0) h
theorem o279:-(↑a:Int)≤(↑(b+(c+1)):Int)-1:=il fun h=>nz [↑b,↑c,↑a] [(.a (.s (.a w0 (.a w1 (.n 1))) (.n 1)) (.n 1),.g w2),(.n 0,w0),(.n 0,w1),(.n 0,w2)] rfl h (nn b) (nn c) (nn a)
theorem o280:(↑(a+(b+1)):Int)-1=(↑(a+b):Int):=Int.le_antisymm (il fun h=>nz [↑a,↑b] [(.a (.a w0 w1) (.n 1),.s (.a w0 (.a w1 (.n 1))) (.n 1))] rfl h) (il fun h=>nz [↑a,↑b] [(.a (.s (.a w0 (.a w1 (.n 1))) (.n 1)) (.n 1),.a w0 w1)] rfl h)
theorem o281:(↑a:Int)≤(↑(a+b):Int)-1→b=b-1+1:=fun h0=>Nat.le_antisymm (nl fun h=>nz [↑a,↑b,↑(b-1)] [(.a (.a w2 (.n 1)) (.n 1),w1),(w1,.a w2 (.n 1))] rfl (zl h) (zl (sb b 1))) (nl fun h=>nz [↑a,↑b,↑(b-1)] [(.a w1 (.n 1),.a w2 (.n 1)),(.a w2 (.n 1),w1)] rfl (zl h) (zl (sc (nl fun u=>nz [↑a,↑b,↑(b-1)] [(w0,.s (.a w0 w1) (.n 1)),(.a w1 (.n 1),.n 1)] rfl h0 (zl u)))))
theorem o282:¬(↑a:Int)≤(↑(a+b):Int)-1→b=0:=fun h0=>Nat.le_antisymm (nl fun h=>nz [↑a,↑b] [(.a (.s (.a w0 w1) (.n 1)) (.n 1),w0),(.a (.n 0) (.n 1),w1)] rfl (it h0) (zl h)) (nl fun h=>nz [↑a,↑b] [(.a w1 (.n 1),.n 0),(.n 0,w1)] rfl (zl h) (nn b))
theorem o283:a+b-1<c→(↑(a+b):Int)-1<(↑c:Int):=fun h0=>it fun h=>nz [↑((a+b)-1),↑a,↑b,↑c] [(.a w0 (.n 1),w3),(w3,.s (.a w1 w2) (.n 1)),(.a w1 w2,.a w0 (.n 1))] rfl (zl h0) h (zl (sb (a+b) 1))
theorem o284:(↑(a+b):Int)-1=(↑(a+b-1):Int)→-(↑c:Int)≤(↑(a+b):Int)-1:=fun h0=>il fun h=>nz [↑a,↑b,↑((a+b)-1),↑c] [(w2,.s (.a w0 w1) (.n 1)),(.a (.s (.a w0 w1) (.n 1)) (.n 1),.g w3),(.n 0,w2),(.n 0,w3)] rfl (Int.le_of_eq h0.symm) h (nn ((a+b)-1)) (nn c)
theorem o285:0<a→(↑(b+a):Int)-1=(↑(b+a-1):Int):=fun h0=>Int.le_antisymm (il fun h=>nz [↑a,↑((b+a)-1),↑b] [(.a w1 (.n 1),.s (.a w2 w0) (.n 1)),(.a w2 w0,.a w1 (.n 1))] rfl h (zl (sb (b+a) 1))) (il fun h=>nz [↑a,↑b,↑((b+a)-1)] [(.a (.s (.a w1 w0) (.n 1)) (.n 1),w2),(.a w2 (.n 1),.a w1 w0)] rfl h (zl (sc (nl fun u=>nz [↑a,↑b,↑((b+a)-1)] [(.a (.n 0) (.n 1),w0),(.a (.a w1 w0) (.n 1),.n 1),(.n 0,w1)] rfl (zl h0) (zl u) (nn b)))))
theorem o286:0<a→(↑b:Int)≤(↑(b+a):Int)-1:=fun h0=>il fun h=>nz [↑a,↑b] [(.a (.n 0) (.n 1),w0),(.a (.s (.a w1 w0) (.n 1)) (.n 1),w1)] rfl (zl h0) h
theorem o287:¬(↑a:Int)≤(↑(a+0):Int)-1:=fun h=>nz [↑a] [(w0,.s (.a w0 (.n 0)) (.n 1))] rfl h
theorem o288:a+b=c-d→0<b→¬(↑c:Int)≤(↑(d+a):Int):=by intros;omega
theorem o289:a=b-c→(↑b:Int)≤(↑(c+a):Int):=fun h0=>il fun h=>nz [↑a,↑(b-c),↑b,↑c] [(w1,w0),(.a (.a w3 w0) (.n 1),w2),(w2,.a w1 w3)] rfl (zl (le' h0.symm)) h (zl (sb b c))
theorem o290:a<b→0=b-a→False:=fun h0 h1=>no [a,b,(b-a)] [(.s v0,v1),(v2,.n 0),(v1,.a v2 v0)] rfl h0 (le' h1.symm) (sb b a)
theorem o291:(↑a:Int)+1=(↑(a+1):Int):=Int.le_antisymm (il fun h=>nz [↑a] [(.a (.a w0 (.n 1)) (.n 1),.a w0 (.n 1))] rfl h) (il fun h=>nz [↑a] [(.a (.a w0 (.n 1)) (.n 1),.a w0 (.n 1))] rfl h)
theorem o292:(↑(a+2):Int)=(↑(a+1):Int)+1:=Int.le_antisymm (il fun h=>nz [↑a] [(.a (.a (.a w0 (.n 1)) (.n 1)) (.n 1),.a w0 (.n 2))] rfl h) (il fun h=>nz [↑a] [(.a (.a w0 (.n 2)) (.n 1),.a (.a w0 (.n 1)) (.n 1))] rfl h)
theorem o293:a+2≤b→a≤b:=fun h0=>nl fun h=>no [a,b] [(.a v0 (.n 2),v1),(.s v1,v0)] rfl h0 h
theorem o294:a+2≤b→a+(0+1)≤b:=fun h0=>nl fun h=>no [a,b] [(.a v0 (.n 2),v1),(.s v1,.a v0 (.s (.n 0)))] rfl h0 h
theorem o295:0<(↑(a+b+2):Int):=it fun h=>nz [↑a,↑b] [(.a (.a w0 w1) (.n 2),.n 0),(.n 0,w0),(.n 0,w1)] rfl h (nn a) (nn b)
theorem o296:a≤b→(↑a:Int)≤(↑b:Int):=fun h0=>il fun h=>nz [↑a,↑b] [(w0,w1),(.a w1 (.n 1),w0)] rfl (zl h0) h
theorem o297:(↑(a+(b+1)):Int)+1=(↑(a+b+2):Int):=Int.le_antisymm (il fun h=>nz [↑a,↑b] [(.a (.a (.a w0 w1) (.n 2)) (.n 1),.a (.a w0 (.a w1 (.n 1))) (.n 1))] rfl h) (il fun h=>nz [↑a,↑b] [(.a (.a (.a w0 (.a w1 (.n 1))) (.n 1)) (.n 1),.a (.a w0 w1) (.n 2))] rfl h)
theorem o298:a≤a+(b+1):=nl fun h=>no [a,b] [(.s (.a v0 (.s v1)),v0)] rfl h
theorem o299:a<b+(c+1)→a=b+(d+1)→d<c:=fun h0 h1=>nt fun h=>no [a,b,c,d] [(.s v0,.a v1 (.s v2)),(.a v1 (.s v3),v0),(v2,v3)] rfl h0 (le' h1.symm) h
theorem o300:a≤b→¬b=a→b=a+(b-a-1+1):=fun h0 h1=>an (nl fun h=>no [a,b,((b-a)-1),(b-a)] [(.s (.a v0 (.s v2)),v1),(v3,.s v2),(v1,.a v3 v0)] rfl h (sb (b-a) 1) (sb b a)) (nl fun h=>(ne h1).elim (fun u=>no [a,b,((b-a)-1),(b-a)] [(v0,v1),(.s v1,v0)] rfl h0 u) (fun u=>no [a,b,((b-a)-1),(b-a)] [(.s v1,.a v0 (.s v2)),(.s v2,v3),(.a v3 v0,v1)] rfl h (sc (nl fun uv=>no [a,b,((b-a)-1),(b-a)] [(.s v0,v1),(v1,.a v3 v0),(.s v3,.n 1)] rfl u (sb b a) uv)) (sc (nl fun uv=>no [a,b,((b-a)-1),(b-a)] [(v0,v1),(.s v1,v0)] rfl h0 uv))))
theorem o301:a+1<b+1→a<b:=fun h0=>nt fun h=>no [a,b] [(.s (.s v0),.s v1),(v1,v0)] rfl h0 h
theorem o302:a+2≤b→a-1≤b:=fun h0=>nl fun h=>no [a,b,(a-1)] [(.a v0 (.n 2),v1),(.s v1,v2),(v2,v0)] rfl h0 h (sl a 1)
theorem o303:a≤b→¬(↑a:Int)<(↑b:Int)→a=b:=fun h0 h1=>Nat.le_antisymm (nl fun h=>nz [↑a,↑b] [(w0,w1),(.a w1 (.n 1),w0)] rfl (zl h0) (zl h)) (nl fun h=>nz [↑a,↑b] [(w1,w0),(.a w0 (.n 1),w1)] rfl (il h1) (zl h))
theorem o304:2*a+10≤b→c≤a→d≤2*e+1→e+f+g=c→d+2≤b:=fun h0 h1 h2 h3=>nl fun h=>no [a,b,c,d,e,f,g] [(.a (.m 2 v0) (.n 10),v1),(v2,v0),(v2,v0),(v3,.s (.m 2 v4)),(.a (.a v4 v5) v6,v2),(.a (.a v4 v5) v6,v2),(.s v1,.a v3 (.n 2))] rfl h0 h1 h1 h2 (le' h3) (le' h3) h
theorem o305:2*a+10≤b→c≤a→d≤e→e+f+g=c→d+2≤b:=fun h0 h1 h2 h3=>nl fun h=>no [a,b,c,d,e,f,g] [(.a (.m 2 v0) (.n 10),v1),(v2,v0),(v2,v0),(v3,v4),(.a (.a v4 v5) v6,v2),(.a (.a v4 v5) v6,v2),(.s v1,.a v3 (.n 2))] rfl h0 h1 h1 h2 (le' h3) (le' h3) h
theorem o306:a+b<c→c≤d→a+b<d:=fun h0 h1=>nt fun h=>no [a,b,c,d] [(.s (.a v0 v1),v2),(v2,v3),(v3,.a v0 v1)] rfl h0 h1 h
theorem o307:a≤2*b+1→a≤2*(b+c)+1:=fun h0=>nl fun h=>no [a,b,c] [(v0,.s (.m 2 v1)),(.s (.s (.m 2 (.a v1 v2))),v0)] rfl h0 h
theorem o308:a≤b→a≤b+c:=fun h0=>nl fun h=>no [a,b,c] [(v0,v1),(.s (.a v1 v2),v0)] rfl h0 h
theorem o309:a+b+c=d→0<c→a+b<d:=fun h0 h1=>nt fun h=>no [a,b,c,d] [(.a (.a v0 v1) v2,v3),(.s (.n 0),v2),(v3,.a v0 v1)] rfl (le' h0) h1 h
theorem o310:a<b→c+d=b-a→a+c+d=b:=fun h0 h1=>an (nl fun h=>no [a,b,c,d,(b-a)] [(.a v2 v3,v4),(.s v1,.a (.a v0 v2) v3),(.a v4 v0,v1)] rfl (le' h1) h (sc (nl fun u=>no [a,b,c,d,(b-a)] [(.s v0,v1),(.s v1,v0)] rfl h0 u))) (nl fun h=>no [a,b,c,d,(b-a)] [(v4,.a v2 v3),(.s (.a (.a v0 v2) v3),v1),(v1,.a v4 v0)] rfl (le' h1.symm) h (sb b a))
theorem o311:a+b=c→a+b≤c:=fun h0=>nl fun h=>no [a,b,c] [(.a v0 v1,v2),(.s v2,.a v0 v1)] rfl (le' h0) h
theorem o312:a<b→c=b-a→a+c=b:=fun h0 h1=>an (nl fun h=>no [a,b,c,(b-a)] [(v2,v3),(.s v1,.a v0 v2),(.a v3 v0,v1)] rfl (le' h1) h (sc (nl fun u=>no [a,b,c,(b-a)] [(.s v0,v1),(.s v1,v0)] rfl h0 u))) (nl fun h=>no [a,b,c,(b-a)] [(v3,v2),(.s (.a v0 v2),v1),(v1,.a v3 v0)] rfl (le' h1.symm) h (sb b a))
theorem o313:a<b→a+(b-a-1)=b-1:=fun h0=>an (nl fun h=>no [a,b,(b-1),((b-a)-1),(b-a)] [(.s v2,.a v0 v3),(v1,.s v2),(.s v3,v4),(.a v4 v0,v1)] rfl h (sb b 1) (sc (nl fun u=>no [a,b,(b-1),((b-a)-1),(b-a)] [(.s v0,v1),(v1,.a v4 v0),(.s v4,.n 1)] rfl h0 (sb b a) u)) (sc (nl fun u=>no [a,b,(b-1),((b-a)-1),(b-a)] [(.s v0,v1),(.s v1,v0)] rfl h0 u))) (nl fun h=>no [a,b,((b-a)-1),(b-a),(b-1)] [(.s (.a v0 v2),v4),(v3,.s v2),(v1,.a v3 v0),(.s v4,v1)] rfl h (sb (b-a) 1) (sb b a) (sc (nl fun u=>no [a,b,((b-a)-1),(b-a),(b-1)] [(.s v0,v1),(.s v1,.n 1)] rfl h0 u)))
theorem o314:a<b→a+(b-a-1)<b:=fun h0=>nt fun h=>no [a,b,((b-a)-1),(b-a)] [(v1,.a v0 v2),(.s v2,v3),(.a v3 v0,v1)] rfl h (sc (nl fun u=>no [a,b,((b-a)-1),(b-a)] [(.s v0,v1),(v1,.a v3 v0),(.s v3,.n 1)] rfl h0 (sb b a) u)) (sc (nl fun u=>no [a,b,((b-a)-1),(b-a)] [(.s v0,v1),(.s v1,v0)] rfl h0 u))
theorem o315:a≤2*b+1→a≤2*(b+2)+1:=fun h0=>nl fun h=>no [a,b] [(v0,.s (.m 2 v1)),(.s (.s (.m 2 (.a v1 (.n 2)))),v0)] rfl h0 h
theorem o316:a≤b→a≤b+2:=fun h0=>nl fun h=>no [a,b] [(v0,v1),(.s (.a v1 (.n 2)),v0)] rfl h0 h
theorem o317:a+(b+1+1)=c→a+2≤c:=fun h0=>nl fun h=>no [a,b,c] [(.a v0 (.s (.s v1)),v2),(.s v2,.a v0 (.n 2))] rfl (le' h0) h
theorem o318:a≤2*b+1→a≤2*(b+1)+1:=fun h0=>nl fun h=>no [a,b] [(v0,.s (.m 2 v1)),(.s (.s (.m 2 (.s v1))),v0)] rfl h0 h
theorem o319:a+(0+1)=b→a+1≤b:=fun h0=>nl fun h=>no [a,b] [(.a v0 (.s (.n 0)),v1),(.s v1,.s v0)] rfl (le' h0) h
theorem o320:a≤b→1≤1+a∧1+a≤b+1:=fun h0=>⟨nl fun h=>no [a,b] [(.s (.a (.n 1) v0),.n 1)] rfl h,nl fun h=>no [a,b] [(v0,v1),(.s (.s v1),.a (.n 1) v0)] rfl h0 h⟩
theorem o321:a≤b→1≤3+a∧3+a≤b+1+1+1:=fun h0=>⟨nl fun h=>no [a,b] [(.s (.a (.n 3) v0),.n 1)] rfl h,nl fun h=>no [a,b] [(v0,v1),(.s (.s (.s (.s v1))),.a (.n 3) v0)] rfl h0 h⟩
theorem o322:0≤a+1+1:=nl fun h=>no [a] [(.s (.s (.s v0)),.n 0)] rfl h
theorem o323:a≤b→2+a≤b+1+1:=fun h0=>nl fun h=>no [a,b] [(v0,v1),(.s (.s (.s v1)),.a (.n 2) v0)] rfl h0 h
theorem o324:a≤b+1→1+a≤b+1+1:=fun h0=>nl fun h=>no [a,b] [(v0,.s v1),(.s (.s (.s v1)),.a (.n 1) v0)] rfl h0 h
theorem o325:3≤a+1+1+1:=nl fun h=>no [a] [(.s (.s (.s (.s v0))),.n 3)] rfl h
theorem o326:950+1+1≤1000:=nl fun h=>no [] [(.s (.n 1000),.s (.s (.n 950)))] rfl h
theorem o327:950+1≤1000:=nl fun h=>no [] [(.s (.n 1000),.s (.n 950))] rfl h
theorem o328:a≤950→a≤1000:=fun h0=>nl fun h=>no [a] [(v0,.n 950),(.s (.n 1000),v0)] rfl h0 h
theorem o329:a≤b→c≤a+1→c≤b+1:=fun h0 h1=>nl fun h=>no [a,b,c] [(v0,v1),(v2,.s v0),(.s (.s v1),v2)] rfl h0 h1 h
theorem o330:2*a+10≤b→c≤a→d=c→e≤2*d+1→e≤b:=fun h0 h1 h2 h3=>nl fun h=>no [a,b,c,d,e] [(.a (.m 2 v0) (.n 10),v1),(v2,v0),(v2,v0),(v3,v2),(v3,v2),(v4,.s (.m 2 v3)),(.s v1,v4)] rfl h0 h1 h1 (le' h2) (le' h2) h3 h
theorem o331:2*a+10≤b→c≤a→d=c→e≤d→e≤b:=fun h0 h1 h2 h3=>nl fun h=>no [a,b,c,d,e] [(.a (.m 2 v0) (.n 10),v1),(v2,v0),(v2,v0),(v3,v2),(v3,v2),(v4,v3),(v4,v3),(.s v1,v4)] rfl h0 h1 h1 (le' h2) (le' h2) h3 h3 h
theorem o332:1≤2*a+1:=nl fun h=>no [a] [(.s (.s (.m 2 v0)),.n 1)] rfl h
theorem o333:940+1+1≤950:=nl fun h=>no [] [(.s (.n 950),.s (.s (.n 940)))] rfl h
theorem o334:a≤940→a≤990:=fun h0=>nl fun h=>no [a] [(v0,.n 940),(.s (.n 990),v0)] rfl h0 h
theorem o335:990+1≤1000:=nl fun h=>no [] [(.s (.n 1000),.s (.n 990))] rfl h
theorem o336:a≤990→a≤1000:=fun h0=>nl fun h=>no [a] [(v0,.n 990),(.s (.n 1000),v0)] rfl h0 h
theorem o337:¬(↑(a+1):Int)=0:=fun h=>nz [↑a] [(.a w0 (.n 1),.n 0),(.n 0,w0)] rfl (Int.le_of_eq h) (nn a)
theorem o338:1≤a→(↑(a-1):Int)=(↑a:Int)-1:=fun h0=>Int.le_antisymm (il fun h=>nz [↑a,↑(a-1)] [(.a (.s w0 (.n 1)) (.n 1),w1),(.a w1 (.n 1),w0)] rfl h (zl (sc (nl fun u=>nz [↑a,↑(a-1)] [(.n 1,w0),(.a w0 (.n 1),.n 1)] rfl (zl h0) (zl u))))) (il fun h=>nz [↑a,↑(a-1)] [(.a w1 (.n 1),.s w0 (.n 1)),(w0,.a w1 (.n 1))] rfl h (zl (sb a 1)))
theorem o339:903+1≤940:=nl fun h=>no [] [(.s (.n 940),.s (.n 903))] rfl h
theorem o340:a≤903→a≤1000:=fun h0=>nl fun h=>no [a] [(v0,.n 903),(.s (.n 1000),v0)] rfl h0 h
theorem o341:900+1+1+1≤903:=nl fun h=>no [] [(.s (.n 903),.s (.s (.s (.n 900))))] rfl h
theorem o342:1≤a→a-1+1≤a:=fun h0=>nl fun h=>no [a,(a-1)] [(.s v0,.s v1),(.s v1,v0)] rfl h (sc (nl fun u=>no [a,(a-1)] [(.n 1,v0),(.s v0,.n 1)] rfl h0 u))
theorem o343:a≤b+1→b+5≤c→a≤c:=fun h0 h1=>nl fun h=>no [a,b,c] [(v0,.s v1),(.a v1 (.n 5),v2),(.s v2,v0)] rfl h0 h1 h
theorem o344:a≤b→a≤b:=fun h0=>nl fun h=>no [a,b] [(v0,v1),(.s v1,v0)] rfl h0 h
theorem o345:a<b→b=b-1+1:=fun h0=>an (nl fun h=>no [a,b,(b-1)] [(.s (.s v2),v1),(v1,.s v2)] rfl h (sb b 1)) (nl fun h=>no [a,b,(b-1)] [(.s v1,.s v2),(.s v2,v1)] rfl h (sc (nl fun u=>no [a,b,(b-1)] [(.s v0,v1),(.s v1,.n 1)] rfl h0 u)))
theorem o346:a+1+1≤b→a+1<b:=fun h0=>nt fun h=>no [a,b] [(.s (.s v0),v1),(v1,.s v0)] rfl h0 h
theorem o347:a+1+1≤b→a<b:=fun h0=>nt fun h=>no [a,b] [(.s (.s v0),v1),(v1,v0)] rfl h0 h
theorem o348:a+1+1≤b→a+1≤b:=fun h0=>nl fun h=>no [a,b] [(.s (.s v0),v1),(.s v1,.s v0)] rfl h0 h
theorem o349:a-1<a→a-1≤b→b≤c→1≤a∧a≤c+1:=fun h0 h1 h2=>⟨nl fun h=>no [a,b,c,(a-1)] [(.s v3,v0),(.s v0,.n 1)] rfl h0 h,nl fun h=>no [a,b,c,(a-1)] [(v3,v1),(v1,v2),(.s (.s v2),v0),(v0,.s v3)] rfl h1 h2 h (sb a 1)⟩
theorem o350:a=b→c≤d→d<a→c+1≤b:=fun h0 h1 h2=>nl fun h=>no [a,b,c,d] [(v0,v1),(v2,v3),(.s v3,v0),(.s v1,.s v2)] rfl (le' h0) h1 h2 h
theorem o367:a+20=a+18+2:=an (nl fun h=>no [a] [(.s (.a (.a v0 (.n 18)) (.n 2)),.a v0 (.n 20))] rfl h) (nl fun h=>no [a] [(.s (.a v0 (.n 20)),.a (.a v0 (.n 18)) (.n 2))] rfl h)
theorem o374 {a:Int}{b:Nat}:0≤a→Int.toNat a<b→0≤a∧a<(↑b:Int):=fun h0 h1=>⟨il fun h=>nz [a,↑(Int.toNat a),↑b] [(.n 0,w0),(.a w0 (.n 1),.n 0)] rfl h0 h,it fun h=>nz [a,↑(Int.toNat a),↑b] [(.a w1 (.n 1),w2),(w2,w0),(w0,w1)] rfl (zl h1) h (st a)⟩
theorem o375:a+2+9≤a+11:=nl fun h=>no [a] [(.s (.a v0 (.n 11)),.a (.a v0 (.n 2)) (.n 9))] rfl h
theorem o376:a+39=a+37+2:=an (nl fun h=>no [a] [(.s (.a (.a v0 (.n 37)) (.n 2)),.a v0 (.n 39))] rfl h) (nl fun h=>no [a] [(.s (.a v0 (.n 39)),.a (.a v0 (.n 37)) (.n 2))] rfl h)
theorem o377:0<a→a<2→a=1:=fun h0 h1=>an (nl fun h=>no [a] [(.s v0,.n 2),(.s (.n 1),v0)] rfl h1 h) (nl fun h=>no [a] [(.s (.n 0),v0),(.s v0,.n 1)] rfl h0 h)
theorem o378:a≤800→a≤900:=fun h0=>nl fun h=>no [a] [(v0,.n 800),(.s (.n 900),v0)] rfl h0 h
theorem o379:a≤800→a≤890:=fun h0=>nl fun h=>no [a] [(v0,.n 800),(.s (.n 890),v0)] rfl h0 h
theorem o380:1+(a+1+b)=a+1+1+b:=an (nl fun h=>no [a,b] [(.s (.a (.s (.s v0)) v1),.a (.n 1) (.a (.s v0) v1))] rfl h) (nl fun h=>no [a,b] [(.s (.a (.n 1) (.a (.s v0) v1)),.a (.s (.s v0)) v1)] rfl h)
theorem o381:a+b=c+1→0+a+b=c+1:=fun h0=>an (nl fun h=>no [a,b,c] [(.a v0 v1,.s v2),(.s (.s v2),.a (.a (.n 0) v0) v1)] rfl (le' h0) h) (nl fun h=>no [a,b,c] [(.s v2,.a v0 v1),(.s (.a (.a (.n 0) v0) v1),.s v2)] rfl (le' h0.symm) h)
theorem o382:0<a→a+b=a+b-1+1:=fun h0=>an (nl fun h=>no [a,b,((a+b)-1)] [(.s (.s v2),.a v0 v1),(.a v0 v1,.s v2)] rfl h (sb (a+b) 1)) (nl fun h=>no [a,b,((a+b)-1)] [(.s (.a v0 v1),.s v2),(.s v2,.a v0 v1)] rfl h (sc (nl fun u=>no [a,b,((a+b)-1)] [(.s (.n 0),v0),(.s (.a v0 v1),.n 1)] rfl h0 u)))
theorem o383:1+a+b=a+b+1:=an (nl fun h=>no [a,b] [(.s (.s (.a v0 v1)),.a (.a (.n 1) v0) v1)] rfl h) (nl fun h=>no [a,b] [(.s (.a (.a (.n 1) v0) v1),.s (.a v0 v1))] rfl h)
theorem o384:1+0+a=a+1:=an (nl fun h=>no [a] [(.s (.s v0),.a (.a (.n 1) (.n 0)) v0)] rfl h) (nl fun h=>no [a] [(.s (.a (.a (.n 1) (.n 0)) v0),.s v0)] rfl h)
theorem o385:a=0+a:=an (nl fun h=>no [a] [(.s (.a (.n 0) v0),v0)] rfl h) (nl fun h=>no [a] [(.s v0,.a (.n 0) v0)] rfl h)
theorem o386:a+b+1=a+1+b:=an (nl fun h=>no [a,b] [(.s (.a (.s v0) v1),.s (.a v0 v1))] rfl h) (nl fun h=>no [a,b] [(.s (.s (.a v0 v1)),.a (.s v0) v1)] rfl h)
theorem o387:0+a+b=a+b:=an (nl fun h=>no [a,b] [(.s (.a v0 v1),.a (.a (.n 0) v0) v1)] rfl h) (nl fun h=>no [a,b] [(.s (.a (.a (.n 0) v0) v1),.a v0 v1)] rfl h)
theorem o388:a+(b+c)=b+c+a:=an (nl fun h=>no [a,b,c] [(.s (.a (.a v1 v2) v0),.a v0 (.a v1 v2))] rfl h) (nl fun h=>no [a,b,c] [(.s (.a v0 (.a v1 v2)),.a (.a v1 v2) v0)] rfl h)
theorem o389:a+1≤b→a<b+1:=fun h0=>nt fun h=>no [a,b] [(.s v0,v1),(.s v1,v0)] rfl h0 h
theorem o390:a+1+b-(a+1)=b:=an (nl fun h=>no [a,b,(((a+1)+b)-(a+1))] [(.s v1,v2),(.a v2 (.s v0),.a (.s v0) v1)] rfl h (sc (nl fun u=>no [a,b,(((a+1)+b)-(a+1))] [(.s (.a (.s v0) v1),.s v0)] rfl u))) (nl fun h=>no [a,b,(((a+1)+b)-(a+1))] [(.s v2,v1),(.a (.s v0) v1,.a v2 (.s v0))] rfl h (sb ((a+1)+b) (a+1)))
theorem o391:a=b+1→a≤b+1+c:=fun h0=>nl fun h=>no [a,b,c] [(v0,.s v1),(.s (.a (.s v1) v2),v0)] rfl (le' h0) h
theorem o392:a=b+1→b<a:=fun h0=>nt fun h=>no [a,b] [(.s v1,v0),(v0,v1)] rfl (le' h0.symm) h
theorem o393:a+1+(b+1)-1=a+1+b:=an (nl fun h=>no [a,b,(((a+1)+(b+1))-1)] [(.s (.a (.s v0) v1),v2),(.s v2,.a (.s v0) (.s v1))] rfl h (sc (nl fun u=>no [a,b,(((a+1)+(b+1))-1)] [(.s (.a (.s v0) (.s v1)),.n 1)] rfl u))) (nl fun h=>no [a,b,(((a+1)+(b+1))-1)] [(.s v2,.a (.s v0) v1),(.a (.s v0) (.s v1),.s v2)] rfl h (sb ((a+1)+(b+1)) 1))
theorem o396:a≤b→c≤a+11→c≤b+11:=fun h0 h1=>nl fun h=>no [a,b,c] [(v0,v1),(v2,.a v0 (.n 11)),(.s (.a v1 (.n 11)),v2)] rfl h0 h1 h
theorem o397:a≤700→b≤a→b≤800:=fun h0 h1=>nl fun h=>no [a,b] [(v0,.n 700),(v1,v0),(.s (.n 800),v1)] rfl h0 h1 h
theorem o398 {a:Int}:0≤a→(↑(Int.toNat a):Int)=a:=fun h0=>Int.le_antisymm (il fun h=>nz [a,↑(Int.toNat a)] [(.a w0 (.n 1),w1),(w1,w0)] rfl h (tn (il fun u=>nz [a,↑(Int.toNat a)] [(.n 0,w0),(.a w0 (.n 1),.n 0)] rfl h0 u))) (il fun h=>nz [a,↑(Int.toNat a)] [(.a w1 (.n 1),w0),(w0,w1)] rfl h (st a))
theorem o399:0<a→¬(↑a:Int)=0:=fun h0=>fun h=>nz [↑a] [(.a (.n 0) (.n 1),w0),(w0,.n 0)] rfl (zl h0) (Int.le_of_eq h)
theorem o400 {a:Nat}{b:Int}:0<a→b<(↑a:Int)→Int.toNat b<a:=by intros;omega
theorem o401:a≤63→a≤1048576:=fun h0=>nl fun h=>no [a] [(v0,.n 63),(.s (.n 1048576),v0)] rfl h0 h
theorem o445:a≤20→4+10*20+200<b→4+10*a+200<b:=fun h0 h1=>nt fun h=>no [a,b] [(.m 10 v0,.m 10 (.n 20)),(.s (.a (.a (.n 4) (.m 10 (.n 20))) (.n 200)),v1),(v1,.a (.a (.n 4) (.m 10 v0)) (.n 200))] rfl (Nat.mul_le_mul_left 10 h0) h1 h
theorem o446:a≤20→1+b+20<c→1+b+a<c:=fun h0 h1=>nt fun h=>no [a,b,c] [(v0,.n 20),(.s (.a (.a (.n 1) v1) (.n 20)),v2),(v2,.a (.a (.n 1) v1) v0)] rfl h0 h1 h
end
end Mine.Om
end
section
namespace Mine
inductive Md where
 |N|Nb|E|C
 |Q1 (d:Bool) (f:Nat)|Q2 (d:Bool) (f:Nat)
 |S1 (d:Bool) (f:Nat)|S1e (d:Bool) (f:Nat)
 |S3 (d:Bool) (k f:Nat)|S3e (d:Bool) (f:Nat)
 deriving DecidableEq
structure St where
 md:Md
 lv:Nat
 ln:Nat
 gd:List Nat
 deriving DecidableEq
noncomputable def qc (d:Bool):Nat:=if d then 34 else 39
noncomputable def nl (s:St):St:=⟨.N,s.lv,s.ln+1,if s.lv=0 then s.gd++[s.ln+1] else s.gd⟩
noncomputable def aX (s:St)(c:Nat):St:=
 if c=10 then nl s
 else if c=40 then {s with md:=.N,lv:=s.lv+1}
 else if c=41 then {s with md:=.N,lv:=s.lv-1}
 else if c=34 then {s with md:=.Q1 true s.ln}
 else if c=39 then {s with md:=.Q1 false s.ln}
 else if c=35 then {s with md:=.C}
 else if c=92 then {s with md:=.E}
 else {s with md:=.N}
noncomputable def bc (s:St)(d:Bool)(f c:Nat):St:=
 if c=qc d then {s with md:=.N}
 else if c=10 then nl s
 else if c=92 then {s with md:=.S1e d f}
 else {s with md:=.S1 d f}
noncomputable def step (s:St)(c:Nat):St:=
 match s.md with
 | .N=>aX s c
 | .Nb=>aX s c
 | .E=>if c=10 then {s with md:=.Nb,ln:=s.ln+1} else {s with md:=.N}
 | .C=>if c=10 then nl s else s
 | .Q1 d f=>if c=qc d then {s with md:=.Q2 d f} else bc s d f c
 | .Q2 d f=>if c=qc d then {s with md:=.S3 d 0 f} else aX s c
 | .S1 d f=>bc s d f c
 | .S1e d f=>if c=10 then {s with md:=.S1 d f,ln:=s.ln+1} else {s with md:=.S1 d f}
 | .S3 d k f=>
  if c=qc d then (if k=2 then {s with md:=.N} else {s with md:=.S3 d (k+1) f})
  else if c=10 then {s with md:=.S3 d 0 f,ln:=s.ln+1}
  else if c=92 then {s with md:=.S3e d f}
  else {s with md:=.S3 d 0 f}
 | .S3e d f=>if c=10 then {s with md:=.S3 d 0 f,ln:=s.ln+1} else {s with md:=.S3 d 0 f}
noncomputable def scan (s:St)(l:List Nat):St:=l.foldl step s
noncomputable def st0:St:=⟨.N,0,0,[0]⟩
noncomputable def tr (c:Nat):Nat:=
 if c=40∨c=123∨c=91 then 40 else if c=41∨c=125∨c=93 then 41
 else if c=34∨c=39∨c=92∨c=10∨c=35 then c else 120
theorem bf (s:St)(c:Nat)(l:List Nat):scan s (c::l)=scan (step s c) l:=rfl
theorem aM (s:St)(a b:List Nat):scan s (a++b)=scan (scan s a) b:=List.foldl_append ..
theorem tS (s:St):step (step s 120) 120=step s 120:=by
 obtain⟨md,lv,ln,gd⟩:=s
 cases md with
 |N=>rfl
 |Nb=>rfl
 |E=>rfl
 |C=>rfl
 |Q1 d f=>cases d<;>rfl
 |Q2 d f=>cases d<;>rfl
 |S1 d f=>cases d<;>rfl
 |S1e d f=>cases d<;>rfl
 |S3 d k f=>cases d<;>rfl
 |S3e d f=>cases d<;>rfl
theorem pN (s:St)(k:Nat):scan s (List.replicate (k+1) 120)=step s 120:=by
 induction k generalizing s with
 |zero=>rfl
 |succ k ih=>rw[List.replicate_succ,bf,ih,tS]
noncomputable def un (s:St):St:=match s.md with | .Nb=>{s with md:=.N}|_=>s
theorem sK (s:St)(c:Nat):step (un s) c=step s c:=by
 obtain⟨md,lv,ln,gd⟩:=s
 cases md<;>rfl
theorem mX (s:St)(c:Nat)(l:List Nat):scan (un s) (c::l)=scan s (c::l):=by
 rw[bf,bf,sK]
theorem tU (s:St):step (step s 10) 120=un (step s 10):=by
 obtain⟨md,lv,ln,gd⟩:=s
 cases md with
 |N=>rfl
 |Nb=>rfl
 |E=>rfl
 |C=>rfl
 |Q1 d f=>cases d<;>rfl
 |Q2 d f=>cases d<;>rfl
 |S1 d f=>cases d<;>rfl
 |S1e d f=>cases d<;>rfl
 |S3 d k f=>cases d<;>rfl
 |S3e d f=>cases d<;>rfl
theorem t8 (s:St)(c:Nat)(l:List Nat):scan s (10::120::c::l)=scan s (10::c::l):=by
 rw[bf,bf,tU,mX,←bf]
end Mine
end
section
namespace Mine
open PySem PySem.Builtin.Str
noncomputable abbrev sg (x:Str):List Nat:=x.cps.toList
theorem iB (a b:Str):sg (a++b)=sg a++sg b:=by
 show (a.cps++b.cps).toList=_
 simp[sg]
theorem bt (x y z:Str)(hy:y.length≠0):∃parts:List Str,Str.join y parts=x∧Txt.replace x y z=Str.join z parts:=by
 unfold Txt.replace
 have e:(y.length==0&&z.length==0)=false:=by simp[hy]
 rw[e,Bool.or_false]
 by_cases h:(occurrences x y 0 x.length (x.length+1)).isEmpty=true
 ·rw[if_pos h];exact⟨[x],rfl,rfl⟩
 ·rw[if_neg h]
  refine⟨partsBetween x (occurrences x y 0 x.length (x.length+1)) y.length,?_,StrLaws.glued_eq_join _ _⟩
  obtain⟨f,h⟩:=StrLaws.occ_chain x y (x.length+1)
  rw[StrLaws.partsBetween_eq,StrLaws.join_partsFrom x y _ 0 f h,StrLaws.sub_whole]
theorem aN (y a b:Str)(r:List Str):sg (Str.join y (a::b::r))=sg a++(sg y++sg (Str.join y (b::r))):=by
 show sg (a++y++Str.join y (b::r))=_
 rw[iB,iB,List.append_assoc]
theorem iG {y z:Str}(h:∀s,scan s (sg y)=scan s (sg z)):∀(parts:List Str) (s:St),scan s (sg (Str.join y parts))=scan s (sg (Str.join z parts))
 | [],_=>rfl
 | [_],_=>rfl
 |a::b::r,s=>by
  rw[aN,aN,aM,aM,aM,aM,h,iG h (b::r)]
theorem jF {x y z:Str}(hy:y.length≠0)(h:∀s,scan s (sg y)=scan s (sg z))(s:St):scan s (sg (Txt.replace x y z))=scan s (sg x):=by
 obtain⟨parts,e1,e2⟩:=bt x y z hy
 rw[e2,←iG h,e1]
theorem f8 {y z:Str}(hy:sg y=[10,120])(hz:sg z=[10]):∀(parts:List Str) (s:St),(sg (Str.join y parts)).getLast?≠some 120→
  scan s (sg (Str.join y parts))=scan s (sg (Str.join z parts))
 | [],_,_=>rfl
 | [_],_,_=>rfl
 |a::b::r,s,hl=>by
  rw[aN,hy] at hl
  rw[aN,aN,hy,hz,aM s (sg a),aM s (sg a)]
  have hne:sg (Str.join y (b::r))≠[]:=by
   intro e;rw[e] at hl;simp at hl
  have hl':(sg (Str.join y (b::r))).getLast?≠some 120:=by
   intro e;apply hl
   rw[List.getLast?_append,List.getLast?_append,e];rfl
  have ih:=fun s=>f8 hy hz (b::r) s hl'
  generalize scan s (sg a)=s
  have e10:scan s ([10]++sg (Str.join z (b::r)))=scan s (10::sg (Str.join y (b::r))):=by
   show scan (step s 10) (sg (Str.join z (b::r)))=scan (step s 10) (sg (Str.join y (b::r)))
   exact (ih _).symm
  rw[e10]
  obtain⟨c,l,e⟩:=List.exists_cons_of_ne_nil hne
  rw[e]
  exact t8 s c l
theorem f6 {y z:Str}(hy:sg y=[10,120])(hz:sg z=[10]):∀(parts:List Str),(sg (Str.join y parts)).getLast?≠some 120→
  (sg (Str.join z parts)).getLast?=(sg (Str.join y parts)).getLast?
 | [],_=>rfl
 | [_],_=>rfl
 |a::b::r,hl=>by
  rw[aN,hy] at hl
  rw[aN,aN,hy,hz]
  have hne:sg (Str.join y (b::r))≠[]:=by
   intro e;rw[e] at hl;simp at hl
  have hl':(sg (Str.join y (b::r))).getLast?≠some 120:=by
   intro e;apply hl
   rw[List.getLast?_append,List.getLast?_append,e];rfl
  have ih:=f6 hy hz (b::r) hl'
  have hs:(sg (Str.join y (b::r))).getLast?.isSome=true:=by
   rw[Option.isSome_iff_ne_none];intro e;exact hne (List.getLast?_eq_none_iff.mp e)
  rw[List.getLast?_append,List.getLast?_append,List.getLast?_append,List.getLast?_append,ih]
  obtain⟨v,hv⟩:=Option.isSome_iff_exists.mp hs
  rw[hv];rfl
theorem hW {y z:Str}(hy:(sg y).getLast?=some 120)(hz:(sg z).getLast?=some 120):∀(parts:List Str),(sg (Str.join z parts)).getLast?=(sg (Str.join y parts)).getLast?
 | []=>rfl
 | [_]=>rfl
 |a::b::r=>by
  rw[aN,aN]
  have ih:=hW hy hz (b::r)
  rw[List.getLast?_append,List.getLast?_append,List.getLast?_append,List.getLast?_append,ih,hy,hz]
theorem jW (y:Str):∀(parts:List Str) (c:Nat),c∈sg (Str.join y parts)→c∈sg y∨∃p∈parts,c∈sg p
 | [],c,h=>by simp[Str.join,Str.empty,sg] at h
 | [a],c,h=>.inr ⟨a,.head _,h⟩
 |a::b::r,c,h=>by
  rw[aN] at h
  simp only[List.mem_append] at h
  rcases h with h|h|h
  ·exact .inr ⟨a,.head _,h⟩
  ·exact .inl h
  ·rcases jW y (b::r) c h with h|⟨p,hp,h⟩
   ·exact .inl h
   ·exact .inr ⟨p,.tail _ hp,h⟩
theorem kY (y:Str):∀(parts:List Str) (p:Str),p∈parts→∀c∈sg p,c∈sg (Str.join y parts)
 | [a],p,hp,c,h=>by
  have:p=a:=by simpa using hp
  rw[←this];exact h
 |a::b::r,p,hp,c,h=>by
  rw[aN]
  simp only[List.mem_append]
  rcases List.mem_cons.mp hp with rfl|hp
  ·exact .inl h
  ·exact .inr (.inr (kY y (b::r) p hp c h))
theorem ck {x y z:Str}(hy:y.length≠0){c:Nat}(h:c∈sg (Txt.replace x y z)):c∈sg z∨c∈sg x:=by
 obtain⟨parts,e1,e2⟩:=bt x y z hy
 rw[e2] at h
 rcases jW z parts c h with h|⟨p,hp,h⟩
 ·exact .inl h
 ·rw[←e1];exact .inr (kY y parts p hp c h)
theorem kH {y z:Str}(h:(sg z).length≤(sg y).length):∀parts:List Str,(sg (Str.join z parts)).length≤(sg (Str.join y parts)).length
 | []=>Nat.le_refl _
 | [_]=>Nat.le_refl _
 |a::b::r=>by
  have ih:=kH h (b::r)
  rw[aN,aN]
  simp only[List.length_append]
  exact Om.o0 h ih
theorem bS {x y z:Str}(hy:y.length≠0)(h:(sg z).length≤(sg y).length):(sg (Txt.replace x y z)).length≤(sg x).length:=by
 obtain⟨parts,e1,e2⟩:=bt x y z hy
 rw[e2,←e1];exact kH h parts
noncomputable def X (n:Nat):Str:=⟨(List.replicate n 120).toArray⟩
noncomputable def cD (x:Str):Str:=
 Txt.replace (Txt.replace (Txt.replace (Txt.replace (Txt.replace x (X 8) (X 1)) (X 4) (X 1)) (X 2) (X 1)) (X 2) (X 1)) ⟨#[10,120]⟩ ⟨#[10]⟩
theorem eU (x:Str)(k:Nat)(s:St):scan s (sg (Txt.replace x (X (k+1)) (X 1)))=scan s (sg x):=
 jF (by simp[X,Str.length]) (fun s=>by
  show scan s (List.replicate (k+1) 120)=scan s (List.replicate (0+1) 120)
  rw[pN,pN]) s
theorem cf (x:Str)(k:Nat):(sg (Txt.replace x (X (k+1)) (X 1))).getLast?=(sg x).getLast?:=by
 obtain⟨parts,e1,e2⟩:=bt x (X (k+1)) (X 1) (by simp[X,Str.length])
 rw[e2]
 conv=>rhs;rw[←e1]
 exact hW (by show (List.replicate (k+1) 120).getLast?=_;simp[List.getLast?_replicate]) rfl parts
theorem j0 (x:Str)(h:(sg x).getLast?≠some 120)(s:St):scan s (sg (cD x))=scan s (sg x):=by
 unfold cD
 have h4:(sg (Txt.replace (Txt.replace (Txt.replace (Txt.replace x (X 8) (X 1)) (X 4) (X 1)) (X 2) (X 1)) (X 2) (X 1))).getLast?=(sg x).getLast?:=by
  rw[cf _ 1,cf _ 1,cf _ 3,cf _ 7]
 obtain⟨parts,e1,e2⟩:=bt (Txt.replace (Txt.replace (Txt.replace (Txt.replace x (X 8) (X 1)) (X 4) (X 1)) (X 2) (X 1)) (X 2) (X 1)) ⟨#[10,120]⟩ ⟨#[10]⟩ (by decide)
 rw[e2,←f8 (y:=⟨#[10,120]⟩) (z:=⟨#[10]⟩) rfl rfl parts s (by rw[e1,h4];exact h),e1,eU _ 1,eU _ 1,eU _ 3,eU _ 7]
theorem kZ (x:Str)(h:(sg x).getLast?≠some 120):(sg (cD x)).getLast?=(sg x).getLast?:=by
 unfold cD
 have h4:(sg (Txt.replace (Txt.replace (Txt.replace (Txt.replace x (X 8) (X 1)) (X 4) (X 1)) (X 2) (X 1)) (X 2) (X 1))).getLast?=(sg x).getLast?:=by
  rw[cf _ 1,cf _ 1,cf _ 3,cf _ 7]
 obtain⟨parts,e1,e2⟩:=bt (Txt.replace (Txt.replace (Txt.replace (Txt.replace x (X 8) (X 1)) (X 4) (X 1)) (X 2) (X 1)) (X 2) (X 1)) ⟨#[10,120]⟩ ⟨#[10]⟩ (by decide)
 rw[e2,f6 (y:=⟨#[10,120]⟩) (z:=⟨#[10]⟩) rfl rfl parts (by rw[e1,h4];exact h),e1,h4]
theorem mo {x:Str}{c:Nat}(h:c∈sg (cD x)):c=120∨c=10∨c∈sg x:=by
 unfold cD at h
 rcases ck (by decide) h with h|h
 ·exact .inr (.inl (by simpa [sg] using h))
 rcases ck (by decide) h with h|h
 ·exact .inl (by simpa [sg,X] using h)
 rcases ck (by decide) h with h|h
 ·exact .inl (by simpa [sg,X] using h)
 rcases ck (by decide) h with h|h
 ·exact .inl (by simpa [sg,X] using h)
 rcases ck (by decide) h with h|h
 ·exact .inl (by simpa [sg,X] using h)
 ·exact .inr (.inr h)
end Mine
end
section
namespace Mine
open PySem PyProof.Rows
theorem aA {A:Prop}(h:∀G:Prop,(A→G)→G):A:=h A id
theorem nos {α:Type}{a:Option α}{x:α}(e:a=none)(g:a=some x):False:=by rw[e] at g;contradiction
theorem ls0 {α:Type}{P:List α→Prop}(h:P [])(l:List α)(e:l.length=0):P l:=List.eq_nil_of_length_eq_zero e▸h
theorem lsS {α:Type}{n:Nat}{P:List α→Prop}(h:∀a l,l.length=n→P (a::l))(l:List α):l.length=n+1→P l:=
 List.casesOn (motive:=fun l=>l.length=n+1→P l) l (fun e=>absurd e.symm (Nat.succ_ne_zero n)) fun a l e=>h a l (Nat.succ.inj e)
inductive D where
 |none
 |bool (b:Bool)
 |int (i:Int)
 |str (x:Str)
 |tup (xs:List D)
 |lst (xs:List D)
inductive Bi where
 |len|isinstance|max|min|list|tuple|range|bool|int
noncomputable def Bi.val:Bi→Value
 | .len=>.builtin "len"
 | .isinstance=>.builtin "isinstance"
 | .max=>.builtin "max"
 | .min=>.builtin "min"
 | .list=>.type "list"
 | .tuple=>.type "tuple"
 | .range=>.type "range"
 | .bool=>.type "bool"
 | .int=>.type "int"
inductive V where
 |d (x:D)
 |obj (k:Nat)
 |val (w:Value)
 |rng (a b:Int)
 |bi (b:Bi)
 |mt (e:Int)
inductive O where
 |list (xs:List D)
 |ns (fs:List (Str×V))
 |inst (C:Addr) (dk:Nat)
 |bound (id:String) (k:Nat)
noncomputable abbrev aa:=List (Nat×O)
noncomputable abbrev Loc:=List (Str×V)
noncomputable def look {β:Type}:List (Str×β)→Str→Option β
 | [],_=>none
 | (y,v)::r,x=>if y=x then some v else look r x
noncomputable def put {β:Type}:List (Str×β)→Str→β→List (Str×β)
 | [],x,v=>[(x,v)]
 | (y,u)::r,x,v=>if y=x then (y,v)::r else (y,u)::put r x v
theorem am {β:Type}(l:List (Str×β))(x y:Str)(v:β):look (put l x v) y=if y=x then some v else look l y:=by
 induction l with
 |nil=>
  dsimp only[put,look]
  by_cases h:x=y
  ·rw[if_pos h,if_pos h.symm]
  ·rw[if_neg h,if_neg (fun e=>h e.symm)]
 |cons p r ih=>
  obtain⟨z,u⟩:=p
  dsimp only[put]
  by_cases hz:z=x
  ·rw[if_pos hz]
   dsimp only[look]
   subst hz
   by_cases h:z=y
   ·rw[if_pos h,if_pos h.symm]
   ·rw[if_neg h,if_neg (fun e=>h e.symm),if_neg h]
  ·rw[if_neg hz]
   dsimp only[look]
   by_cases h:z=y
   ·rw[if_pos h,if_pos h]
    rw[if_neg (fun e=>hz (h.trans e))]
   ·rw[if_neg h,if_neg h];exact ih
noncomputable def ae:aa→Nat→Option O
 | [],_=>none
 | (j,o)::r,k=>if j=k then some o else ae r k
noncomputable def cset:aa→Nat→O→aa
 | [],_,_=>[]
 | (j,u)::r,k,o=>if j=k then (j,o)::r else (j,u)::cset r k o
noncomputable def dom (c:aa):List Nat:=c.map (·.1)
theorem ai {c:aa}{k:Nat}{o:O}(h:ae c k=some o):k∈dom c:=by
 induction c with
 |nil=>cases h
 |cons p r ih=>
  obtain⟨j,u⟩:=p
  dsimp only[ae] at h
  by_cases e:j=k
  ·subst e;exact .head _
  ·rw[if_neg e] at h;exact .tail _ (ih h)
theorem pR {c:aa}{k:Nat}(h:k∈dom c):∃o,ae c k=some o:=by
 induction c with
 |nil=>cases h
 |cons p r ih=>
  obtain⟨j,u⟩:=p
  dsimp only[ae]
  by_cases e:j=k
  ·exact⟨u,if_pos e⟩
  ·rw[if_neg e]
   rcases List.mem_cons.mp h with h|h
   ·exact absurd h.symm e
   ·exact ih h
theorem ah (c:aa)(k:Nat)(o:O):dom (cset c k o)=dom c:=by
 induction c with
 |nil=>rfl
 |cons p r ih=>
  obtain⟨j,u⟩:=p
  dsimp only[cset]
  by_cases e:j=k
  ·rw[if_pos e];rfl
  ·rw[if_neg e];show j::dom (cset r k o)=_;rw[ih];rfl
theorem au {c:aa}{k:Nat}(h:k∈dom c)(o:O)(j:Nat):ae (cset c k o) j=if j=k then some o else ae c j:=by
 induction c with
 |nil=>cases h
 |cons p r ih=>
  obtain⟨i,u⟩:=p
  show ae (if i=k then _ else _) j=if j=k then _ else if i=j then _ else _
  by_cases e:i=k
  ·subst e
   rw[if_pos rfl]
   by_cases h':i=j
   ·subst h';rw[if_pos rfl];exact if_pos rfl
   ·rw[if_neg (fun e=>h' e.symm),if_neg h'];exact if_neg h'
  ·have hk:k∈dom r:=(List.mem_cons.mp h).resolve_left fun h=>e h.symm
   rw[if_neg e]
   show (if i=j then _ else ae (cset r k o) j)=_
   rw[ih hk]
   by_cases h':i=j
   ·subst h';rw[if_pos rfl,if_neg e,if_pos rfl]
   ·rw[if_neg h',if_neg h']
noncomputable abbrev bj (T:String) (ws:List Value) (ep:Nat):Obj:={cls:=.type T,data:=.seq ws.toArray ep}
noncomputable abbrev kJ (id:String) (a:Addr):Obj:={cls:=.type "builtin_function_or_method",data:=.fields #[.builtin id,.ref a]}
noncomputable abbrev wg (a b:Int) (t u v:Tok):Obj:={cls:=.type "range",data:=.fields #[.int a t,.int b u,.int 1 v]}
noncomputable def du (o:Obj):Bool:=match o.data with
 | .seq ..=>true
 | .fields _=>o.cls==.type "range" || o.cls==.type "re.Match"
 |_=>false
theorem ifO {α:Type}{p:Prop} [Decidable p] {a:Option α}{r:α}(h:(if p then a else none)=some r):p∧a=some r:=by
 by_cases q:p
 ·rw[if_pos q] at h;exact⟨q,h⟩
 ·rw[if_neg q] at h;contradiction
noncomputable def gB:V→Option Str
 | .d x=>(match x with
  | .str u=>some u
  |_=>none)
 |_=>none
theorem gh {v:V}{x:Str}(h:gB v=some x):v=.d (.str x):=by
 cases v with
 |d y=>cases y with
  |str u=>exact Option.some.inj h▸rfl
  |_=>contradiction
 |_=>contradiction
def aw {β:Type}(o:Option β)(f:β→Prop):Prop:=match o with
 |some x=>f x
 |none=>False
def onD (u:V)(f:D→Prop):Prop:=match u with
 | .d x=>f x
 |_=>False
def gT (u:V)(f:Nat→Prop):Prop:=match u with
 | .obj k=>f k
 |_=>False
def sD (x:D)(f:Str→Prop):Prop:=match x with
 | .str x=>f x
 |_=>False
def iD (x:D)(f:Int→Prop):Prop:=match x with
 | .int x=>f x
 |_=>False
def fL (u:V)(f:Str→Prop):Prop:=onD u fun x=>sD x f
def fM (u:V)(f:Int→Prop):Prop:=onD u fun x=>iD x f
def lO (x:O)(f:List D→Prop):Prop:=match x with
 | .list xs=>f xs
 |_=>False
def nO (x:O)(f:List (Str×V)→Prop):Prop:=match x with
 | .ns xs=>f xs
 |_=>False
def jO (x:O)(f:Addr→Nat→Prop):Prop:=match x with
 | .inst C k=>f C k
 |_=>False
def bO (x:O)(f:String→Nat→Prop):Prop:=match x with
 | .bound C k=>f C k
 |_=>False
def cy (o:Option O)(f:List D→Prop):Prop:=aw o fun x=>lO x f
def wY (o:Option O)(f:List (Str×V)→Prop):Prop:=aw o fun x=>nO x f
def ey (o:Option O)(f:Addr→Nat→Prop):Prop:=aw o fun x=>jO x f
def e9 (o:Option O)(f:String→Nat→Prop):Prop:=aw o fun x=>bO x f
theorem ax {β:Type}{o:Option β}{f:β→Prop}(h:aw o f):∃x,o=some x∧f x:=by
 cases o with
 |some x=>exact⟨x,rfl,h⟩
 |none=>exact h.elim
theorem cH {u:V}{f:D→Prop}(h:onD u f):∃x,u=.d x∧f x:=by
 cases u with
 |d x=>exact⟨x,rfl,h⟩
 |_=>exact h.elim
theorem dO {u:V}{f:Nat→Prop}(h:gT u f):∃x,u=.obj x∧f x:=by
 cases u with
 |obj x=>exact⟨x,rfl,h⟩
 |_=>exact h.elim
theorem cu {u:V}{f:Str→Prop}(h:fL u f):∃x,u=.d (.str x)∧f x:=by
 obtain⟨x,rfl,h⟩:=cH h
 cases x with
 |str x=>exact⟨x,rfl,h⟩
 |_=>exact h.elim
theorem b8 {u:V}{f:Int→Prop}(h:fM u f):∃x,u=.d (.int x)∧f x:=by
 obtain⟨x,rfl,h⟩:=cH h
 cases x with
 |int x=>exact⟨x,rfl,h⟩
 |_=>exact h.elim
theorem cB {o:Option O}{f:List D→Prop}(h:cy o f):∃xs,o=some (.list xs)∧f xs:=by
 obtain⟨x,rfl,h⟩:=ax h
 cases x with
 |list xs=>exact⟨xs,rfl,h⟩
 |_=>exact h.elim
theorem kr {o:Option O}{f:List (Str×V)→Prop}(h:wY o f):∃xs,o=some (.ns xs)∧f xs:=by
 obtain⟨x,rfl,h⟩:=ax h
 cases x with
 |ns xs=>exact⟨xs,rfl,h⟩
 |_=>exact h.elim
theorem gC {o:Option O}{f:Addr→Nat→Prop}(h:ey o f):∃C k,o=some (.inst C k)∧f C k:=by
 obtain⟨x,rfl,h⟩:=ax h
 cases x with
 |inst C k=>exact⟨C,k,rfl,h⟩
 |_=>exact h.elim
theorem fA {o:Option O}{f:String→Nat→Prop}(h:e9 o f):∃C k,o=some (.bound C k)∧f C k:=by
 obtain⟨x,rfl,h⟩:=ax h
 cases x with
 |bound C k=>exact⟨C,k,rfl,h⟩
 |_=>exact h.elim
noncomputable abbrev Al:=Nat→Addr
def aC (c:aa)(α:Al)(b:Addr):Prop:=∃k∈dom c,α k=b
mutual
inductive IsD (h:Heap)(own:Addr→Prop):D→Value→Prop
 |none:IsD h own .none .none
 |bool (b:Bool):IsD h own (.bool b) (.bool b)
 |int (i:Int) (t:Tok):IsD h own (.int i) (.int i t)
 |str (x:Str) (t:Tok):IsD h own (.str x) (.str x t)
 |tup {xs:List D} {ws:List Value} {a:Addr} {ep:Nat}:h.get? a=some (bj "tuple" ws ep)→¬own a→IsDs h own xs ws→IsD h own (.tup xs) (.ref a)
 |lst {xs:List D} {ws:List Value} {a:Addr} {ep:Nat}:h.get? a=some (bj "list" ws ep)→¬own a→IsDs h own xs ws→IsD h own (.lst xs) (.ref a)
inductive IsDs (h:Heap)(own:Addr→Prop):List D→List Value→Prop
 |nil:IsDs h own [] []
 |cons {x:D} {w:Value} {xs:List D} {ws:List Value}:IsD h own x w→IsDs h own xs ws→IsDs h own (x::xs) (w::ws)
end
def Inv (h:Heap)(own:Addr→Prop)(x:D)(w:Value):Prop:=match x with
 | .none=>w=.none
 | .bool b=>w=.bool b
 | .int i=>∃t,w=.int i t
 | .str x=>∃t,w=.str x t
 | .tup xs=>∃ws a ep,w=.ref a∧h.get? a=some (bj "tuple" ws ep)∧¬own a∧IsDs h own xs ws
 | .lst xs=>∃ws a ep,w=.ref a∧h.get? a=some (bj "list" ws ep)∧¬own a∧IsDs h own xs ws
theorem IsD.inv {h:Heap}{own:Addr→Prop}{x:D}{w:Value}(i:IsD h own x w):Inv h own x w:=
 IsD.casesOn (motive_1:=fun x w _=>Inv h own x w) i rfl (fun _=>rfl) (fun _ t=>⟨t,rfl⟩) (fun _ t=>⟨t,rfl⟩) (fun g n r=>⟨_,_,_,rfl,g,n,r⟩) (fun g n r=>⟨_,_,_,rfl,g,n,r⟩)
theorem IsDs.ind {h:Heap}{own:Addr→Prop}{M:List D→List Value→Prop}(nil:M [] [])(cons:∀{x w xs ws},IsD h own x w→IsDs h own xs ws→M xs ws→M (x::xs) (w::ws)){xs:List D}{ws:List Value}(i:IsDs h own xs ws):M xs ws:=
 IsDs.rec (motive_1:=fun _ _ _=>True) (motive_2:=fun xs ws _=>M xs ws) trivial (fun _=>trivial) (fun _ _=>trivial) (fun _ _=>trivial) (fun _ _ _ _=>trivial) (fun _ _ _ _=>trivial) nil (fun a r _ m=>cons a r m) i
def xH (h:Heap)(own:Addr→Prop)(xs:List D)(ws:List Value):Prop:=match xs with
 | []=>ws=[]
 |x::r=>∃w ws',ws=w::ws'∧IsD h own x w∧IsDs h own r ws'
theorem IsDs.inv {h:Heap}{own:Addr→Prop}{xs:List D}{ws:List Value}(i:IsDs h own xs ws):xH h own xs ws:=
 i.ind (M:=xH h own) rfl fun a r _=>⟨_,_,rfl,a,r⟩
theorem IsD.two {h:Heap}{own:Addr→Prop}{x y:D}{w:Value}(i:IsD h own (.tup [x,y]) w):∃wx wy a ep,w=.ref a∧h.get? a=some (bj "tuple" [wx,wy] ep)∧IsD h own x wx∧IsD h own y wy:=by
 obtain⟨ws,a,ep,e,g,_,r⟩:=i.inv
 obtain⟨wx,r1,rfl,ix,r⟩:=r.inv
 obtain⟨wy,r2,rfl,iy,r⟩:=r.inv
 obtain rfl:r2=[]:=r.inv
 exact⟨wx,wy,a,ep,e,g,ix,iy⟩
theorem IsDs.length {h:Heap}{own:Addr→Prop}{xs:List D}{ws:List Value}(i:IsDs h own xs ws):xs.length=ws.length:=
 i.ind (M:=fun xs ws=>xs.length=ws.length) rfl fun _ _ m=>congrArg Nat.succ m
theorem IsDs.append {h:Heap}{own:Addr→Prop}{ys:List D}{vs:List Value}(y:IsDs h own ys vs){xs:List D}{ws:List Value}(i:IsDs h own xs ws):IsDs h own (xs++ys) (ws++vs):=
 i.ind (M:=fun xs ws=>IsDs h own (xs++ys) (ws++vs)) y fun a _ m=>.cons a m
theorem IsDs.get {h:Heap}{own:Addr→Prop}{xs:List D}{ws:List Value}(i:IsDs h own xs ws):∀(i:Nat) (x:D),xs[i]?=some x→∃w,ws[i]?=some w∧IsD h own x w:=
 i.ind (M:=fun xs ws=>∀(i:Nat) (x:D),xs[i]?=some x→∃w,ws[i]?=some w∧IsD h own x w) (fun _ _=>nofun) fun a _ m k=>Nat.casesOn k (fun _ e=>Option.some.inj e▸⟨_,rfl,a⟩) m
theorem IsDs.drop {h:Heap}{own:Addr→Prop}{xs:List D}{ws:List Value}(i:IsDs h own xs ws):∀n,IsDs h own (xs.drop n) (ws.drop n):=
 i.ind (M:=fun xs ws=>∀n,IsDs h own (xs.drop n) (ws.drop n)) (fun n=>Nat.casesOn n .nil fun _=>.nil) fun a r m n=>Nat.casesOn n (.cons a r) m
theorem IsDs.take {h:Heap}{own:Addr→Prop}{xs:List D}{ws:List Value}(i:IsDs h own xs ws):∀n,IsDs h own (xs.take n) (ws.take n):=
 i.ind (M:=fun xs ws=>∀n,IsDs h own (xs.take n) (ws.take n)) (fun n=>Nat.casesOn n .nil fun _=>.nil) fun a _ m n=>Nat.casesOn n .nil fun n=>.cons a (m n)
theorem IsD.step {own own':Addr→Prop}{h h':Heap}(kept:∀b o,du o=true→h.get? b=some o→¬own b→h'.get? b=some o)
  (grow:∀b,own' b→own b∨h.get? b=Option.none) {x:D} {w:Value} (i:IsD h own x w):IsD h' own' x w:=
 have nn:∀{b o},h.get? b=some o→¬own b→¬own' b:=fun g n e=>(grow _ e).elim n fun e=>nos e g
 IsD.rec (motive_1:=fun x w _=>IsD h' own' x w) (motive_2:=fun xs ws _=>IsDs h' own' xs ws) .none .bool .int .str (fun g n _ r=>.tup (kept _ _ rfl g n) (nn g n) r) (fun g n _ r=>.lst (kept _ _ rfl g n) (nn g n) r) .nil (fun _ _ a r=>.cons a r) i
theorem IsDs.step {own own':Addr→Prop}{h h':Heap}(kept:∀b o,du o=true→h.get? b=some o→¬own b→h'.get? b=some o)
  (grow:∀b,own' b→own b∨h.get? b=none) {xs:List D} {ws:List Value} (i:IsDs h own xs ws):IsDs h' own' xs ws:=
 i.ind (M:=fun xs ws=>IsDs h' own' xs ws) .nil fun a _ m=>.cons (a.step kept grow) m
structure IsM (h:Heap)(own:Addr→Prop)(r:Addr)(e:Int):Prop where
 ob:∃fs tup i ep,h.get? r=some {cls:=.type "re.Match",data:=.fields fs}∧fs.getD 5 .none=.ref tup∧h.get? tup=some (bj "tuple" [.int i 0,.int e 0] ep)∧¬own tup
 no:¬own r
theorem IsM.step {own own':Addr→Prop}{h h':Heap}(kept:∀b o,du o=true→h.get? b=some o→¬own b→h'.get? b=some o)(grow:∀b,own' b→own b∨h.get? b=none){r:Addr}{e:Int}(i:IsM h own r e):IsM h' own' r e:=by
 obtain⟨fs,tup,j,ep,g1,g2,g3,n⟩:=i.ob
 have nn:∀{b o},h.get? b=some o→¬own b→¬own' b:=fun g n e=>(grow _ e).elim n (fun e=>by rw[e] at g;cases g)
 exact⟨⟨fs,tup,j,ep,kept _ _ rfl g1 i.no,g2,kept _ _ rfl g3 n,nn g3 n⟩,nn g1 i.no⟩
def IsV (c:aa)(α:Al)(h:Heap):V→Value→Prop
 | .d x,w=>IsD h (aC c α) x w
 | .obj k,w=>w=.ref (α k)∧k∈dom c
 | .val v,w=>w=v
 | .bi b,w=>w=b.val
 | .mt e,w=>∃r,w=.ref r∧IsM h (aC c α) r e
 | .rng a b,w=>∃r t u v,w=.ref r∧h.get? r=some (wg a b t u v)∧¬aC c α r
def IsO (c:aa)(α:Al)(h:Heap)(a:Addr):O→Prop
 | .list xs=>∃ws ep,h.get? a=some (bj "list" ws ep)∧IsDs h (aC c α) xs ws
 | .ns fs=>∃o es ep,h.get? a=some o∧o.data=.dict es ep∧StrKeys es∧es.size=fs.length∧
   ∀x,match look fs x with
    |some v=>∃w,nsFind es x=some w∧IsV c α h v w
    |none=>nsFind es x=none
 | .inst C dk=>h.get? a=some {cls:=.ref C,dict:=some (α dk)}∧dk∈dom c
 | .bound id k=>h.get? a=some (kJ id (α k))∧k∈dom c
structure Le (c:aa)(α:Al)(h:Heap)(c':aa)(α':Al)(h':Heap):Prop where
 dom:∀k∈dom c,k∈Mine.dom c'
 agree:∀k∈Mine.dom c,α' k=α k
 kept:∀b o,h.get? b=some o→¬aC c α b→h'.get? b=some o
 grow:∀k∈Mine.dom c',aC c α (α' k)∨h.get? (α' k)=none
theorem Le.refl (c:aa)(α:Al)(h:Heap):Le c α h c α h:=
 ⟨fun _ x=>x,fun _ _=>rfl,fun _ _ e _=>e,fun k hk=>.inl ⟨k,hk,rfl⟩⟩
theorem Le.not_own {c c':aa}{α α':Al}{h h':Heap}(x:Le c α h c' α' h'){b:Addr}{o:Obj}(e:h.get? b=some o)(n:¬aC c α b):¬aC c' α' b:=by
 rintro⟨k,hk,rfl⟩
 rcases x.grow k hk with q|q
 ·exact n q
 ·rw[q] at e;contradiction
theorem Le.trans {c₁ c₂ c₃:aa}{α₁ α₂ α₃:Al}{h₁ h₂ h₃:Heap}(x:Le c₁ α₁ h₁ c₂ α₂ h₂)(y:Le c₂ α₂ h₂ c₃ α₃ h₃):Le c₁ α₁ h₁ c₃ α₃ h₃:=by
 refine⟨fun k hk=>y.dom k (x.dom k hk),fun k hk=>(y.agree k (x.dom k hk)).trans (x.agree k hk),fun b o e n=>y.kept b o (x.kept b o e n) (x.not_own e n),fun k hk=>?_⟩
 rcases y.grow k hk with ⟨j,hj,e⟩|q
 ·rw[←e];exact x.grow j hj
 ·by_cases n:aC c₁ α₁ (α₃ k)
  ·exact .inl n
  ·refine .inr ?_
   cases e:h₁.get? (α₃ k) with
   |none=>rfl
   |some o=>rw[x.kept _ _ e n] at q;contradiction
theorem Le.isD {c c':aa}{α α':Al}{h h':Heap}(x:Le c α h c' α' h'){d:D}{w:Value}(i:IsD h (aC c α) d w):IsD h' (aC c' α') d w:=
 i.step (fun b _ _ e n=>x.kept b _ e n) (fun b ⟨k,hk,e⟩=>e▸x.grow k hk)
theorem Le.isDs {c c':aa}{α α':Al}{h h':Heap}(x:Le c α h c' α' h'){ds:List D}{ws:List Value}(i:IsDs h (aC c α) ds ws):IsDs h' (aC c' α') ds ws:=
 i.step (fun b _ _ e n=>x.kept b _ e n) (fun b ⟨k,hk,e⟩=>e▸x.grow k hk)
theorem Le.isV {c c':aa}{α α':Al}{h h':Heap}(x:Le c α h c' α' h'){v:V}{w:Value}(i:IsV c α h v w):IsV c' α' h' v w:=by
 cases v with
 |d y=>exact x.isD i
 |obj k=>exact⟨by rw[x.agree k i.2];exact i.1,x.dom k i.2⟩
 |val u=>exact i
 |rng p q=>obtain⟨r,t,u,v,e,g,n⟩:=i;exact⟨r,t,u,v,e,x.kept _ _ g n,x.not_own g n⟩
 |bi b=>exact i
 |mt e=>obtain⟨r,e,m⟩:=i;exact⟨r,e,m.step (fun b _ _ e n=>x.kept b _ e n) (fun b ⟨k,hk,e⟩=>e▸x.grow k hk)⟩
inductive IsVs (c:aa)(α:Al)(h:Heap):List V→List Value→Prop
 |nil:IsVs c α h [] []
 |cons {v:V} {w:Value} {vs:List V} {ws:List Value}:IsV c α h v w→IsVs c α h vs ws→IsVs c α h (v::vs) (w::ws)
def yn (c:aa)(α:Al)(h:Heap)(vs:List V)(ws:List Value):Prop:=match vs with
 | []=>ws=[]
 |v::r=>∃w ws',ws=w::ws'∧IsV c α h v w∧IsVs c α h r ws'
theorem IsVs.inv {c:aa}{α:Al}{h:Heap}{vs:List V}{ws:List Value}(i:IsVs c α h vs ws):yn c α h vs ws:=
 IsVs.casesOn (motive:=fun vs ws _=>yn c α h vs ws) i rfl fun a r=>⟨_,_,rfl,a,r⟩
theorem IsVs.one {c:aa}{α:Al}{h:Heap}{v:V}{ws:List Value}(i:IsVs c α h [v] ws):∃w,ws=[w]∧IsV c α h v w:=by
 obtain⟨w,ws',rfl,i1,r⟩:=i.inv
 exact⟨w,congrArg (w::·) r.inv,i1⟩
theorem IsVs.two {c:aa}{α:Al}{h:Heap}{v v':V}{ws:List Value}(i:IsVs c α h [v,v'] ws):∃w w',ws=[w,w']∧IsV c α h v w∧IsV c α h v' w':=by
 obtain⟨w,ws',rfl,i1,r⟩:=i.inv
 obtain⟨w',rfl,i2⟩:=r.one
 exact⟨w,w',rfl,i1,i2⟩
theorem Le.isVs {c c':aa}{α α':Al}{h h':Heap}(x:Le c α h c' α' h'){vs:List V}{ws:List Value}(i:IsVs c α h vs ws):IsVs c' α' h' vs ws:=
 IsVs.rec (motive:=fun vs ws _=>IsVs c' α' h' vs ws) .nil (fun a _ m=>.cons (x.isV a) m) i
theorem Le.isO {c c':aa}{α α':Al}{h h':Heap}(x:Le c α h c' α' h'){a:Addr}{o:O}(e:∀q,h.get? a=some q→h'.get? a=some q)(i:IsO c α h a o):IsO c' α' h' a o:=by
 cases o with
 |list xs=>obtain⟨ws,ep,g,d⟩:=i;exact⟨ws,ep,e _ g,x.isDs d⟩
 |ns fs=>
  obtain⟨q,es,ep,g,hd,sk,sz,f⟩:=i
  refine⟨q,es,ep,e _ g,hd,sk,sz,fun y=>?_⟩
  have:=f y
  cases hl:look fs y with
  |none=>rw[hl] at this;exact this
  |some v=>rw[hl] at this;obtain⟨w,h1,h2⟩:=this;exact⟨w,h1,x.isV h2⟩
 |inst C dk=>refine⟨?_,x.dom _ i.2⟩;rw[x.agree dk i.2];exact e _ i.1
 |bound id k=>refine⟨?_,x.dom _ i.2⟩;rw[x.agree k i.2];exact e _ i.1
structure Cst (hb:Heap)(pr:List Nat)(c:aa)(α:Al)(h:Heap):Prop where
 base:∀b o,hb.get? b=some o→h.get? b=some o
 cell:∀k o,ae c k=some o→IsO c α h (α k) o
 fresh:∀k∈dom c,hb.get? (α k)=none
 inj:∀k∈dom c,∀j∈dom c,α k=α j→k=j
 prs:∀k∈pr,k∈dom c
theorem IsO.ex {c:aa}{α:Al}{h:Heap}{a:Addr}{o:O}(i:IsO c α h a o):∃q,h.get? a=some q:=by
 cases o with
 |list xs=>obtain⟨ws,ep,g,d⟩:=i;exact⟨_,g⟩
 |ns fs=>obtain⟨q,es,ep,g,r⟩:=i;exact⟨_,g⟩
 |inst C dk=>exact⟨_,i.1⟩
 |bound id k=>exact⟨_,i.1⟩
theorem Cst.ex {hb h:Heap}{pr:List Nat}{c:aa}{α:Al}(C:Cst hb pr c α h){k:Nat}(hk:k∈dom c):∃q,h.get? (α k)=some q:=by
 obtain⟨o,ho⟩:=pR hk
 exact (C.cell k o ho).ex
theorem Cst.base_not_own {hb h:Heap}{pr:List Nat}{c:aa}{α:Al}(C:Cst hb pr c α h){b:Addr}{o:Obj}(e:hb.get? b=some o):¬aC c α b:=by
 rintro⟨k,hk,rfl⟩
 rw[C.fresh k hk] at e;contradiction
theorem Cst.keeps {hb h h':Heap}{pr:List Nat}{c:aa}{α:Al}(C:Cst hb pr c α h)(k:∀b o,h.get? b=some o→h'.get? b=some o):Cst hb pr c α h'∧Le c α h c α h':=by
 have L:Le c α h c α h':=⟨fun _ x=>x,fun _ _=>rfl,fun b o e _=>k b o e,fun j hj=>.inl ⟨j,hj,rfl⟩⟩
 exact⟨⟨fun b o e=>k _ _ (C.base b o e),fun j o e=>L.isO (fun q=>k _ q) (C.cell j o e),C.fresh,C.inj,C.prs⟩,L⟩
noncomputable def upd (α:Al)(k:Nat)(a:Addr):Al:=fun j=>if j=k then a else α j
theorem aF {c:aa}{k:Nat}{o:O}(hk:k∉dom c)(j:Nat):ae (c++[(k,o)]) j=if j=k then some o else ae c j:=by
 induction c with
 |nil=>
  show (if k=j then some o else none)=_
  by_cases e:k=j
  ·rw[if_pos e,if_pos e.symm]
  ·rw[if_neg e,if_neg (fun q=>e q.symm)];rfl
 |cons p r ih=>
  obtain⟨i,u⟩:=p
  have h1:k≠i:=fun e=>hk (e▸.head _)
  have h2:k∉dom r:=fun e=>hk (.tail _ e)
  show (if i=j then some u else ae (r++[(k,o)]) j)=if j=k then some o else if i=j then some u else ae r j
  rw[ih h2]
  by_cases e:i=j
  ·rw[if_pos e,if_pos e,if_neg (fun q=>h1 (q.symm.trans e.symm))]
  ·rw[if_neg e,if_neg e]
theorem af (c:aa)(k:Nat)(o:O):dom (c++[(k,o)])=dom c++[k]:=by simp[dom]
theorem Cst.new {hb h:Heap}{pr:List Nat}{c:aa}{α:Al}(C:Cst hb pr c α h){k:Nat}(hk:k∉dom c)(q:Obj){o:O}
  (hq:Le c α h (c++[(k,o)]) (upd α k h.objs.size) (h.push q)→IsO (c++[(k,o)]) (upd α k h.objs.size) (h.push q) h.objs.size o) :
  Cst hb pr (c++[(k,o)]) (upd α k h.objs.size) (h.push q)∧Le c α h (c++[(k,o)]) (upd α k h.objs.size) (h.push q):=by
 have hn:h.get? h.objs.size=none:=by
  cases e:h.get? h.objs.size with
  |none=>rfl
  |some o'=>exact absurd (Heap.lt_size e) (Nat.lt_irrefl _)
 have ag:∀j∈dom c,upd α k h.objs.size j=α j:=fun j hj=>by
  show (if j=k then _ else _)=_
  rw[if_neg (fun (e:j=k)=>hk (e▸hj))]
 have ak:upd α k h.objs.size k=h.objs.size:=if_pos rfl
 have L:Le c α h (c++[(k,o)]) (upd α k h.objs.size) (h.push q):=by
  refine⟨fun j hj=>by rw[af];exact List.mem_append_left _ hj,ag,fun b o e _=>Heap.get?_push_of_some _ e,fun j hj=>?_⟩
  rw[af] at hj
  rcases List.mem_append.mp hj with hj|hj
  ·rw[ag j hj];exact .inl ⟨j,hj,rfl⟩
  ·have:j=k:=by simpa using hj
   rw[this,ak];exact .inr hn
 refine⟨⟨fun b o e=>Heap.get?_push_of_some _ (C.base b o e),fun j u e=>?_,fun j hj=>?_,fun i hi j hj e=>?_,fun j hj=>L.dom j (C.prs j hj)⟩,L⟩
 ·rw[aF hk] at e
  by_cases hj:j=k
  ·rw[if_pos hj] at e;(injection e with e;subst e);rw[hj,ak];exact hq L
  ·rw[if_neg hj] at e
   rw[ag j (ai e)]
   exact L.isO (fun q e=>Heap.get?_push_of_some _ e) (C.cell j u e)
 ·rw[af] at hj
  rcases List.mem_append.mp hj with hj|hj
  ·rw[ag j hj];exact C.fresh j hj
  ·have:j=k:=by simpa using hj
   rw[this,ak]
   cases e:hb.get? h.objs.size with
   |none=>rfl
   |some o'=>rw[C.base _ _ e] at hn;contradiction
 ·rw[af] at hi hj
  have lt:∀j∈dom c,α j<h.objs.size:=fun j hj=>by obtain⟨q,e⟩:=C.ex hj;exact Heap.lt_size e
  rcases List.mem_append.mp hi with hi|hi<;>rcases List.mem_append.mp hj with hj|hj
  ·rw[ag i hi,ag j hj] at e;exact C.inj i hi j hj e
  ·have:j=k:=by simpa using hj
   rw[this,ak,ag i hi] at e
   exact absurd (lt i hi) (by rw[e];exact Nat.lt_irrefl _)
  ·have:i=k:=by simpa using hi
   rw[this,ak,ag j hj] at e
   exact absurd (lt j hj) (by rw[←e];exact Nat.lt_irrefl _)
  ·have h1:i=k:=by simpa using hi
   have h2:j=k:=by simpa using hj
   rw[h1,h2]
theorem Cst.set {hb h h':Heap}{pr:List Nat}{c:aa}{α:Al}(C:Cst hb pr c α h){k:Nat}(hk:k∈dom c){o:O}(hs:Heap.SameBut (α k) h h')
  (hq:Le c α h (cset c k o) α h'→IsO (cset c k o) α h' (α k) o):Cst hb pr (cset c k o) α h'∧Le c α h (cset c k o) α h':=by
 have L:Le c α h (cset c k o) α h':=by
  refine⟨fun j hj=>by rw[ah];exact hj,fun _ _=>rfl,fun b q e n=>?_,fun j hj=>.inl ⟨j,by rw[ah] at hj;exact hj,rfl⟩⟩
  rw[hs.2 b (fun e=>n ⟨k,hk,e.symm⟩)];exact e
 refine⟨⟨fun b q e=>L.kept _ _ (C.base b q e) (C.base_not_own e),fun j u e=>?_,fun j hj=>C.fresh j (by rw[ah] at hj;exact hj),
  fun i hi j hj=>C.inj i (by rw[ah] at hi;exact hi) j (by rw[ah] at hj;exact hj),fun j hj=>by rw[ah];exact C.prs j hj⟩,L⟩
 rw[au hk] at e
 by_cases hj:j=k
 ·rw[if_pos hj] at e;(injection e with e;subst e);rw[hj];exact hq L
 ·rw[if_neg hj] at e
  refine L.isO (fun q g=>?_) (C.cell j u e)
  rw[hs.2 _ (fun e'=>hj (C.inj j (ai e) k hk e'))];exact g
inductive Held (h:Heap)(env:Env)(x:Str)(w:Value):Prop
 |loc (m:Str→Option Value):env.kindOf x=some .local→h.Ns env.locals m→m x=some w→Held h env x w
 |cel (b:Addr) (o:Obj):env.kindOf x=some .cell→env.cells.lookup x=some b→h.get? b=some o→o.data=.cell (some w)→Held h env x w
 |free (b:Addr) (o:Obj):env.kindOf x=some .free→env.cells.lookup x=some b→h.get? b=some o→o.data=.cell (some w)→Held h env x w
def FrA (env:Env)(b:Addr):Prop:=b=env.locals∨∃x,env.cells.lookup x=some b
structure EnvOk (env:Env):Prop where
 kind:env.scope.kind=.function
 apart:∀x b,env.cells.lookup x=some b→b≠env.locals
 one:∀x y b,env.cells.lookup x=some b→env.cells.lookup y=some b→x=y
 inter:interactive env=false
structure Fst (hb:Heap)(pr:List Nat)(env:Env)(l:Loc)(c:aa)(α:Al)(h:Heap):Prop extends Cst hb pr c α h where
 ns:∃m,h.Ns env.locals m
 cel:∀x b,env.cells.lookup x=some b→∃o v,h.get? b=some o∧o.data=.cell v
 loc:∀x v,look l x=some v→∃w,Held h env x w∧IsV c α h v w
 fr:∀b,FrA env b→hb.get? b=none∧¬aC c α b
theorem Held.le {h h':Heap}{env:Env}{x:Str}{w:Value}(H:Held h env x w)(k:∀b o,FrA env b→h.get? b=some o→h'.get? b=some o):Held h' env x w:=by
 cases H with
 |loc m a b e=>exact .loc m a (let ⟨o,es,ep,ho,r⟩:=b;⟨o,es,ep,k _ _ (.inl rfl) ho,r⟩) e
 |cel b o a e g d=>exact .cel b o a e (k _ _ (.inr ⟨x,e⟩) g) d
 |free b o a e g d=>exact .free b o a e (k _ _ (.inr ⟨x,e⟩) g) d
theorem Fst.le {hb h h':Heap}{pr:List Nat}{env:Env}{l:Loc}{c c':aa}{α α':Al}(F:Fst hb pr env l c α h)(L:Le c α h c' α' h')(C:Cst hb pr c' α' h'):Fst hb pr env l c' α' h':=by
 have k:∀b o,FrA env b→h.get? b=some o→h'.get? b=some o:=fun b o f e=>L.kept b o e (F.fr b f).2
 have ex:∀b,FrA env b→∃o,h.get? b=some o:=by
  rintro b (rfl|⟨x,e⟩)
  ·obtain⟨m,o,es,ep,ho,r⟩:=F.ns;exact⟨o,ho⟩
  ·obtain⟨o,v,g,d⟩:=F.cel x b e;exact⟨o,g⟩
 refine⟨C,?_,fun x b e=>?_,fun x v e=>?_,fun b f=>?_⟩
 ·obtain⟨m,o,es,ep,ho,r⟩:=F.ns;exact⟨m,o,es,ep,k _ _ (.inl rfl) ho,r⟩
 ·obtain⟨o,v,g,d⟩:=F.cel x b e;exact⟨o,v,k _ _ (.inr ⟨x,e⟩) g,d⟩
 ·obtain⟨w,H,i⟩:=F.loc x v e;exact⟨w,H.le k,L.isV i⟩
 ·obtain⟨o,e⟩:=ex b f
  exact⟨(F.fr b f).1,L.not_own e (F.fr b f).2⟩
theorem Fst.keeps {hb h h':Heap}{pr:List Nat}{env:Env}{l:Loc}{c:aa}{α:Al}(F:Fst hb pr env l c α h)(k:∀b o,h.get? b=some o→h'.get? b=some o) :
  Fst hb pr env l c α h'∧Le c α h c α h':=by
 obtain⟨C,L⟩:=F.toCst.keeps k
 exact⟨F.le L C,L⟩
theorem Fst.push {hb h:Heap}{pr:List Nat}{env:Env}{l:Loc}{c:aa}{α:Al}(F:Fst hb pr env l c α h)(q:Obj) :
  Fst hb pr env l c α (h.push q)∧Le c α h c α (h.push q):=F.keeps fun _ _ e=>Heap.get?_push_of_some _ e
theorem Fst.new {hb h:Heap}{pr:List Nat}{env:Env}{l:Loc}{c:aa}{α:Al}(F:Fst hb pr env l c α h){k:Nat}(hk:k∉dom c)(q:Obj){o:O}
  (hq:Le c α h (c++[(k,o)]) (upd α k h.objs.size) (h.push q)→IsO (c++[(k,o)]) (upd α k h.objs.size) (h.push q) h.objs.size o) :
  Fst hb pr env l (c++[(k,o)]) (upd α k h.objs.size) (h.push q)∧Le c α h (c++[(k,o)]) (upd α k h.objs.size) (h.push q):=by
 obtain⟨C,L⟩:=F.toCst.new hk q hq
 exact⟨F.le L C,L⟩
theorem Fst.set {hb h h':Heap}{pr:List Nat}{env:Env}{l:Loc}{c:aa}{α:Al}(F:Fst hb pr env l c α h){k:Nat}(hk:k∈dom c){o:O}(hs:Heap.SameBut (α k) h h')
  (hq:Le c α h (cset c k o) α h'→IsO (cset c k o) α h' (α k) o):Fst hb pr env l (cset c k o) α h'∧Le c α h (cset c k o) α h':=by
 obtain⟨C,L⟩:=F.toCst.set hk hs hq
 exact⟨F.le L C,L⟩
theorem a9 {hb h:Heap}{pr:List Nat}{c:aa}{α:Al}(C:Cst hb pr c α h):¬aC c α h.objs.size:=by
 rintro⟨k,hk,e⟩
 obtain⟨q,g⟩:=C.ex hk
 rw[e] at g
 exact absurd (Heap.lt_size g) (Nat.lt_irrefl _)
abbrev no:Value→Shared→Prop:=fun _ _=>False
section
variable (M:Model)(A:Around)(hb:Heap)(pr:List Nat)(env:Env)
def OkE {β γ:Type}(I:aa→Al→Heap→β→γ→Prop)(l:Loc)(c:aa)(t:Sem γ)(K:β→aa→Prop):Prop:=
 ∀(α:Al) (s:Shared) (Q:γ→Shared→Prop),1≤s.toks→Fst hb pr env l c α s.heap→
  (∀b c' α' g h' tk,1≤tk→K b c'→Fst hb pr env l c' α' h'→Le c α s.heap c' α' h'→I c' α' h' b g→Q g {s with heap:=h',toks:=tk})→wpAny M A t Q no s
inductive F where
 |next|brk|cont
 |ret (v:V)
def IsF (c:aa)(α:Al)(h:Heap):F→Flow→Prop
 | .next,g=>g=.next
 | .brk,g=>g=.brk
 | .cont,g=>g=.cont
 | .ret v,g=>∃w,g=.ret w∧IsV c α h v w
structure LeS (c:aa)(α:Al)(h:Heap)(c':aa)(α':Al)(h':Heap):Prop where
 agree:∀k∈pr,α' k=α k
 kept:∀b o,h.get? b=some o→¬FrA env b→¬aC c α b→h'.get? b=some o
 grow:∀k∈dom c',aC c α (α' k)∨h.get? (α' k)=none
structure Sg where
 l:Loc
 c:aa
def OkS (σ:Sg)(t:Sem Flow)(K:F→Sg→Prop):Prop:=
 ∀(α:Al) (s:Shared) (Q:Flow→Shared→Prop),1≤s.toks→Fst hb pr env σ.l σ.c α s.heap→
  (∀f τ α' g h' tk,1≤tk→K f τ→Fst hb pr env τ.l τ.c α' h'→LeS pr env σ.c α s.heap τ.c α' h'→IsF τ.c α' h' f g→Q g {s with heap:=h',toks:=tk})→wpAny M A t Q no s
end
section
variable {M:Model}{A:Around}{hb:Heap}{pr:List Nat}{env:Env}
theorem av {γ:Type}{t:Sem γ}{Q:γ→Shared→Prop}{s:Shared}{E:Value→Shared→Prop}(hs:1≤s.toks)(h:wpAny M A t (fun g s'=>1≤s'.toks→Q g s') E s):wpAny M A t Q E s:=
 wpAny_with_toks hs (wpAny_mono h (fun _ _ x=>x) (fun _ _ x _=>x))
theorem OkE.mk {β γ:Type}{I:aa→Al→Heap→β→γ→Prop}{l:Loc}{c:aa}{t:Sem γ}{K:β→aa→Prop}
  (h:∀(α:Al) (s:Shared) (Q:γ→Shared→Prop),1≤s.toks→Fst hb pr env l c α s.heap→
   (∀b c' α' g h' tk,K b c'→Fst hb pr env l c' α' h'→Le c α s.heap c' α' h'→I c' α' h' b g→Q g {s with heap:=h',toks:=tk})→wpAny M A t Q no s):OkE M A hb pr env I l c t K:=
 fun α s Q hs F hq=>av hs (h α s _ hs F fun b c' α' g h' tk k f le i ht=>hq b c' α' g h' tk ht k f le i)
theorem OkS.mk {σ:Sg}{t:Sem Flow}{K:F→Sg→Prop}
  (h:∀(α:Al) (s:Shared) (Q:Flow→Shared→Prop),1≤s.toks→Fst hb pr env σ.l σ.c α s.heap→
   (∀f τ α' g h' tk,K f τ→Fst hb pr env τ.l τ.c α' h'→LeS pr env σ.c α s.heap τ.c α' h'→IsF τ.c α' h' f g→Q g {s with heap:=h',toks:=tk})→wpAny M A t Q no s):OkS M A hb pr env σ t K:=
 fun α s Q hs F hq=>av hs (h α s _ hs F fun b c' α' g h' tk k f le i ht=>hq b c' α' g h' tk ht k f le i)
end
theorem Le.leS {hb h h':Heap}{pr:List Nat}{env:Env}{c c':aa}{α α':Al}(L:Le c α h c' α' h')(C:Cst hb pr c α h):LeS pr env c α h c' α' h':=
 ⟨fun k hk=>L.agree k (C.prs k hk),fun b o e _ n=>L.kept b o e n,L.grow⟩
theorem LeS.refl (pr:List Nat)(env:Env)(c:aa)(α:Al)(h:Heap):LeS pr env c α h c α h:=⟨fun _ _=>rfl,fun _ _ e _ _=>e,fun k hk=>.inl ⟨k,hk,rfl⟩⟩
theorem LeS.trans {pr:List Nat}{env:Env}{c₁ c₂ c₃:aa}{α₁ α₂ α₃:Al}{h₁ h₂ h₃:Heap}(x:LeS pr env c₁ α₁ h₁ c₂ α₂ h₂)(y:LeS pr env c₂ α₂ h₂ c₃ α₃ h₃)
  (fr:∀b,FrA env b→¬aC c₃ α₃ b):LeS pr env c₁ α₁ h₁ c₃ α₃ h₃:=by
 have no:∀b o,h₁.get? b=some o→¬aC c₁ α₁ b→¬aC c₂ α₂ b:=by
  rintro b o e n ⟨k,hk,rfl⟩
  rcases x.grow k hk with q|q
  ·exact n q
  ·rw[q] at e;contradiction
 refine⟨fun k hk=>(y.agree k hk).trans (x.agree k hk),fun b o e f n=>y.kept b o (x.kept b o e f n) f (no b o e n),fun k hk=>?_⟩
 rcases y.grow k hk with ⟨j,hj,e⟩|q
 ·rw[←e];exact x.grow j hj
 ·by_cases n:aC c₁ α₁ (α₃ k)
  ·exact .inl n
  ·refine .inr ?_
   cases e:h₁.get? (α₃ k) with
   |none=>rfl
   |some o=>
    by_cases f:FrA env (α₃ k)
    ·exact absurd ⟨k,hk,rfl⟩ (fr _ f)
    ·rw[x.kept _ _ e f n] at q;contradiction
section
variable {prog:Program}{w:World}{A:Around}{hb:Heap}{pr:List Nat}{env:Env}{l:Loc}{c:aa}
theorem th (EO:EnvOk env){α:Al}{s:Shared}{x:Str}{v:V}(F:Fst hb pr env l c α s.heap)(hx:look l x=some v)(hn:(x==("__classdict__":Str))=false)
  {Q:Value→Shared→Prop} (hq:∀g,IsV c α s.heap v g→Q g s):wpAny (model prog w) A (loadName env x) Q no s:=by
 obtain⟨g,H,i⟩:=F.loc x v hx
 cases H with
 |loc m a b e=>exact wpAny_loadName_local EO.kind a b e (hq g i)
 |cel b o a e q d=>exact wpAny_loadName_cell EO.kind a e ⟨o,q,d⟩ (hq g i)
 |free b o a e q d=>exact wpAny_loadName_free EO.kind a e ⟨o,q,d⟩ (hq g i) hn
theorem aV {α:Al}{h:Heap}(F:Fst hb pr env l c α h){b:Addr}(hf:FrA env b):∀o,du o=true→h.get? b≠some o:=by
 intro o hz e
 rcases hf with rfl|⟨x,q⟩
 ·obtain⟨m,o',es,ep',ho,hd,r⟩:=F.ns
  rw[ho] at e;cases e;unfold du at hz;rw[hd] at hz;cases hz
 ·obtain⟨o',v,ho,hd⟩:=F.cel x b q
  rw[ho] at e;cases e;unfold du at hz;rw[hd] at hz;cases hz
section
variable {α:Al}{h h':Heap}{b:Addr}(ns:∀o,du o=true→h.get? b≠some o)(ks:∀a o,a≠b→h.get? a=some o→h'.get? a=some o)
include ns ks
theorem sM {d:D}{g:Value}(i:IsD h (aC c α) d g):IsD h' (aC c α) d g:=
 i.step (fun a o hz e n=>ks a o (fun q=>ns o hz (q▸e)) e) (fun _ e=>.inl e)
theorem qH {d:List D}{g:List Value}(i:IsDs h (aC c α) d g):IsDs h' (aC c α) d g:=
 i.step (fun a o hz e n=>ks a o (fun q=>ns o hz (q▸e)) e) (fun _ e=>.inl e)
theorem fU {v:V}{g:Value}(i:IsV c α h v g):IsV c α h' v g:=by
 cases v with
 |d x=>exact sM ns ks i
 |obj k=>exact i
 |val u=>exact i
 |rng p q=>obtain⟨r,t,u,v,e,g,n⟩:=i;exact⟨r,t,u,v,e,ks r _ (fun q=>ns _ rfl (q▸g)) g,n⟩
 |bi b=>exact i
 |mt e=>obtain⟨r,e,m⟩:=i;exact⟨r,e,m.step (fun a o hz e n=>ks a o (fun q=>ns o hz (q▸e)) e) (fun _ e=>.inl e)⟩
theorem nG (C:Cst hb pr c α h)(no:¬aC c α b)(nb:hb.get? b=none):Cst hb pr c α h':=by
 have hne:∀k∈dom c,α k≠b:=fun k hk e=>no ⟨k,hk,e⟩
 refine⟨fun a o e=>ks a o (fun q=>by rw[q,nb] at e;contradiction) (C.base a o e),fun k o e=>?_,C.fresh,C.inj,C.prs⟩
 have i:=C.cell k o e
 have g:∀q,h.get? (α k)=some q→h'.get? (α k)=some q:=fun q e'=>ks _ _ (hne k (ai e)) e'
 cases o with
 |list xs=>obtain⟨ws,ep,g',d⟩:=i;exact⟨ws,ep,g _ g',qH ns ks d⟩
 |ns fs=>
  obtain⟨q,es,ep,g',hd,sk,sz,f⟩:=i
  refine⟨q,es,ep,g _ g',hd,sk,sz,fun y=>?_⟩
  have:=f y
  cases hl:look fs y with
  |none=>rw[hl] at this;exact this
  |some v=>rw[hl] at this;obtain⟨w,h1,h2⟩:=this;exact⟨w,h1,fU ns ks h2⟩
 |inst C dk=>exact⟨g _ i.1,i.2⟩
 |bound id k=>exact⟨g _ i.1,i.2⟩
theorem Fst.but (F:Fst hb pr env l c α h)(no:¬aC c α b)(nf:¬FrA env b)(nb:hb.get? b=none):Fst hb pr env l c α h':=by
 have k:∀a o,FrA env a→h.get? a=some o→h'.get? a=some o:=fun a o f e=>ks a o (fun q=>nf (q▸f)) e
 refine⟨nG ns ks F.toCst no nb,?_,fun x b e=>?_,fun x v e=>?_,F.fr⟩
 ·obtain⟨m,o,es,ep,ho,r⟩:=F.ns;exact⟨m,o,es,ep,k _ _ (.inl rfl) ho,r⟩
 ·obtain⟨o,v,g,d⟩:=F.cel x b e;exact⟨o,v,k _ _ (.inr ⟨x,e⟩) g,d⟩
 ·obtain⟨w,H,i⟩:=F.loc x v e;exact⟨w,H.le k,fU ns ks i⟩
end
theorem bB {h h':Heap}{b:Addr}(hs:Heap.SameBut b h h'):∀a o,a≠b→h.get? a=some o→h'.get? a=some o:=fun a o n e=>by rw[hs.2 a n];exact e
theorem dN {α:Al}{h h':Heap}(F:Fst hb pr env l c α h){b:Addr}(hf:FrA env b)(hs:Heap.SameBut b h h'){v:V}{g:Value}(i:IsV c α h v g):IsV c α h' v g:=
 fU (aV F hf) (bB hs) i
theorem iq {α:Al}{h h':Heap}(F:Fst hb pr env l c α h){b:Addr}(hf:FrA env b)(hs:Heap.SameBut b h h'):Cst hb pr c α h':=
 nG (aV F hf) (bB hs) F.toCst (F.fr b hf).2 (F.fr b hf).1
theorem iA {α:Al}{h h':Heap}{b:Addr}(hf:FrA env b)(hs:Heap.SameBut b h h'):LeS pr env c α h c α h':=
 ⟨fun _ _=>rfl,fun a o e nf _=>by rw[hs.2 a (fun q=>nf (q▸hf))];exact e,fun k hk=>.inl ⟨k,hk,rfl⟩⟩
theorem dp (EO:EnvOk env){α:Al}{s:Shared}{x:Str}{v:V}{g:Value}(F:Fst hb pr env l c α s.heap)(hx:env.kindOf x=some .local)(i:IsV c α s.heap v g)
  {Q:Unit→Shared→Prop} (hq:∀h' tk,Fst hb pr env (put l x v) c α h'→Heap.SameBut env.locals s.heap h'→Q () {s with heap:=h',toks:=tk}):wpAny (model prog w) A (storeName env x g) Q no s:=by
 obtain⟨m,hm⟩:=F.ns
 have hf:FrA env env.locals:=.inl rfl
 refine wpAny_storeName_local hx hm (fun h' hn hs=>hq h' _ ?_ hs) (by rw[EO.kind];rfl)
 refine⟨iq F hf hs,⟨_,hn⟩,fun y b e=>?_,fun y u e=>?_,F.fr⟩
 ·obtain⟨o,v,ho,hd⟩:=F.cel y b e
  exact⟨o,v,by rw[hs.2 b (EO.apart y b e)];exact ho,hd⟩
 ·rw[am] at e
  by_cases hy:y=x
  ·rw[if_pos hy] at e;(injection e with e;subst e)
   exact⟨g,.loc _ (hy▸hx) hn (by simp only[if_pos hy]),dN F hf hs i⟩
  ·rw[if_neg hy] at e
   obtain⟨g',H,i'⟩:=F.loc y u e
   refine⟨g',?_,dN F hf hs i'⟩
   cases H with
   |loc m' a b' e'=>
    refine .loc _ a hn ?_
    have:m' y=m y:=by
     obtain⟨o,es,ep,ho,hd,hk,hm1⟩:=b'
     obtain⟨o2,es2,ep2,ho2,hd2,hk2,hm2⟩:=hm
     rw[ho] at ho2;(injection ho2 with ho2;subst ho2);rw[hd] at hd2;(injection hd2 with hd2;subst hd2)
     rw[←hm1,←hm2]
    simp only[if_neg hy];rw[←this];exact e'
   |cel b o a e' q d=>exact .cel b o a e' (by rw[hs.2 b (EO.apart y b e')];exact q) d
   |free b o a e' q d=>exact .free b o a e' (by rw[hs.2 b (EO.apart y b e')];exact q) d
theorem lq (EO:EnvOk env){α:Al}{s:Shared}{x:Str}{v:V}{g:Value}(F:Fst hb pr env l c α s.heap)
  (hx:env.kindOf x=some .local∨(env.kindOf x=some .cell∧∃b,env.cells.lookup x=some b)) (i:IsV c α s.heap v g)
  {Q:Unit→Shared→Prop} (hq:∀h' tk,Fst hb pr env (put l x v) c α h'→LeS pr env c α s.heap c α h'→Q () {s with heap:=h',toks:=tk}):wpAny (model prog w) A (storeName env x g) Q no s:=by
 rcases hx with hx|⟨hx,b,hb'⟩
 ·exact dp EO F hx i fun h' tk F' hs=>hq h' tk F' (iA (.inl rfl) hs)
 ·obtain⟨o,v0,ho,hd⟩:=F.cel x b hb'
  have hf:FrA env b:=.inr ⟨x,hb'⟩
  refine wpAny_storeName_cell EO.kind hx hb' ⟨o,ho,hd⟩ (fun h' hc hs=>hq h' s.toks ?_ (iA hf hs))
  obtain⟨o',ho',hd'⟩:=hc
  have hbl:env.locals≠b:=fun e=>EO.apart x b hb' e.symm
  refine⟨iq F hf hs,?_,fun y b' e=>?_,fun y u e=>?_,F.fr⟩
  ·obtain⟨m,o,es,ep,ho,r⟩:=F.ns;exact⟨m,o,es,ep,by rw[hs.2 _ hbl];exact ho,r⟩
  ·by_cases hbb:b'=b
   ·subst hbb;exact⟨o',_,ho',hd'⟩
   ·obtain⟨o,v,ho,hd⟩:=F.cel y b' e
    exact⟨o,v,by rw[hs.2 b' hbb];exact ho,hd⟩
  ·rw[am] at e
   by_cases hy:y=x
   ·rw[if_pos hy] at e;(injection e with e;subst e)
    subst hy
    exact⟨g,.cel b o' hx hb' ho' hd',dN F hf hs i⟩
   ·rw[if_neg hy] at e
    obtain⟨g',H,i'⟩:=F.loc y u e
    refine⟨g',?_,dN F hf hs i'⟩
    cases H with
    |loc m' a b' e'=>exact .loc m' a (b'.sameBut hs hbl) e'
    |cel b' o a e' q d=>exact .cel b' o a e' (by rw[hs.2 b' (fun (e:b'=b)=>hy (EO.one y x b (e▸e') hb'))];exact q) d
    |free b' o a e' q d=>exact .free b' o a e' (by rw[hs.2 b' (fun (e:b'=b)=>hy (EO.one y x b (e▸e') hb'))];exact q) d
end
mutual
noncomputable def D.py:D→PyData
 | .none=>.none
 | .bool b=>.bool b
 | .int i=>.int i
 | .str x=>.str x
 | .tup xs=>.tuple (pys xs)
 | .lst xs=>.list (pys xs)
noncomputable def pys:List D→List PyData
 | []=>[]
 |x::xs=>x.py::pys xs
end
theorem mP {h:Heap}:∃as,ReadsAll h [] (pys []) as:=⟨_,.nil⟩
theorem jY {h:Heap}{x:D}{w:Value}{xs:List D}{ws:List Value}:(∃as,Reads h w x.py as)→(∃as,ReadsAll h ws (pys xs) as)→∃as,ReadsAll h (w::ws) (pys (x::xs)) as
 |⟨_,p⟩,⟨_,q⟩=>⟨_,.cons p q⟩
theorem lG {h:Heap}{T:String}{a:Addr}{ep:Nat}{xs:List D}{ws:List Value}(b:Bool)(hT:T=if b then "tuple" else "list") (g:h.get? a=some (bj T ws ep)):(∃as,ReadsAll h ws (pys xs) as)→∃as,Reads h (.ref a) (if b then D.tup xs else .lst xs).py as
 |⟨_,q⟩=>by
  have q:ReadsAll h ws.toArray.toList (pys xs) _:=q
  subst hT
  cases b
  ·exact⟨_,.list g rfl rfl q⟩
  ·exact⟨_,.tuple g rfl rfl q⟩
theorem IsD.reads {h:Heap}{own:Addr→Prop}{x:D}{w:Value}(i:IsD h own x w):∃as,Reads h w x.py as:=
 IsD.rec (motive_1:=fun x w _=>∃as,Reads h w x.py as) (motive_2:=fun xs ws _=>∃as,ReadsAll h ws (pys xs) as) ⟨_,.none⟩ (fun b=>⟨_,.bool b⟩) (fun i t=>⟨_,.int i t⟩) (fun x t=>⟨_,.str x t⟩)
  (fun g _ _ r=>lG true rfl g r) (fun g _ _ r=>lG false rfl g r) mP (fun _ _=>jY) i
theorem IsDs.reads {h:Heap}{own:Addr→Prop}{xs:List D}{ws:List Value}(i:IsDs h own xs ws):∃as,ReadsAll h ws (pys xs) as:=
 i.ind (M:=fun xs ws=>∃as,ReadsAll h ws (pys xs) as) mP fun a _=>jY a.reads
theorem xD {o:Option O}{d:D}:(match o with|some (.list xs)=>some (.lst xs)|_=>none)=some d→∃xs,o=some (.list xs)∧D.lst xs=d:=by
 cases o with
 |none=>nofun
 |some o=>cases o with
  |list xs=>exact fun e=>⟨xs,rfl,Option.some.inj e⟩
  |_=>nofun
noncomputable def rd (c:aa):V→Option D
 | .d x=>some x
 | .obj k=>match ae c k with|some (.list xs)=>some (.lst xs)|_=>none
 |_=>none
theorem uO {hb h:Heap}{pr:List Nat}{c:aa}{α:Al}(C:Cst hb pr c α h){v:V}{d:D}{g:Value}(e:rd c v=some d)(i:IsV c α h v g):∃as,Reads h g d.py as:=by
 cases v with
 |d x=>exact Option.some.inj e▸IsD.reads i
 |obj k=>
  obtain⟨xs,hk,rfl⟩:=xD e
  obtain⟨ws,ep,g',r⟩:=C.cell k _ hk
  rw[i.1]
  exact lG false rfl g' r.reads
 |_=>contradiction
theorem x5 {o:Option O}{d:Bool×List D}:(match o with|some (.list xs)=>some (false,xs)|_=>none)=some d→∃xs,o=some (.list xs)∧(false,xs)=d:=by
 cases o with
 |none=>nofun
 |some o=>cases o with
  |list xs=>exact fun e=>⟨xs,rfl,Option.some.inj e⟩
  |_=>nofun
noncomputable def bX (c:aa):V→Option (Bool×List D)
 | .d (.lst xs)=>some (false,xs)
 | .d (.tup xs)=>some (true,xs)
 | .obj k=>match ae c k with|some (.list xs)=>some (false,xs)|_=>none
 |_=>none
theorem cW {hb h:Heap}{pr:List Nat}{c:aa}{α:Al}(C:Cst hb pr c α h){v:V}{b:Bool}{xs:List D}{g:Value}(e:bX c v=some (b,xs))(i:IsV c α h v g) :
  ∃a ws ep,g=.ref a∧h.get? a=some (bj (if b then "tuple" else "list") ws ep)∧IsDs h (aC c α) xs ws:=by
 cases v with
 |d x=>
  cases x with
  |lst ys=>injection e with e;injection e with e1 e2;subst e1 e2;obtain⟨ws,a,ep,e,g,_,r⟩:=IsD.inv i;exact⟨a,ws,ep,e,g,r⟩
  |tup ys=>injection e with e;injection e with e1 e2;subst e1 e2;obtain⟨ws,a,ep,e,g,_,r⟩:=IsD.inv i;exact⟨a,ws,ep,e,g,r⟩
  |_=>contradiction
 |obj k=>
  obtain⟨ys,hk,e⟩:=x5 e
  injection e with e1 e2;subst e1 e2
  obtain⟨ws,ep,g',r⟩:=C.cell k _ hk
  exact⟨_,ws,ep,i.1,g',r⟩
 |_=>contradiction
noncomputable def big:Nat:=1048576
def pe (c:aa)(v:V)(K:Bool→Prop):Prop:=aw (bX c v) fun p=>p.2.length≤big∧K (!p.2.isEmpty)
def bJ (c:aa)(v:V)(K:Bool→Prop):Prop:=
 match v with
 | .d x=>(match x with
  | .none=>K false
  | .bool b=>K b
  | .int i=>K (i != 0)
  | .str x=>x.length≤big∧K (x.length != 0)
  |x=>pe c (.d x) K)
 | .mt _=>K true
 |v=>pe c v K
theorem uu {n:Nat}(h:n≤big):(n:Int)<2 ^ 63:=by unfold big at h;omega
theorem aJ {n:Nat}(h:n≤big):n≤sizeLine:=by
 rw[sizeLine_eq];unfold big at h;exact Om.o1 h
section
variable {prog:Program}{w:World}{A:Around}{hb:Heap}{pr:List Nat}{env:Env}{l:Loc}{c:aa}{α:Al}{s:Shared}
theorem mF:typeLookup (.type "re.Match") "__bool__"=pure none:=by rw[typeLookup_type,builtinLookup_eq_fast];kernel_rfl
theorem nY:typeLookup (.type "re.Match") "__len__"=pure none:=by rw[typeLookup_type,builtinLookup_eq_fast];kernel_rfl
theorem jz {M:Model}{r:Addr}(hT:s.TypeIs (.ref r) "re.Match") {Q:Bool→Shared→Prop} {E:Value→Shared→Prop} (h:Q true s):wpAny M A (truthy (.ref r)) Q E s:=by
 unfold truthy callSpecial?
 refine wpAny_bind (wpAny_bind (wpAny_specialOf hT mF (wpAny_pure ?_)))
 exact wpAny_bind (wpAny_specialOf hT nY (wpAny_pure h))
theorem fq (C:Cst hb pr c α s.heap){v:V}{g:Value}{K:Bool→Prop}(h:pe c v K)(i:IsV c α s.heap v g){Q:Bool→Shared→Prop}(hq:∀b tk,K b→Q b {s with toks:=tk}) :
  wpAny (model prog w) A (truthy g) Q no s:=by
 obtain⟨⟨b,xs⟩,e,h⟩:=ax h
 obtain⟨a,ws,ep,rfl,g',r⟩:=cW C e i
 have hl:ws.length=xs.length:=r.length.symm
 have hem:(!ws.toArray.isEmpty)=!xs.isEmpty:=r.ind (M:=fun xs ws=>(!ws.toArray.isEmpty)=!xs.isEmpty) rfl fun _ _ _=>rfl
 have hs:(ws.toArray.size:Int)<2 ^ 63:=uu (Nat.le_trans (Nat.le_of_eq hl) h.1)
 cases b with
 |true=>exact truthy_tuple ⟨_,g',rfl,_,rfl⟩ hs (hem▸hq _ _ h.2)
 |false=>exact wpAny_truthy_list ⟨_,g',rfl,_,rfl⟩ hs (hem▸hq _ _ h.2)
theorem ne0 (n:Nat):((n:Int) != 0)=(n != 0):=by cases n<;>rfl
theorem eZ (C:Cst hb pr c α s.heap){v:V}{g:Value}{K:Bool→Prop}(h:bJ c v K)(i:IsV c α s.heap v g){Q:Bool→Shared→Prop}(hq:∀b tk,K b→Q b {s with toks:=tk}) :
  wpAny (model prog w) A (truthy g) Q no s:=by
 cases v with
 |d x=>
  have i':=IsD.inv i
  cases x with
  |none=>obtain rfl:g=_:=i';exact truthy_none (hq _ s.toks h)
  |bool b=>obtain rfl:g=_:=i';exact wpAny_truthy_bool (hq _ s.toks h)
  |int n=>obtain⟨t,rfl⟩:=i';exact PySem.P.truthy_int (hq _ s.toks h)
  |str x=>obtain⟨t,rfl⟩:=i';exact PySem.P.truthy_str (Int.not_le.mpr (uu h.1)) (hq _ _ (ne0 _▸h.2))
  |tup xs=>exact fq (v:=.d (.tup xs)) (K:=K) C h i hq
  |lst xs=>exact fq (v:=.d (.lst xs)) (K:=K) C h i hq
 |mt e=>
  obtain⟨r,rfl,m⟩:=i
  obtain⟨fs,tup,j,ep,g1,_⟩:=m.ob
  exact jz ⟨_,g1,rfl⟩ (hq _ s.toks h)
 |obj k=>exact fq (v:=.obj k) (K:=K) C h i hq
 |_=>exact h.elim
noncomputable def dH (x:Str)(n:Nat):Str:=⟨(List.replicate n x.cps).foldl (·++·) #[]⟩
def d9 (a b:V)(f:Int→Int→Prop):Prop:=fM a fun i=>fM b fun j=>f i j
theorem nv {a b:V}{f:Int→Int→Prop}(h:d9 a b f):∃i j,a=.d (.int i)∧b=.d (.int j)∧f i j:=by
 obtain⟨i,e,h⟩:=b8 h
 obtain⟨j,e',h⟩:=b8 h
 exact⟨i,j,e,e',h⟩
theorem cS {c:aa}{α:Al}{hp:Heap}{a b:V}{f:Int→Int→Prop}(h:d9 a b f){x y:Value}(hx:IsV c α hp a x)(hy:IsV c α hp b y):∃i t j u,x=.int i t∧y=.int j u∧f i j:=by
 obtain⟨i,j,rfl,rfl,h⟩:=nv h
 obtain⟨t,rfl⟩:=IsD.inv hx
 obtain⟨u,rfl⟩:=IsD.inv hy
 exact⟨i,t,j,u,rfl,rfl,h⟩
def xp (x y:D)(K:D→Prop):Prop:=match x with
 | .int i=>(match y with
  | .int j=>K (.int (i+j))
  |_=>False)
 | .str u=>(match y with
  | .str v=>u.length+v.length≤big∧K (.str (u++v))
  |_=>False)
 | .lst xs=>(match y with
  | .lst ys=>xs.length+ys.length≤big∧K (.lst (xs++ys))
  |_=>False)
 |_=>False
def dd (a b:V)(f:D→D→Prop):Prop:=onD a fun x=>onD b fun y=>f x y
theorem mO {a b:V}{f:D→D→Prop}(h:dd a b f):∃x y,a=.d x∧b=.d y∧f x y:=by
 obtain⟨x,e,h⟩:=cH h
 obtain⟨y,e',h⟩:=cH h
 exact⟨x,y,e,e',h⟩
def uP (x y:D)(K:D→Prop):Prop:=match x with
 | .str u=>(match y with
  | .int n=>(0<n∧n≤9)∧u.length=1∧K (.str (dH u n.toNat))
  |_=>False)
 |_=>False
def hH (c:aa)(op:Operator)(a b:V)(K:D→Prop):Prop:=
 match op with
 | .Add=>dd a b fun x y=>xp x y K
 | .Sub=>d9 a b fun i j=>K (.int (i-j))
 | .Mod=>d9 a b fun i j=>j≠0∧K (.int (i.fmod j))
 | .FloorDiv=>d9 a b fun i j=>(0≤i∧i≤1048576∧0<j∧j≤1000)∧K (.int (i.fdiv j))
 | .Mult=>dd a b fun x y=>uP x y K
 |_=>False
section
variable {x y:Value}{K:D→Prop}{Q:Value→Shared→Prop}(hq:∀d g h' tk,K d→Fst hb pr env l c α h'→Le c α s.heap c α h'→IsD h' (aC c α) d g→Q g {s with heap:=h',toks:=tk})
include hq
theorem wD (F:Fst hb pr env l c α s.heap){a b:D}(h:xp a b K)(hx:IsD s.heap (aC c α) a x)(hy:IsD s.heap (aC c α) b y):wpAny (model prog w) A (binaryOp .Add x y) Q no s:=by
 cases a with
 |int i=>
  cases b with
  |int j=>obtain⟨_,rfl⟩:=hx.inv;obtain⟨_,rfl⟩:=hy.inv;exact PyProof.Rows.add_int (hq _ _ s.heap _ h F (Le.refl ..) (.int _ _))
  |_=>exact h.elim
 |str u=>
  cases b with
  |str v=>obtain⟨_,rfl⟩:=hx.inv;obtain⟨_,rfl⟩:=hy.inv;exact add_str (fun t' tk=>hq _ _ s.heap tk h.2 F (Le.refl ..) (.str _ _)) (aJ h.1)
  |_=>exact h.elim
 |lst xs=>
  cases b with
  |lst ys=>
   obtain⟨vs,a1,e1,rfl,g1,n1,r1⟩:=hx.inv
   obtain⟨ws,a2,e2,rfl,g2,n2,r2⟩:=hy.inv
   have e:vs.toArray++ws.toArray=(vs++ws).toArray:=by simp
   refine concat_meets ⟨_,g1,rfl⟩ ⟨_,g2,rfl⟩ noFill_list_add seq_list_add PySem.F.slot_list_add PySem.F.entry_list_add (PySem.F.args_list_add_2 _ _) (list_addW a1 a2 vs.toArray ws.toArray e1 e2 none none #[] #[] ?_) ⟨g1,g2,?_⟩
   ·rw[List.size_toArray,List.size_toArray,←r1.length,←r2.length];exact aJ h.1
   ·rw[e]
    obtain⟨F',L'⟩:=F.push (bj "list" (vs++ws) 0)
    refine hq _ _ _ s.toks h.2 F' L' (.lst (Heap.get?_push_size _ rfl) (a9 F.toCst) ((L'.isDs r2).append (L'.isDs r1)))
  |_=>exact h.elim
 |_=>exact h.elim
theorem ti (F:Fst hb pr env l c α s.heap){a b:D}(h:uP a b K)(hx:IsD s.heap (aC c α) a x)(hy:IsD s.heap (aC c α) b y):wpAny (model prog w) A (binaryOp .Mult x y) Q no s:=by
 cases a with
 |str x'=>
  cases b with
  |int n=>
   obtain⟨_,rfl⟩:=hx.inv
   obtain⟨_,rfl⟩:=hy.inv
   obtain⟨⟨h1,h2⟩,hx1,h⟩:=h
   obtain⟨k,rfl⟩:∃k:Nat,n=((k+1:Nat):Int):=⟨(n-1).toNat,by omega⟩
   have hk:k≤8:=by omega
   have hs:∀(m:Nat) (a:Array Nat),((List.replicate m x'.cps).foldl (·++·) a).size=a.size+m:=fun m=>by
    induction m with
    |zero=>exact fun a=>rfl
    |succ m ih=>intro a;show ((List.replicate m x'.cps).foldl (·++·) (a++x'.cps)).size=_;rw[ih,Array.size_append,show x'.cps.size=1 from hx1];omega
   refine PySem.P.mul_str ?_ (fun _ _=>?_) (fun _ _=>?_) ?_
   ·rw[Bool.or_eq_false_iff,decide_eq_false_iff_not,decide_eq_false_iff_not];omega
   ·rw[hx1,Int.not_lt];exact (Int.le_ediv_iff_mul_le (by omega)).mpr (by omega)
   ·rw[hx1,PySem.Builtin.Str.tooLong,decide_eq_false_iff_not,sizeLine_eq];omega
   rw[if_neg (by omega)]
   by_cases q:k=0
   ·subst q
    have e:dH x' 1=x':=congrArg Str.mk (Array.empty_append (xs:=x'.cps))
    exact hq (.str x') _ s.heap _ (e▸h) F (Le.refl ..) (.str _ _)
   ·rw[if_neg (by rw[hx1];simp;omega)]
    refine⟨?_,hq (.str (dH x' (k+1))) _ s.heap _ h F (Le.refl ..) (.str _ _)⟩
    rw[show (Str.mk ((List.replicate ((k+1:Nat):Int).toNat x'.cps).foldl (·++·) #[])).length=0+(k+1) from hs _ _,sizeLine_eq];omega
  |_=>exact h.elim
 |_=>exact h.elim
theorem tX (F:Fst hb pr env l c α s.heap){op:Operator}{a b:V}(h:hH c op a b K)(hx:IsV c α s.heap a x)(hy:IsV c α s.heap b y):wpAny (model prog w) A (binaryOp op x y) Q no s:=by
 cases op with
 |Add=>obtain⟨u,v,rfl,rfl,h⟩:=mO h;exact wD hq F h hx hy
 |Mult=>obtain⟨u,v,rfl,rfl,h⟩:=mO h;exact ti hq F h hx hy
 |Sub=>obtain⟨i,t,j,u,rfl,rfl,h⟩:=cS h hx hy;exact PyProof.Rows.sub_int (hq _ _ s.heap _ h F (Le.refl ..) (.int _ _))
 |Mod=>obtain⟨i,t,j,u,rfl,rfl,h⟩:=cS h hx hy;exact mod_int' h.1 (hq _ _ s.heap _ h.2 F (Le.refl ..) (.int _ _))
 |FloorDiv=>obtain⟨i,t,j,u,rfl,rfl,⟨h1,h2,h3,h4⟩,h⟩:=cS h hx hy;exact PyProof.Rows.floordiv_int (by omega) (hq _ _ s.heap _ h F (Le.refl ..) (.int _ _))
 |_=>exact h.elim
end
theorem xa (F:Fst hb pr env l c α s.heap){op:Operator}{a b:V}{K:D→Prop}(h:hH c op a b K){x y:Value}(hx:IsV c α s.heap a x)(hy:IsV c α s.heap b y)
  {Q:Value→Shared→Prop} (hq:∀d g h' tk,K d→Fst hb pr env l c α h'→Le c α s.heap c α h'→IsD h' (aC c α) d g→Q g {s with heap:=h',toks:=tk}):wpAny (model prog w) A (binaryOp op x y) Q no s:=tX hq F h hx hy
def eqG (c:aa)(a b:V)(K:Bool→Prop):Prop:=aw (rd c a) fun x=>aw (rd c b) fun y=>PySem.SeqAt.shaped x.py=true∧PySem.SeqAt.shaped y.py=true∧PySem.SeqAt.noMix x.py y.py=true∧K (PySem.Spec.same x.py y.py)
def eqD (c:aa)(x y:D)(K:Bool→Prop):Prop:=match x with
 | .int i=>(match y with
  | .int j=>K (i==j)
  |y=>eqG c (.d (.int i)) (.d y) K)
 | .str u=>(match y with
  | .str v=>K (u==v)
  |y=>eqG c (.d (.str u)) (.d y) K)
 | .bool p=>(match y with
  | .bool q=>K (p==q)
  |y=>eqG c (.d (.bool p)) (.d y) K)
 |x=>eqG c (.d x) (.d y) K
def eqK (c:aa)(a b:V)(K:Bool→Prop):Prop:=match a with
 | .d x=>(match b with
  | .d y=>eqD c x y K
  |b=>eqG c (.d x) b K)
 |a=>eqG c a b K
theorem wG {c:aa}{a b:V}{K:Bool→Prop}(h:eqK c a b K):(∃i j,a=.d (.int i)∧b=.d (.int j)∧K (i==j))∨(∃u v,a=.d (.str u)∧b=.d (.str v)∧K (u==v))∨(∃p q,a=.d (.bool p)∧b=.d (.bool q)∧K (p==q))∨eqG c a b K:=by
 refine aA fun G back=>?_
 have g:=fun q=>back (.inr (.inr (.inr q)))
 cases a with
 |d x=>
  cases b with
  |d y=>
   cases x with
   |int i=>cases y with
    |int j=>exact back (.inl ⟨i,j,rfl,rfl,h⟩)
    |_=>exact g h
   |str u=>cases y with
    |str v=>exact back (.inr (.inl ⟨u,v,rfl,rfl,h⟩))
    |_=>exact g h
   |bool p=>cases y with
    |bool q=>exact back (.inr (.inr (.inl ⟨p,q,rfl,rfl,h⟩)))
    |_=>exact g h
   |_=>exact g h
  |_=>exact g h
 |_=>exact g h
def inK (a b:V)(K:Bool→Prop):Prop:=fL a fun u=>fL b fun v=>K (Txt.contains v u)
def nW:V→Prop
 | .d .none=>True
 |_=>False
def m7 (a:V)(K:Bool→Prop):Prop:=match a with
 | .d .none=>K false
 | .mt _=>K true
 |_=>False
def eJ (c:aa)(op:CmpOp)(a b:V)(K:Bool→Prop):Prop:=
 match op with
 | .Lt=>d9 a b fun i j=>K (decide (i<j))
 | .LtE=>d9 a b fun i j=>K (decide (i≤j))
 | .Gt=>d9 a b fun i j=>K (decide (j<i))
 | .GtE=>d9 a b fun i j=>K (decide (j≤i))
 | .Eq=>eqK c a b K
 | .NotEq=>eqK c a b fun r=>K (!r)
 | .In=>inK a b K
 | .IsNot=>nW b∧m7 a K
 |_=>False
theorem va (C:Cst hb pr c α s.heap){a b:V}{K:Bool→Prop}(h:eqG c a b K){u v:Value}(hx:IsV c α s.heap a u)(hy:IsV c α s.heap b v) :
  ∃x y,(∃as,Reads s.heap u x as)∧(∃bs,Reads s.heap v y bs)∧PySem.SeqAt.shaped x=true∧PySem.SeqAt.shaped y=true∧PySem.SeqAt.noMix x y=true∧K (PySem.Spec.same x y):=by
 obtain⟨x,e1,h⟩:=ax h
 obtain⟨y,e2,h⟩:=ax h
 exact⟨_,_,uO C e1 hx,uO C e2 hy,h⟩
theorem uW (C:Cst hb pr c α s.heap){a b:V}{K:Bool→Prop}(h:eqK c a b K){x y:Value}(hx:IsV c α s.heap a x)(hy:IsV c α s.heap b y) :
  (∃i t j u,x=.int i t∧y=.int j u∧K (i==j))∨(∃i t j u,x=.str i t∧y=.str j u∧K (i==j))∨(∃p q,x=.bool p∧y=.bool q∧K (p==q))∨eqG c a b K:=by
 rcases wG h with ⟨i,j,rfl,rfl,h⟩|⟨i,j,rfl,rfl,h⟩|⟨i,j,rfl,rfl,h⟩|h
 ·obtain⟨t,e1⟩:=IsD.inv hx;obtain⟨u,e2⟩:=IsD.inv hy;exact .inl ⟨i,t,j,u,e1,e2,h⟩
 ·obtain⟨t,e1⟩:=IsD.inv hx;obtain⟨u,e2⟩:=IsD.inv hy;exact .inr (.inl ⟨i,t,j,u,e1,e2,h⟩)
 ·exact .inr (.inr (.inl ⟨i,j,IsD.inv hx,IsD.inv hy,h⟩))
 ·exact .inr (.inr (.inr h))
section
variable (C:Cst hb pr c α s.heap)(hu:A.units+64<cLine){a b:V}{K:Bool→Prop}{x y:Value}(hx:IsV c α s.heap a x)(hy:IsV c α s.heap b y){Q:Value→Shared→Prop}(hq:∀b,K b→Q (.bool b) s)
include C hu hx hy hq
theorem xr (h:eqK c a b K):wpAny (model prog w) A (compareOp .Eq x y) Q no s:=by
 rcases uW C h hx hy with ⟨i,t,j,u,rfl,rfl,h⟩|⟨i,t,j,u,rfl,rfl,h⟩|⟨i,j,rfl,rfl,h⟩|h
 ·exact PyProof.Rows.eq_int (hq _ h)
 ·exact PyProof.Rows.eq_str (hq _ h)
 ·exact PyProof.Rows.eq_bool (hq _ h)
 ·obtain⟨_,_,⟨as,r1⟩,⟨bs,r2⟩,h⟩:=va C h hx hy
  exact eq_dataH_same r1 r2 h.1 h.2.1 hu h.2.2.1 (hq _ h.2.2.2)
theorem xV (h:eqK c a b fun r=>K (!r)):wpAny (model prog w) A (compareOp .NotEq x y) Q no s:=by
 rcases uW C h hx hy with ⟨i,t,j,u,rfl,rfl,h⟩|⟨i,t,j,u,rfl,rfl,h⟩|⟨i,j,rfl,rfl,h⟩|h
 ·exact PyProof.Rows.ne_int (hq _ h)
 ·exact PyProof.Rows.ne_str (hq _ h)
 ·exact PyProof.Rows.ne_bool (hq _ h)
 ·obtain⟨_,_,⟨as,r1⟩,⟨bs,r2⟩,h⟩:=va C h hx hy
  exact ne_dataH_same r1 r2 h.1 h.2.1 hu h.2.2.1 (hq _ h.2.2.2)
omit C hu
theorem rK (h:nW b∧m7 a K):wpAny (model prog w) A (compareOp .IsNot x y) Q no s:=by
 have e:y=.none:=by
  cases b with
  |d z=>cases z with
   |none=>exact IsD.inv hy
   |_=>exact h.1.elim
  |_=>exact h.1.elim
 subst e
 have h:=h.2
 cases a with
 |d z=>cases z with
  |none=>obtain rfl:x=_:=IsD.inv hx;exact isnot_none_gen (hq _ h)
  |_=>exact h.elim
 |mt _=>obtain⟨r,rfl,_⟩:=hx;exact isnot_ref_none (hq _ h)
 |_=>exact h.elim
theorem x0 (h:inK a b K):wpAny (model prog w) A (compareOp .In x y) Q no s:=by
 obtain⟨u,rfl,h1⟩:=cu h
 obtain⟨v,rfl,h2⟩:=cu h1
 obtain⟨_,rfl⟩:=IsD.inv hx
 obtain⟨_,rfl⟩:=IsD.inv hy
 exact PySem.SB.contains (hq _ h2)
end
theorem qa (C:Cst hb pr c α s.heap)(hu:A.units+64<cLine){op:CmpOp}{a b:V}{K:Bool→Prop}(h:eJ c op a b K){x y:Value}(hx:IsV c α s.heap a x)(hy:IsV c α s.heap b y){Q:Value→Shared→Prop}
  (hq:∀b,K b→Q (.bool b) s):wpAny (model prog w) A (compareOp op x y) Q no s:=by
 cases op with
 |Lt=>obtain⟨i,t,j,u,rfl,rfl,h⟩:=cS h hx hy;exact PyProof.Rows.lt_int (hq _ h)
 |LtE=>obtain⟨i,t,j,u,rfl,rfl,h⟩:=cS h hx hy;exact PyProof.Rows.le_int (hq _ h)
 |Gt=>obtain⟨i,t,j,u,rfl,rfl,h⟩:=cS h hx hy;exact PyProof.Rows.gt_int (hq _ h)
 |GtE=>obtain⟨i,t,j,u,rfl,rfl,h⟩:=cS h hx hy;exact PyProof.Rows.ge_int (hq _ h)
 |Eq=>exact xr C hu hx hy hq h
 |NotEq=>exact xV C hu hx hy hq h
 |In=>exact x0 hx hy hq h
 |IsNot=>exact rK hx hy hq h
 |_=>exact h.elim
end
end Mine
end
section
namespace Mine
open PySem
noncomputable def cz (e:Expr):Bool:=e.ctorIdx==22
noncomputable def cT (e:Expr):Bool:=e.ctorIdx != 26
noncomputable def fg (e:Expr):Bool:=e.ctorIdx != 7
noncomputable def bu (e:Expr):Bool:=e.ctorIdx==8||e.ctorIdx==9||e.ctorIdx==10
noncomputable abbrev PO {α:Type} (P:α→Prop):=Option {k:α // P k}
noncomputable def iZ {α:Type}{P:α→Prop}(o:PO P):Option α:=o.map (·.1)
theorem dL {α:Type}{P:α→Prop}{o:PO P}{k:α}(h:iZ o=some k):P k:=by
 cases o with
 |none=>contradiction
 |some x=>exact Option.some.inj h▸x.2
noncomputable def qp (e:Expr):PO fun k=>∃n p,e=.Constant k n p:=
 if h:e.ctorIdx=19 then @Expr.Constant.elim (fun e=>PO fun k=>∃n p,e=.Constant k n p) e h (fun k n p=>some ⟨k,n,p,rfl⟩) else none
noncomputable def vg (e:Expr):PO fun k:Str×Pos=>e=.Name k.1 k.2:=
 if h:e.ctorIdx=23 then @Expr.Name.elim (fun e=>PO fun k:Str×Pos=>e=.Name k.1 k.2) e h (fun x p=>some ⟨(x,p),rfl⟩) else none
noncomputable def uT (e:Expr):PO fun k:Expr×Str×Pos=>e=.Attribute k.1 k.2.1 k.2.2:=
 if h:e.ctorIdx=20 then @Expr.Attribute.elim (fun e=>PO fun k:Expr×Str×Pos=>e=.Attribute k.1 k.2.1 k.2.2) e h (fun a x p=>some ⟨(a,x,p),rfl⟩) else none
noncomputable def qi (e:Expr):PO fun k:Option Expr×Option Expr×Option Expr=>∃p,e=.Slice k.1 k.2.1 k.2.2 p:=
 if h:e.ctorIdx=26 then @Expr.Slice.elim (fun e=>PO fun k:Option Expr×Option Expr×Option Expr=>∃p,e=.Slice k.1 k.2.1 k.2.2 p) e h (fun a b d p=>some ⟨(a,b,d),p,rfl⟩) else none
noncomputable def xF (e:Expr):PO fun es=>∃k p,e=.Tuple es k p:=
 if h:e.ctorIdx=25 then @Expr.Tuple.elim (fun e=>PO fun es=>∃k p,e=.Tuple es k p) e h (fun es k p=>some ⟨es,k,p,rfl⟩) else none
noncomputable def x3 (e:Expr):PO fun k:Expr×Expr=>∃p,e=.Subscript k.1 k.2 p:=
 if h:e.ctorIdx=21 then @Expr.Subscript.elim (fun e=>PO fun k:Expr×Expr=>∃p,e=.Subscript k.1 k.2 p) e h (fun a i p=>some ⟨(a,i),p,rfl⟩) else none
noncomputable def lcV (e:Expr):PO fun k:Scope×Pos=>∃elt gs,e=.ListComp elt gs k.1 k.2:=
 if h:e.ctorIdx=8 then @Expr.ListComp.elim (fun e=>PO fun k:Scope×Pos=>∃elt gs,e=.ListComp elt gs k.1 k.2) e h (fun elt gs s p=>some ⟨(s,p),elt,gs,rfl⟩) else none
noncomputable def gz (e:Expr):Option Const:=iZ (qp e)
noncomputable def b7 (e:Expr):Option (Str×Pos):=iZ (vg e)
noncomputable def ea (e:Expr):Option (Expr×Str×Pos):=iZ (uT e)
noncomputable def ms (e:Expr):Option (Option Expr×Option Expr×Option Expr):=iZ (qi e)
noncomputable def oQ (e:Expr):Option (List Expr):=iZ (xF e)
noncomputable def yM (e:Expr):Option (Expr×Expr):=iZ (x3 e)
noncomputable def lcP (e:Expr):Option (Scope×Pos):=iZ (lcV e)
theorem iR {e:Expr}{k:Const}(h:gz e=some k):∃n p,e=.Constant k n p:=dL (o:=qp e) h
theorem bA {e:Expr}{k:Str×Pos}(h:b7 e=some k):e=.Name k.1 k.2:=dL (o:=vg e) h
theorem dB {e:Expr}{k:Expr×Str×Pos}(h:ea e=some k):e=.Attribute k.1 k.2.1 k.2.2:=dL (o:=uT e) h
theorem pu {e:Expr}{k:Option Expr×Option Expr×Option Expr}(h:ms e=some k):∃p,e=.Slice k.1 k.2.1 k.2.2 p:=dL (o:=qi e) h
theorem jv {e:Expr}{es:List Expr}(h:oQ e=some es):∃k p,e=.Tuple es k p:=dL (o:=xF e) h
theorem sW {e:Expr}{k:Expr×Expr}(h:yM e=some k):∃p,e=.Subscript k.1 k.2 p:=dL (o:=x3 e) h
theorem xg {e:Expr}{k:Scope×Pos}(h:lcP e=some k):∃elt gs,e=.ListComp elt gs k.1 k.2:=dL (o:=lcV e) h
theorem ko {f:Expr}(h:f.ctorIdx=23):∃x p,f=.Name x p:=@Expr.Name.elim (fun e=>∃x p,e=.Name x p) f h fun x p=>⟨x,p,rfl⟩
noncomputable def yD (w:Value):PO fun a=>w=.ref a:=if h:w.ctorIdx=10 then @Value.ref.elim (fun w=>PO fun a=>w=.ref a) w h fun a=>some ⟨a,rfl⟩ else none
noncomputable def vZ (w:Value):Option Addr:=iZ (yD w)
theorem ja {w:Value}{a:Addr}(h:vZ w=some a):w=.ref a:=dL (o:=yD w) h
end Mine
end
section
namespace Mine
open PySem PyProof.Rows
theorem idx {i:Int}{n j:Nat}(h0:0≤(if i<0 then i+n else i))(h1:(if i<0 then i+n else i)<n)(e:(if i<0 then i+n else i).toNat=j):-(n:Int)≤i∧i<n∧j<n:=by
 by_cases q:i<0
 ·rw[if_pos q] at h0 h1 e;omega
 ·rw[if_neg q] at h0 h1 e;omega
theorem hM {i:Int}{n j:Nat}(h:seqIndex? i n=some j):(-(n:Int)≤i∧i<n∧j<n)∧j=(if i<0 then i+n else i).toNat:=by
 obtain⟨hc,h⟩:=ifO h
 obtain⟨h0,h1⟩:=(Bool.and_eq_true _ _).mp hc
 exact⟨idx (of_decide_eq_true h0) (of_decide_eq_true h1) (Option.some.inj h),(Option.some.inj h).symm⟩
theorem bW {e:Expr}(h:cT e=true)(o i:Value):subscripted e false o i=operate [o,i] (getItem o i):=by
 cases e<;>first|rfl|exact absurd h Bool.false_ne_true
def vf (c:aa)(o:V)(i:Int)(K:D→Prop):Prop:=aw (bX c o) fun p=>p.2.length≤big∧∃j d,seqIndex? i p.2.length=some j∧p.2[j]?=some d∧K d
def u8 (c:aa)(o:V)(i:Int)(K:D→Prop):Prop:=match gB o with
 |some x=>-(x.length:Int)≤i∧i<x.length∧x.length≤big∧K (.str (Txt.item x i))
 |none=>vf c o i K
def ee (c:aa)(o i:V)(K:D→Prop):Prop:=fM i fun n=>u8 c o n K
section
variable {prog:Program}{w:World}{A:Around}{hb:Heap}{pr:List Nat}{env:Env}{l:Loc}{c:aa}{α:Al}{s:Shared}
theorem uh {i:Int}{n:Nat}(h0:-(n:Int)≤i)(h1:i<n)(h2:n≤big):fitsSsize i=true:=by
 unfold fitsSsize
 unfold big at h2
 have:¬i < -(2 ^ 63:Int):=by omega
 have h3:¬i ≥ 2 ^ 63:=by omega
 rw[decide_eq_false this,decide_eq_false h3];rfl
theorem rC (C:Cst hb pr c α s.heap){value slice:Expr}(hsl:cT slice=true){o:V}{n:Int}{K:D→Prop}(h:vf c o n K){x:Value}{t:Tok}(hx:IsV c α s.heap o x)
  {Q:Value→Shared→Prop} (hq:∀d g tk,K d→IsD s.heap (aC c α) d g→Q g {s with toks:=tk}):wpAny (model prog w) A (subscriptTail value slice x (.int n t)) Q no s:=by
 obtain⟨⟨b,xs⟩,e,hlen,j,d,hj,hd,hK⟩:=ax h
 obtain⟨a,ws,ep,rfl,g',r⟩:=cW C e hx
 obtain⟨u,hu,hi⟩:=r.get j d hd
 obtain⟨⟨h1,h2,h3⟩,h4⟩:=hM hj
 have hwl:ws.length=xs.length:=r.length.symm
 unfold big at hlen
 cases b with
 |true=>
  exact item_tupleT ⟨_,g',rfl,_,rfl⟩ (by omega) (by omega) (by rw[hwl];exact hj) hu (hq d u s.toks hK hi) (bW hsl _ _)
 |false=>
  have hl:s.heap.IsList a ws.toArray:=⟨_,g',rfl,_,rfl⟩
  refine tail_any (T:="list") hl.typeIs slot_list_getitem.lookup ?_ (bW hsl _ _)
  by_cases h0:n<0
  ·rw[if_pos h0] at h4
   refine wpAny_getItem_list_neg hl h0 (by rw[List.size_toArray,hwl];exact h1) (by omega) ?_ (hq d u s.toks hK hi)
   rw[List.size_toArray,hwl,←h4];simpa using hu
  ·rw[if_neg h0] at h4
   refine wpAny_getItem_list hl (by exact Om.o2 h0) (by omega) ?_ (hq d u s.toks hK hi)
   rw[←h4];simpa using hu
theorem sx (C:Cst hb pr c α s.heap){value slice:Expr}(hsl:cT slice=true){o i:V}{K:D→Prop}(h:ee c o i K){x y:Value}(hx:IsV c α s.heap o x)(hy:IsV c α s.heap i y)
  {Q:Value→Shared→Prop} (hq:∀d g tk,K d→IsD s.heap (aC c α) d g→Q g {s with toks:=tk}):wpAny (model prog w) A (subscriptTail value slice x y) Q no s:=by
 obtain⟨n,rfl,h1⟩:=b8 h
 obtain⟨t,rfl⟩:=IsD.inv hy
 unfold u8 at h1
 cases e:gB o with
 |some x=>
  rw[e] at h1
  obtain rfl:=gh e
  obtain⟨_,rfl⟩:=IsD.inv hx
  obtain⟨h1,h2,h3,h⟩:=h1
  obtain⟨T,id,hl,hT,hg⟩:=(PySem.SB.item (prog:=prog) (w:=w) (A:=A) (E:=no) (uh h1 h2 h3) (charAt_isSome h1 h2) (hq _ _ (s.toks+1) h (.str _ _)):ItemOn _ _ _ _ _ Q s)
  exact tail_any hT hl hg (bW hsl _ _)
 |none=>
  rw[e] at h1
  exact rC C hsl h1 hx hq
noncomputable def mh:V→Option (Option Int)
 | .d .none=>some none
 | .d (.int i)=>some (some i)
 |_=>none
theorem ij {h:Heap}{v:V}{p:Option Int}{g:Value}(e:mh v=some p)(i:IsV c α h v g):IsPart g p:=by
 cases v with
 |d x=>cases x with
  |none=>obtain rfl:g=_:=IsD.inv i;exact Option.some.inj e▸.none
  |int n=>obtain⟨t,rfl⟩:=IsD.inv i;exact Option.some.inj e▸.int _ _
  |_=>contradiction
 |_=>contradiction
noncomputable def cut (xs:List D)(lo hi:Option Int):List D:=(xs.drop (lo.elim 0 (clipAt xs.length))).take (hi.elim xs.length (clipAt xs.length)-lo.elim 0 (clipAt xs.length))
def jE (c:aa)(o i j:V)(K:D→Prop):Prop:=aw (mh i) fun lo=>aw (mh j) fun hi=>match gB o with
 |some x=>x.length≤big∧K (.str (Txt.slice x lo hi))
 |none=>aw (bX c o) fun p=>p.1=false∧p.2.length≤big∧K (.lst (cut p.2 lo hi))
theorem dS (value:Expr)(x:Str)(t:Tok)(r:Value):letTemporaryGo value (.str x t) r=pure ():=by cases value<;>rfl
section
variable (F:Fst hb pr env l c α s.heap){value:Expr}{el eh:Option Expr}{p:Pos}{y z:Value}{K:D→Prop}{lo hi:Option Int}(p1:IsPart y lo)(p2:IsPart z hi)
 {Q:Value→Shared→Prop} (hq:∀d g h' tk,K d→Fst hb pr env l c α h'→Le c α s.heap c α h'→IsD h' (aC c α) d g→Q g {s with heap:=h',toks:=tk})
include F p1 p2 hq
theorem oA {x:Str}{t:Tok}(hx:x.length≤big)(h:K (.str (Txt.slice x lo hi))):wpAny (model prog w) A (subscriptTail value (.Slice el eh none p) (.str x t) (.ref s.heap.objs.size)) Q no {s with heap:=s.heap.push {cls:=.type "slice",data:=.fields #[y,z,.none]}}:=by
 have kp:KeptH (fun h'=>∀b o,s.heap.get? b=some o→h'.get? b=some o):=fun h ob k b o e=>Heap.get?_push_of_some _ (k b o e)
 have fin:∀h' t' k,(∀b o,s.heap.get? b=some o→h'.get? b=some o)→Q (.str (Txt.slice x lo hi) t') {s with heap:=h',toks:=k}:=by
  intro h' t' k kk
  obtain⟨F',L'⟩:=F.keeps kk
  exact hq _ _ h' k h F' L' (.str _ _)
 have hsz:=aJ hx
 cases p1 with
 |none=>cases p2 with
  |none=>exact tail_of_ItemOn (SBH.sliceItem_nn kp (fun _ _ e=>e) fin hsz) rfl (dS _ _ _)
  |int j u=>exact tail_of_ItemOn (SBH.sliceItem_ns kp (fun _ _ e=>e) fin hsz) rfl (dS _ _ _)
 |int i u=>cases p2 with
  |none=>exact tail_of_ItemOn (SBH.sliceItem_sn kp (fun _ _ e=>e) fin hsz) rfl (dS _ _ _)
  |int j u=>exact tail_of_ItemOn (SBH.sliceItem_ss kp (fun _ _ e=>e) fin hsz) rfl (dS _ _ _)
theorem oH {a:Addr}{xs:List D}{ws:List Value}{ep:Nat}(g':s.heap.get? a=some (bj "list" ws ep)) (r:IsDs s.heap (aC c α) xs ws) (hx:xs.length≤big) (h:K (.lst (cut xs lo hi))) :
  wpAny (model prog w) A (subscriptTail value (.Slice el eh none p) (.ref a) (.ref s.heap.objs.size)) Q no {s with heap:=s.heap.push {cls:=.type "slice",data:=.fields #[y,z,.none]}}:=by
 have hl:s.heap.IsList a ws.toArray:=⟨_,g',rfl,_,rfl⟩
 have hwl:ws.length=xs.length:=r.length.symm
 refine tail_any (T:="list") (Heap.IsList.typeIs (s:={s with heap:=s.heap.push {cls:=.type "slice",data:=.fields #[y,z,.none]}}) (hl.push _)) slot_list_getitem.lookup
  (wpAny_getItem_list_slice (hl.push _) (Heap.IsSliceOf.new ..) p1 p2 .none (by simp) ?_ (by rw[List.size_toArray,hwl];exact aJ hx)) rfl
 rw[slicePick_plain]
 obtain⟨F1,L1⟩:=F.push {cls:=.type "slice",data:=.fields #[y,z,.none]}
 obtain⟨F2,L2⟩:=F1.push (bj "list" ((ws.drop (lo.elim 0 (clipAt xs.length))).take (hi.elim xs.length (clipAt xs.length)-lo.elim 0 (clipAt xs.length))) 0)
 have:=hq (.lst (cut xs lo hi)) (.ref (s.heap.push {cls:=.type "slice",data:=.fields #[y,z,.none]}).objs.size) _ s.toks h F2 (L1.trans L2)
  (.lst (Heap.get?_push_size _ rfl) (a9 F1.toCst) (((L1.trans L2).isDs r).drop _ |>.take _))
 simpa [hwl] using this
end
theorem qI (F:Fst hb pr env l c α s.heap){value lo hi:Expr}{el eh:Option Expr}{p:Pos}{o i j:V}{K:D→Prop}(h:jE c o i j K){x y z:Value}(hx:IsV c α s.heap o x)(hy:IsV c α s.heap i y)(hz:IsV c α s.heap j z)
  {Q:Value→Shared→Prop} (hq:∀d g h' tk,K d→Fst hb pr env l c α h'→Le c α s.heap c α h'→IsD h' (aC c α) d g→Q g {s with heap:=h',toks:=tk}) :
  wpAny (model prog w) A (subscriptTail value (.Slice el eh none p) x (.ref s.heap.objs.size)) Q no {s with heap:=s.heap.push {cls:=.type "slice",data:=.fields #[y,z,.none]}}:=by
 obtain⟨lo,e1,h⟩:=ax h
 obtain⟨hi,e2,h⟩:=ax h
 have p1:=ij e1 hy
 have p2:=ij e2 hz
 cases e:gB o with
 |some x=>
  rw[e] at h
  obtain rfl:=gh e
  obtain⟨t,rfl⟩:=IsD.inv hx
  exact oA F p1 p2 hq h.1 h.2
 |none=>
  rw[e] at h
  obtain⟨⟨b,xs⟩,e,e',h1,h2⟩:=ax h
  obtain⟨a,ws,ep,rfl,g',r⟩:=cW F.toCst e hx
  have e':b=false:=e'
  rw[e'] at g'
  exact oH F p1 p2 hq g' r h1 h2
end
end Mine
end
section
namespace Mine
open PySem PyProof.Rows PySem.W
structure ClsOk (K:Frag)(C:Addr):Prop where
 ga:findIn K (.ref C) "__getattribute__"=some (some (.builtin "object.__getattribute__"))
 gk:findIn K (.ref C) "__getattr__"=some none
 sa:findIn K (.ref C) "__setattr__"=some (some (.builtin "object.__setattr__"))
 po:plainOver K C=true
 hd:hasDictIn K C=true
theorem fP {es:Array DictEntry}{ep:Nat}{o:Obj}{x:Str}{r:Option Value}(hd:o.data=.dict es ep)(sk:StrKeys es)(e:nsFind es x=r):lookIn x o=some r:=by
 unfold lookIn
 rw[hd]
 dsimp only
 rw[Array.find?_toList]
 unfold nsFind findBy at e
 have hany:es.toList.any (·.refKey)=false:=by
  rw[Array.any_toList,Array.any_eq_false'];intro e he;obtain⟨n,t,h⟩:=sk e he;simp[DictEntry.refKey,h]
 cases hf:es.find? (·.key.isStr x) with
 |some en=>rw[hf] at e;(subst e);rfl
 |none=>rw[hf] at e;(subst e);simp only[hany];rfl
section
variable {prog:Program}{w:World}{A:Around}{hb:Heap}{pr:List Nat}{env:Env}{l:Loc}{c:aa}{α:Al}{s:Shared}{K:Frag}
theorem my (C:Cst hb pr c α s.heap){k dk:Nat}{cl:Addr}{fs:List (Str×V)}(hk:ae c k=some (.inst cl dk))(hdk:ae c dk=some (.ns fs)) :
  ∃o es ep,InstAt s.heap (α k) {cls:=.ref cl,dict:=some (α dk)} cl (some o)∧s.heap.get? (α dk)=some o∧o.data=.dict es ep∧StrKeys es∧es.size=fs.length∧
   ∀x,match look fs x with
    |some v=>∃w,nsFind es x=some w∧IsV c α s.heap v w
    |none=>nsFind es x=none:=by
 obtain⟨h1,h2⟩:=C.cell k _ hk
 obtain⟨o,es,ep,g,hd,sk,sz,f⟩:=C.cell dk _ hdk
 exact⟨o,es,ep,⟨h1,rfl,rfl,g⟩,g,hd,sk,sz,f⟩
noncomputable def iI:V→Bool
 | .val u=>handedIn u
 | .bi _=>false
 |_=>true
theorem qg {h:Heap}{v:V}{g:Value}(e:iI v=true)(i:IsV c α h v g):handedIn g=true:=by
 cases v with
 |d x=>cases i<;>rfl
 |obj k=>rw[i.1];rfl
 |val u=>(subst i);exact e
 |rng p q=>obtain⟨r,_,_,_,e,_⟩:=i;rw[e];rfl
 |bi b=>contradiction
 |mt e=>obtain⟨r,e,_⟩:=i;rw[e];rfl
theorem tz (F:Fst hb pr env l c α s.heap)(X:K.In hb){k dk:Nat}{cl:Addr}{fs:List (Str×V)}(hk:ae c k=some (.inst cl dk))(hdk:ae c dk=some (.ns fs))(CO:ClsOk K cl)
  {nm:Str} (hn:findIn K (.ref cl) nm=some none) {v:V} (hv:look fs nm=some v) (hh:iI v=true) {expr:Bool}
  {Q:Value→Shared→Prop} (hq:∀g tk,IsV c α s.heap v g→Q g {s with toks:=tk}):wpAny (model prog w) A (getAttr (.ref (α k)) nm expr) Q no s:=by
 obtain⟨o,es,ep,I,g,hd,sk,sz,f⟩:=my F.toCst hk hdk
 have:=f nm
 rw[hv] at this
 obtain⟨u,hu,i⟩:=this
 exact get_value (X.keeps F.base) I CO.ga (findObj_own CO.hd hn rfl (fP hd sk hu)) (qg hh i) (hq u _ i)
theorem uc (F:Fst hb pr env l c α s.heap)(X:K.In hb){k dk:Nat}{cl:Addr}{fs:List (Str×V)}(hk:ae c k=some (.inst cl dk))(hdk:ae c dk=some (.ns fs))(CO:ClsOk K cl)
  {nm:Str} {f:Addr} (hn:findIn K (.ref cl) nm=some (some (.ref f))) (hf:typeIn K (.ref f)=some (.type "function")) (hv:look fs nm=none) {pl:Sem Bool}
  {Q:Value×List Value→Shared→Prop} (hq:Q (.ref f,[.ref (α k)]) s):wpAny (model prog w) A (getMethod (.ref (α k)) nm pl) Q no s:=by
 obtain⟨o,es,ep,I,g,hd,sk,sz,fi⟩:=my F.toCst hk hdk
 have:=fi nm
 rw[hv] at this
 exact method_fn (X.keeps F.base) I CO.ga CO.gk hn hf (by unfold shadowIn;dsimp only;rw[fP hd sk this];rfl) hq
theorem g6 {name:Str}{hash:Int}{key v:Value}{o:Obj}{es:Array DictEntry}{ep:Nat}(hd:o.data=.dict es ep)(hkey:∃t,key=.str name t)(sk:StrKeys es) :
  ∃es' ep',(Obj.putName name hash key v o).data=.dict es' ep'∧StrKeys es'∧es'.size=(if (nsFind es name).isSome then es.size else es.size+1)∧∀x,nsFind es' x=if x=name then some v else nsFind es x:=by
 obtain⟨t,rfl⟩:=hkey
 obtain⟨cl,di,da,sl⟩:=o
 subst hd
 cases hi:es.findIdx? (·.key.isStr name) with
 |some i=>
  have hs:(nsFind es name).isSome=true:=by
   unfold nsFind findBy
   cases hf:es.find? (·.key.isStr name) with
   |some _=>rfl
   |none=>
    rw[Array.find?_eq_none] at hf
    obtain⟨hlt,hp,_⟩:=Array.findIdx?_eq_some_iff_getElem.mp hi
    exact absurd hp (hf _ (Array.getElem_mem hlt))
  refine⟨_,ep,by simp only[Obj.putName_eq,Obj.putNameByArray,hi];rfl,sk.modify _ _,by rw[hs];simp,fun x=>?_⟩
  exact findBy_modify (fun n v=>v.isStr n) Value.isStr_inj es name x v i hi
 |none=>
  have hs:(nsFind es name).isSome=false:=by
   unfold nsFind findBy
   have hf:es.find? (·.key.isStr name)=none:=by
    rw[Array.find?_eq_none]
    intro e he
    simpa using Array.findIdx?_eq_none_iff.mp hi e he
   show ((es.find? (·.key.isStr name)).map _).isSome=false
   rw[hf];rfl
  refine⟨_,ep+1,by simp only[Obj.putName_eq,Obj.putNameByArray,hi];rfl,sk.push _ _ _ _,by rw[hs];simp,fun x=>?_⟩
  exact findBy_push (fun n v=>v.isStr n) es name x _ _ v (fun y=>by
   show (name==y)=decide (y=name)
   by_cases h:y=name
   ·subst h;simp
   ·have:¬name=y:=fun e=>h e.symm
    simp[h,this]) hi
theorem gY {β:Type}(fs:List (Str×β))(x:Str)(v:β):(put fs x v).length=if (look fs x).isSome then fs.length else fs.length+1:=by
 induction fs with
 |nil=>rfl
 |cons p r ih=>
  obtain⟨y,u⟩:=p
  by_cases e:y=x
  ·simp[put,look,e]
  ·simp only[put,look,if_neg e,List.length_cons,ih]
   split<;>rfl
theorem ew (F:Fst hb pr env l c α s.heap)(X:K.In hb){k dk:Nat}{cl:Addr}{fs:List (Str×V)}(hk:ae c k=some (.inst cl dk))(hdk:ae c dk=some (.ns fs))(CO:ClsOk K cl)
  {nm:Str} (hn:findIn K (.ref cl) nm=some none) (hsz:fs.length≤1000) {v:V} {g:Value} (i:IsV c α s.heap v g)
  {Q:Unit→Shared→Prop} (hq:∀h' tk,Fst hb pr env l (cset c dk (.ns (put fs nm v))) α h'→Le c α s.heap (cset c dk (.ns (put fs nm v))) α h'→Q () {s with heap:=h',toks:=tk}) :
  wpAny (model prog w) A (setAttr (.ref (α k)) nm g) Q no s:=by
 obtain⟨o,es,ep,I,hg,hd,sk,sz,fi⟩:=my F.toCst hk hdk
 have X':=X.keeps F.base
 have hsome:(nsFind es nm).isSome=(look fs nm).isSome:=by
  have:=fi nm
  cases hl:look fs nm with
  |none=>rw[hl] at this;rw[this];rfl
  |some u=>rw[hl] at this;obtain⟨w,h1,_⟩:=this;rw[h1];rfl
 obtain⟨es',ep',d',sk',sz',fi'⟩:=g6 (hash:=PyData.keyHash w.params nm) (v:=g) hd ⟨s.toks+1,rfl⟩ sk (name:=nm)
 have ht:takerIn K cl nm=some none:=by unfold takerIn;rw[hn];rfl
 refine set_plain X' I CO.sa (osa_open (s:={s with toks:=s.toks+1}) X' I CO.po ht fun b=>?_)
 obtain⟨cd,hc,hd'⟩:=any_some CO.hd
 have hfreed:(Obj.putName nm (PyData.keyHash w.params nm) (.str nm (s.toks+1)) g o).isFreed=false:=Obj.isFreed_of_dict d'
 have D':(s.heap.update (α dk) (Obj.putName nm (PyData.keyHash w.params nm) (.str nm (s.toks+1)) g)).get? (α dk)=some (Obj.putName nm (PyData.keyHash w.params nm) (.str nm (s.toks+1)) g o):=Heap.get?_update_self _ hg hfreed
 have hx:=I.at_
 refine wpAny_bind (wpAny_pure (wpAny_bind (wpAny_bind (wpAny_loadPart hx (wpAny_bind (Looks.here (s:={s with toks:=s.toks+1}) (looks_clsIn X' hc) ?_))))))
 rw[hd']
 refine wpAny_pure (a:=some (α dk)) (wpAny_bind (wpAny_pure (wpAny_bind ?_)))
 unfold nsSet
 refine wpAny_bind (wpAny_bind (wpAny_askSetting (wpAny_pure (wpAny_bind (wpAny_mkText (wpAny_bind (wpAny_loadPart hg ?_)))))))
 rw[hd]
 dsimp only
 have hany:es.any (·.refKey)=false:=by
  rw[Array.any_eq_false'];intro e he;obtain⟨n,t,h⟩:=sk e he;simp[DictEntry.refKey,h]
 rw[aRefKeyMayBeTheName_at,hany,Bool.and_false]
 refine wpAny_updatePart hg ?_
 refine wpAny_bind (wpAny_lookBehind D' (by rw[d'];exact pastItsLine_dict (by rw[sz',sizeLine_eq];split<;>omega)) ?_)
 have hdm:dk∈dom c:=ai hdk
 obtain⟨F',L'⟩:=F.set hdm (o:=.ns (put fs nm v)) (Heap.SameBut.update s.heap (α dk) (Obj.putName nm (PyData.keyHash w.params nm) (.str nm (s.toks+1)) g)) (fun L=>by
  refine⟨_,es',ep',D',d',sk',?_,fun x=>?_⟩
  ·rw[sz',gY,hsome,sz]
  ·rw[am]
   have:=fi x
   by_cases hx:x=nm
   ·rw[if_pos hx];exact⟨g,by rw[fi',if_pos hx],L.isV i⟩
   ·rw[if_neg hx]
    cases hl:look fs x with
    |none=>rw[hl] at this;dsimp only;rw[fi',if_neg hx];exact this
    |some u=>rw[hl] at this;obtain⟨w,h1,h2⟩:=this;exact⟨w,by rw[fi',if_neg hx];exact h1,L.isV h2⟩)
 exact wpAny_pure (hq _ _ F' L')
end
structure Room (d:Nat)(A:Around):Prop where
 handled:A.handled=none
 depth:A.depth+d<recursionLimit
 units:A.units+10*d+200<cLine
theorem Room.deeper {d:Nat}{A:Around}(r:Room (d+1) A)(env:Env):Room d (A.deeper env):=by
 refine⟨r.handled,?_,?_⟩
 ·have:=r.depth;show A.depth+1+d<recursionLimit;exact Om.o8 this
 ·have:=r.units;show A.units+3+10*d+200<cLine;exact Om.o7 this
theorem Room.less {d d':Nat}{A:Around}(r:Room d A)(h:d'≤d):Room d' A:=⟨r.handled,by have:=r.depth;exact Om.o6 h this,by have:=r.units;exact Om.o5 h this⟩
theorem Room.hu {d:Nat}{A:Around}(r:Room d A):A.units+64<cLine:=by have:=r.units;exact Om.o4 this
theorem Room.room {d:Nat}{A:Around}(r:Room d A):A.depth<recursionLimit:=by have:=r.depth;exact Om.o3 this
noncomputable abbrev Spec:=List V→aa→(V→aa→Prop)→Prop
def FnOk (prog:Program)(w:World)(hb:Heap)(d:Nat)(a:Addr)(spec:Spec):Prop:=
 ∀(A:Around),Room d A→∀(vs:List V) (ws:List Value) (c:aa) (α:Al) (s:Shared) (K:V→aa→Prop) (R:Result→Shared→Prop),
  1≤s.toks→Cst hb [] c α s.heap→IsVs c α s.heap vs ws→spec vs c K→
  (∀v c' α' g h' tk,K v c'→Cst hb [] c' α' h'→Le c α s.heap c' α' h'→IsV c' α' h' v g→R (.ok (.ret g)) {s with heap:=h',toks:=tk})→
  codeAny (model prog w) A (.call (.ref a) ⟨ws,[]⟩) R s
theorem IsVs.length {c:aa}{α:Al}{h:Heap}:∀{vs:List V} {ws:List Value},IsVs c α h vs ws→vs.length=ws.length
 |_,_,.nil=>rfl
 |_,_,.cons _ r=>by simp[r.length]
theorem pg {kindOf:Str→Option NameKind}:∀(bs:List (Str×Value)) (m:Str→Option Value) (x:Str),kindOf x=some .local→
  bindL kindOf bs m x=match bs.reverse.lookup x with|some w=>some w|none=>m x:=by
 intro bs
 induction bs with
 |nil=>intro m x _;rfl
 |cons p r ih=>
  obtain⟨n,v⟩:=p
  intro m x hx
  unfold bindL
  rw[ih _ x hx]
  simp only[List.reverse_cons,List.lookup_append,List.lookup_cons,List.lookup_nil]
  cases r.reverse.lookup x with
  |some w=>rfl
  |none=>
   dsimp only[Option.none_or]
   by_cases e:x=n
   ·subst e;simp[hx]
   ·have hb:(x==n)=false:=beq_eq_false_iff_ne.mpr e
    rw[hb]
    by_cases hl:kindOf n=some .local
    ·simp[hl,e]
    ·simp[hl]
theorem oD {kindOf:Str→Option NameKind}:∀(bs:List (Str×Value)) (m:Str→Option Value) (x:Str),kindOf x≠some .local→
  bindC kindOf bs m x=match bs.reverse.lookup x with|some w=>some w|none=>m x:=by
 intro bs
 induction bs with
 |nil=>intro m x _;rfl
 |cons p r ih=>
  obtain⟨n,v⟩:=p
  intro m x hx
  unfold bindC
  rw[ih _ x hx]
  simp only[List.reverse_cons,List.lookup_append,List.lookup_cons,List.lookup_nil]
  cases r.reverse.lookup x with
  |some w=>rfl
  |none=>
   dsimp only[Option.none_or]
   by_cases e:x=n
   ·subst e;simp[hx]
   ·have hb:(x==n)=false:=beq_eq_false_iff_ne.mpr e
    rw[hb]
    by_cases hl:kindOf n=some .local
    ·simp[hl]
    ·simp[hl,e]
theorem rp {c:aa}{α:Al}{h:Heap}:∀(ps:List Str),ps.Nodup→∀(vs:List V) (ws:List Value),IsVs c α h vs ws→∀x v,look (ps.zip vs) x=some v→∃w,(ps.zip ws).reverse.lookup x=some w∧IsV c α h v w:=by
 intro ps
 induction ps with
 |nil=>intro _ vs ws _ x v e;simp[look] at e
 |cons p r ih=>
  intro nd vs ws i x v e
  cases i with
  |nil=>simp[look] at e
  | @cons v0 w0 vs ws i0 i=>
   dsimp only[List.zip_cons_cons,look] at e
   simp only[List.zip_cons_cons,List.reverse_cons,List.lookup_append,List.lookup_cons,List.lookup_nil]
   by_cases hx:p=x
   ·rw[if_pos hx] at e;(injection e with e;subst e)
    have:(r.zip ws).reverse.lookup x=none:=by
     rw[List.lookup_eq_none_iff]
     intro q hq
     have hm:=List.mem_reverse.mp hq
     have:=(List.of_mem_zip hm).1
     simp only[bne_iff_ne,ne_eq]
     intro e
     exact (List.nodup_cons.mp nd).1 (by rw[hx,e];exact this)
    rw[this,hx]
    refine⟨w0,by simp,i0⟩
   ·rw[if_neg hx] at e
    obtain⟨w,h1,h2⟩:=ih (List.nodup_cons.mp nd).2 vs ws i x v e
    exact⟨w,by rw[h1];rfl,h2⟩
structure FnAt (hb:Heap)(a:Addr)(fd:FuncData)(body:List Stmt)(ps:List Str):Prop where
 at_:∃o,hb.get? a=some o∧o.data=.func fd
 lim:hb.NoLimit
 code:hb.CodeRec fd.code fd.qualname
 body:fd.body=.stmts body
 clo:fd.closure=[]
 bind:∀ws:List Value,ws.length=ps.length→bindArgs fd ⟨ws,[]⟩=pure (ps.zip ws)
 nd:ps.Nodup
 kinds:∀p∈ps,fd.scope.names.lookup p=some .local∨(fd.scope.names.lookup p=some .cell∧∀n,((cellsFrom n fd.scope.names []).lookup p).isSome=true)
 co:fd.scope.isCoroutine=false
 gen:fd.scope.isGenerator=false
 kind:fd.scope.kind=.function
theorem cY:∀(names:List (Str×NameKind)) (n:Nat) (acc:List (Str×Addr)) (x:Str) (b:Addr),(x,b)∈cellsFrom n names acc→(x,b)∈acc∨n≤b
 | [],n,acc,x,b,h=>.inl h
 | (name,kind)::r,n,acc,x,b,h=>by
  unfold cellsFrom at h
  split at h
  ·rcases cY r _ _ x b h with h|h
   ·rcases List.mem_cons.mp h with h|h
    ·(injection h with h h_;subst h h_);exact .inr (Nat.le_refl _)
    ·exact .inl h
   ·exact .inr (Nat.le_of_succ_le h)
  ·exact cY r _ _ x b h
theorem vq {M:Model}{A:Around}{E:Value→Shared→Prop}{s:Shared}{scope:Scope}{globals:Addr}{n:Str}{v:Value}{r:List (Str×Value)}{qual:Str}{func:Option Addr}{code:Value}{builtins:Addr}{Q:Env→Shared→Prop}
  (hk:scope.kind=.function) (hl:scope.names.lookup n=some .local)
  (hkind:∀x∈r,scope.names.lookup x.1=some .local∨(scope.names.lookup x.1=some .cell∧((cellsFrom (s.heap.objs.size+1) scope.names []).lookup x.1).isSome=true))
  (hQ:∀env,env=newEnv scope s.heap.objs.size globals (cellsFrom (s.heap.objs.size+1) scope.names []) qual func code none builtins→
   ∀s',1≤s'.toks→InCallC s env.locals (bindL env.kindOf ((n,v)::r) fun _=>none) env.cells (bindC env.kindOf ((n,v)::r) fun _=>none) s'→Q env s') :
  wpAny M A (newFunctionEnv scope globals [] ((n,v)::r) qual func code none builtins) Q E s:=by
 simp only[newFunctionEnv,Option.isSome_none,Bool.false_eq_true,if_false]
 refine wpAny_bind (wpAny_alloc ?_)
 refine wpAny_bind (wpAny_layCells _ (fun name kind cells=>by cases hkc:kind==NameKind.cell<;>simp[hkc]) _ _ _ _ ?_)
 have ok:=cellsFrom_ok scope.names (s.heap.push {cls:=.type "frame",data:=.dict #[]}) (s.heap.objs.size+1) [] ⟨fun _ _ hm=>(nomatch hm),List.Pairwise.nil⟩ (by rw[Heap.size_push];exact Nat.le_refl _)
 rw[Heap.size_push] at ok
 rw[show ({s with heap:=s.heap.push {cls:=.type "frame",data:=.dict #[]}}:Shared).heap.objs.size=s.heap.objs.size+1 from Heap.size_push ..]
 have I0:InCallC s s.heap.objs.size (fun _=>none) (cellsFrom (s.heap.objs.size+1) scope.names []) (fun _=>none) {s with heap:=pushCells (s.heap.push {cls:=.type "frame",data:=.dict #[]}) scope.names}:=
  ⟨⟨⟨_,_,rfl⟩,(Heap.Ns.new s.heap (.type "frame")).keeps (pushCells_keeps _ _),fun b o e=>pushCells_keeps _ _ b o (Heap.get?_push_of_some _ e),Nat.le_refl _⟩,
   fun n c hc=>(ok.empty n c (mem_of_lookup hc)).1,ok.apart,fun n c hm=>(ok.empty n c hm).2⟩
 rw[List.forIn_cons]
 refine wpAny_bind (wpAny_bind (wpAny_bind ?_))
 have hl':(newEnv scope s.heap.objs.size globals (cellsFrom (s.heap.objs.size+1) scope.names []) qual func code none builtins).kindOf n=some .local:=hl
 refine wpAny_storeName_local hl' I0.toInCall.ns (fun h' hn' hs'=>?_) (by show (scope.kind==.class||_)=false;rw[hk];rfl)
 refine wpAny_pure ?_
 have I1:InCallC s s.heap.objs.size (fun y=>if y=n then some v else none) (cellsFrom (s.heap.objs.size+1) scope.names []) (fun _=>none) {s with heap:=h',toks:=s.toks+1}:=
  ⟨⟨⟨h',_,rfl⟩,hn',fun b o e=>hs'.extBut b o (Nat.ne_of_lt (Nat.lt_of_lt_of_le (Heap.lt_size e) I0.toInCall.fresh)) (I0.toInCall.keep b o e),I0.toInCall.fresh⟩,
   fun k c hc=>(I0.cell k c hc).sameBut hs' (Nat.ne_of_gt (I0.above k c (mem_of_lookup hc))),I0.apart,I0.above⟩
 refine av (s:={s with heap:=h',toks:=s.toks+1}) (Nat.le_add_left 1 _) ?_
 refine wpAny_bindParams (s₀:=s) (env:=newEnv scope s.heap.objs.size globals (cellsFrom (s.heap.objs.size+1) scope.names []) qual func code none builtins) _ (fun _ _ _=>rfl) hk r _ _ _ _ I1 hkind fun s' x ht=>wpAny_pure (hQ _ rfl s' ht ?_)
 unfold bindL bindC
 rw[if_pos hl',if_pos hl'];exact x
theorem g9 {prog:Program}{w:World}{A:Around}{s:Shared}{R:Result→Shared→Prop}{a:Addr}{o:Obj}{fd:FuncData}{body:List Stmt}{vals:List Value}{binds:List (Str×Value)}
  (hs:1≤s.toks∨∃n v r,binds=(n,v)::r∧fd.scope.names.lookup n=some .local)
  (hroom:A.depth<recursionLimit) (ho:s.heap.get? a=some o) (hdata:o.data=.func fd) (hlim:s.heap.NoLimit) (hcd:s.heap.CodeRec fd.code fd.qualname)
  (hbody:fd.body=.stmts body) (hbind:bindArgs fd ⟨vals,[]⟩=pure binds) (hclo:fd.closure=[])
  (hkind:∀x∈binds,fd.scope.names.lookup x.1=some .local∨(fd.scope.names.lookup x.1=some .cell∧((cellsFrom (s.heap.objs.size+1) fd.scope.names []).lookup x.1).isSome=true))
  (h:∀s₁,1≤s₁.toks→InCallC s (callEnvC fd s.heap.objs.size a).locals (bindL (callEnvC fd s.heap.objs.size a).kindOf binds fun _=>none) (callEnvC fd s.heap.objs.size a).cells
    (bindC (callEnvC fd s.heap.objs.size a).kindOf binds fun _=>none) s₁→
   wpAny (model prog w) (A.deeper (callEnvC fd s.heap.objs.size a)) (execs body (callEnvC fd s.heap.objs.size a)) (fun f s'=>R (.ok (.ret (match f with | .ret v=>v|_=>.none))) s')
    (fun e s'=>wpAny (model prog w) (A.deeper (callEnvC fd s.heap.objs.size a)) (leaving (callEnvC fd s.heap.objs.size a) e) (fun _ s''=>R (.error e) s'') (fun e' s''=>R (.error e') s'') s') s₁)
  (hco:fd.scope.isCoroutine=false) (hgen:fd.scope.isGenerator=false) (hk:fd.scope.kind=.function) :
  codeAny (model prog w) A (.call (.ref a) ⟨vals,[]⟩) R s:=by
 refine codeAny_call_function hroom ho hdata hco hgen hbody hcd ?_
 rw[hbind,hclo]
 rcases hs with hs|⟨n,v,r,rfl,hl⟩
 ·refine wpAny_pure (av hs (wpAny_newFunctionEnv_cells hk hkind fun env he s' x=>?_))
  subst he
  exact fun ht=>⟨hlim.keeps x.toInCall.keep,codeAny_func (h s' ht x)⟩
 ·refine wpAny_pure (vq hk hl (fun x hx=>hkind x (.tail _ hx)) fun env he s' ht x=>?_)
  subst he
  exact⟨hlim.keeps x.toInCall.keep,codeAny_func (h s' ht x)⟩
def nr (prog:Program)(w:World)(hb:Heap)(d:Nat)(a:Addr)(spec:Spec):Prop:=
 ∀(A:Around),Room d A→∀(vs:List V) (ws:List Value) (c:aa) (α:Al) (s:Shared) (K:V→aa→Prop) (R:Result→Shared→Prop),
  Cst hb [] c α s.heap→IsVs c α s.heap vs ws→spec vs c K→
  (∀v c' α' g h' tk,K v c'→Cst hb [] c' α' h'→Le c α s.heap c' α' h'→IsV c' α' h' v g→R (.ok (.ret g)) {s with heap:=h',toks:=tk})→
  codeAny (model prog w) A (.call (.ref a) ⟨ws,[]⟩) R s
theorem sn {prog:Program}{w:World}{hb:Heap}{d:Nat}{a:Addr}{fd:FuncData}{body:List Stmt}{ps:List Str}(N:FnAt hb a fd body ps){spec:Spec}
  (h:∀(A:Around),Room d A→∀(L:Addr) (vs:List V) (c:aa) (K:V→aa→Prop),spec vs c K→EnvOk (callEnvC fd L a)→vs.length=ps.length∧
   OkS (model prog w) A hb (dom c) (callEnvC fd L a) ⟨ps.zip vs,c⟩ (execs body (callEnvC fd L a))
    (fun f τ=>(∀k∈dom c,k∈dom τ.c)∧K (match f with | .ret v=>v|_=>.d .none) τ.c)) :
  ∀(A:Around),Room (d+1) A→∀(vs:List V) (ws:List Value) (c:aa) (α:Al) (s:Shared) (K:V→aa→Prop) (R:Result→Shared→Prop),
  (1≤s.toks∨∃n r,ps=n::r∧fd.scope.names.lookup n=some .local)→Cst hb [] c α s.heap→IsVs c α s.heap vs ws→spec vs c K→
  (∀v c' α' g h' tk,K v c'→Cst hb [] c' α' h'→Le c α s.heap c' α' h'→IsV c' α' h' v g→R (.ok (.ret g)) {s with heap:=h',toks:=tk})→
  codeAny (model prog w) A (.call (.ref a) ⟨ws,[]⟩) R s:=by
 intro A r vs ws c α s K R hs C iv sp hR
 obtain⟨o,ho,hd⟩:=N.at_
 have base:=C.base
 have EO:EnvOk (callEnvC fd s.heap.objs.size a):=by
  have cel:∀x b,(callEnvC fd s.heap.objs.size a).cells.lookup x=some b→s.heap.objs.size+1≤b:=fun x b e=>by
   rcases cY _ _ _ x b (mem_of_lookup e) with h|h
   ·contradiction
   ·exact h
  have ok:=cellsFrom_ok fd.scope.names (s.heap.push {cls:=.type "frame",data:=.dict #[]}) (s.heap.objs.size+1) [] ⟨fun _ _ hm=>(nomatch hm),List.Pairwise.nil⟩ (by rw[Heap.size_push];exact Nat.le_refl _)
  rw[Heap.size_push] at ok
  exact⟨N.kind,fun x b e q=>by have:=cel x b e;rw[q] at this;exact absurd this (Nat.not_succ_le_self _),fun x y b h1 h2=>name_of_addr ok.apart (mem_of_lookup h1) (mem_of_lookup h2),
   by show (fd.scope.kind==.module&&_)=false;rw[N.kind];rfl⟩
 obtain⟨hlen,hbody⟩:=h (A.deeper (callEnvC fd s.heap.objs.size a)) (r.deeper _) s.heap.objs.size vs c K sp EO
 have hwl:ws.length=ps.length:=by rw[←iv.length];exact hlen
 have hs':1≤s.toks∨∃n v r,ps.zip ws=(n,v)::r∧fd.scope.names.lookup n=some .local:=by
  rcases hs with hs|⟨n,r,rfl,hl⟩
  ·exact .inl hs
  ·cases ws with
   |nil=>contradiction
   |cons v ws=>exact .inr ⟨n,v,r.zip ws,rfl,hl⟩
 refine g9 hs' r.room (base _ _ ho) hd (N.lim.keeps base) (N.code.keeps base) N.body (N.bind ws hwl) N.clo (fun x hx=>?_) (fun s₁ htk X=>?_) N.co N.gen N.kind
 ·rcases N.kinds x.1 (List.of_mem_zip (show (x.1,x.2)∈ps.zip ws from hx)).1 with h|⟨h,q⟩
  ·exact .inl h
  ·exact .inr ⟨h,q _⟩
 ·obtain⟨h₁,tk,rfl,kp⟩:=X.done
  obtain⟨C1,L1⟩:=C.keeps kp
  have hfr:∀b,FrA (callEnvC fd s.heap.objs.size a) b→s.heap.objs.size≤b:=by
   rintro b (rfl|⟨x,e⟩)
   ·exact Nat.le_refl _
   ·exact Nat.le_of_lt (X.above x b (mem_of_lookup e))
  have hno:∀b,FrA (callEnvC fd s.heap.objs.size a) b→s.heap.get? b=none:=fun b f=>by
   cases e:s.heap.get? b with
   |none=>rfl
   |some o=>exact absurd (Heap.lt_size e) (Nat.not_lt_of_le (hfr b f))
  have F1:Fst hb (dom c) (callEnvC fd s.heap.objs.size a) (ps.zip vs) c α h₁:=by
   refine⟨⟨C1.base,C1.cell,C1.fresh,C1.inj,fun _ hk=>hk⟩,⟨_,X.toInCall.ns⟩,fun x b e=>?_,fun x v e=>?_,fun b f=>⟨?_,?_⟩⟩
   ·obtain⟨o,h1,h2⟩:=X.cell x b e;exact⟨o,_,h1,h2⟩
   ·obtain⟨g,hg,ig⟩:=rp ps N.nd vs ws (L1.isVs iv) x v e
    refine⟨g,?_,ig⟩
    have hx:x∈ps:=by
     have:=mem_of_lookup hg
     exact (List.of_mem_zip (List.mem_reverse.mp this)).1
    rcases N.kinds x hx with hk|⟨hk,q⟩
    ·refine .loc _ hk X.toInCall.ns ?_
     rw[pg _ _ _ hk,hg]
    ·have hk':(callEnvC fd s.heap.objs.size a).kindOf x=some .cell:=hk
     obtain⟨b,hbb⟩:=Option.isSome_iff_exists.mp (q (s.heap.objs.size+1))
     obtain⟨o,h1,h2⟩:=X.cell x b hbb
     refine .cel b o hk' hbb h1 ?_
     rw[h2,oD _ _ _ (by rw[hk'];decide),hg]
   ·cases e:hb.get? b with
    |none=>rfl
    |some o=>have:=base _ _ e;rw[hno b f] at this;contradiction
   ·rintro⟨k,hk,e⟩
    obtain⟨q,hq⟩:=C.ex hk
    rw[e,hno b f] at hq;contradiction
  have:=hbody α {s with heap:=h₁,toks:=tk} (fun f s'=>R (.ok (.ret (match f with | .ret v=>v|_=>.none))) s') htk F1 (fun f τ α' g h' tk' htk' hK F' LS ig=>by
   obtain⟨hdom,hK⟩:=hK
   have LE:Le c α s.heap τ.c α' h':=by
    refine⟨hdom,LS.agree,fun b o e n=>LS.kept b o (kp b o e) (fun f=>by rw[hno b f] at e;contradiction) n,fun k hk=>?_⟩
    rcases LS.grow k hk with q|q
    ·exact .inl q
    ·refine .inr ?_
     cases e:s.heap.get? (α' k) with
     |none=>rfl
     |some o=>have q':h₁.get? (α' k)=none:=q;rw[kp _ _ e] at q';contradiction
   have C':Cst hb [] τ.c α' h':=⟨F'.base,F'.cell,F'.fresh,F'.inj,fun k hk=>by cases hk⟩
   cases f with
   |next=>(subst ig);exact hR (.d .none) τ.c α' .none h' tk' hK C' LE .none
   |brk=>(subst ig);exact hR (.d .none) τ.c α' .none h' tk' hK C' LE .none
   |cont=>(subst ig);exact hR (.d .none) τ.c α' .none h' tk' hK C' LE .none
   |ret v=>obtain⟨g',rfl,ig⟩:=ig;exact hR v τ.c α' g' h' tk' hK C' LE ig)
  exact wpAny_mono this (fun _ _ x=>x) (fun _ _ x=>x.elim)
theorem yI {prog:Program}{w:World}{hb:Heap}{d:Nat}{a:Addr}{fd:FuncData}{body:List Stmt}{ps:List Str}(N:FnAt hb a fd body ps){spec:Spec}
  (h:∀(A:Around),Room d A→∀(L:Addr) (vs:List V) (c:aa) (K:V→aa→Prop),spec vs c K→EnvOk (callEnvC fd L a)→vs.length=ps.length∧
   OkS (model prog w) A hb (dom c) (callEnvC fd L a) ⟨ps.zip vs,c⟩ (execs body (callEnvC fd L a))
    (fun f τ=>(∀k∈dom c,k∈dom τ.c)∧K (match f with | .ret v=>v|_=>.d .none) τ.c)) :
  FnOk prog w hb (d+1) a spec:=fun A r vs ws c α s K R hs C iv sp hR=>sn N h A r vs ws c α s K R (.inl hs) C iv sp hR
theorem wB {prog:Program}{w:World}{hb:Heap}{d:Nat}{a:Addr}{fd:FuncData}{body:List Stmt}{n:Str}{r:List Str}(N:FnAt hb a fd body (n::r))(hl:fd.scope.names.lookup n=some .local){spec:Spec}
  (h:∀(A:Around),Room d A→∀(L:Addr) (vs:List V) (c:aa) (K:V→aa→Prop),spec vs c K→EnvOk (callEnvC fd L a)→vs.length=(n::r).length∧
   OkS (model prog w) A hb (dom c) (callEnvC fd L a) ⟨(n::r).zip vs,c⟩ (execs body (callEnvC fd L a))
    (fun f τ=>(∀k∈dom c,k∈dom τ.c)∧K (match f with | .ret v=>v|_=>.d .none) τ.c)) :
  nr prog w hb (d+1) a spec:=fun A r' vs ws c α s K R C iv sp hR=>sn N h A r' vs ws c α s K R (.inr ⟨n,r,rfl,hl⟩) C iv sp hR
theorem bp {α:Type}{M:Model}{A:Around}{t:Sem α}{Q:α→Shared→Prop}{E:Value→Shared→Prop}{s:Shared}(h:wpAny M A t Q no s):wpAny M A t Q E s:=
 wpAny_mono h (fun _ _ x=>x) (fun _ _ x=>x.elim)
def vOk (c':aa):V→Prop
 | .obj k=>k∈dom c'
 |_=>True
def vW (c c':aa)(v v':V):Prop:=(v'=v∧vOk c' v)∨∃k xs,v=.obj k∧ae c k=some (.list xs)∧v'=.d (.lst xs)∧k∉dom c'
def mn (l:Loc)(c c':aa):Loc→Prop
 | []=>True
 | (x,v')::r=>(∃v,look l x=some v∧vW c c' v v')∧mn l c c' r
def fsW (c c':aa):List (Str×V)→List (Str×V)→Prop
 | [],[]=>True
 | (x,v)::r,(x',v')::r'=>x'=x∧vW c c' v v'∧fsW c c' r r'
 |_,_=>False
def oW (c c':aa)(o o':O):Prop:=
 match o,o' with
 | .list xs,.list xs'=>xs'=xs
 | .ns fs,.ns fs'=>fsW c c' fs fs'
 | .inst C dk,.inst C' dk'=>C'=C∧dk'=dk∧dk∈dom c'
 | .bound id k,.bound id' k'=>id'=id∧k'=k∧k∈dom c'
 |_,_=>False
def b6 (c c':aa):aa→Prop
 | []=>True
 | (k,o')::r=>(∃o,ae c k=some o∧oW c c' o o')∧b6 c c' r
structure Weak (pr:List Nat)(σ τ:Sg):Prop where
 l:mn σ.l σ.c τ.c τ.l
 c:b6 σ.c τ.c τ.c
 pr:∀k∈pr,k∈dom τ.c
section
variable {hb h:Heap}{pr:List Nat}{env:Env}{α:Al}
theorem cw {c c':aa}:∀{r:aa},b6 c c' r→∀k∈dom r,k∈dom c
 | [],_,k,hk=>by cases hk
 | (j,o)::r,h,k,hk=>by
  rcases List.mem_cons.mp hk with e|hk
  ·obtain⟨⟨o,ho,_⟩,_⟩:=h;simp only[e];exact ai ho
  ·exact cw h.2 k hk
theorem lz {c c':aa}:∀{r:aa},b6 c c' r→∀k o',ae r k=some o'→∃o,ae c k=some o∧oW c c' o o'
 | [],_,k,o',e=>by contradiction
 | (j,u)::r,h,k,o',e=>by
  dsimp only[ae] at e
  by_cases q:j=k
  ·rw[if_pos q] at e;(injection e with e;subst e);rw[←q];exact h.1
  ·rw[if_neg q] at e;exact lz h.2 k o' e
theorem jQ {l:Loc}{c c':aa}:∀{r:Loc},mn l c c' r→∀x v',look r x=some v'→∃v,look l x=some v∧vW c c' v v'
 | [],_,x,v',e=>by contradiction
 | (y,u)::r,h,x,v',e=>by
  dsimp only[look] at e
  by_cases q:y=x
  ·rw[if_pos q] at e;(injection e with e;subst e);rw[←q];exact h.1
  ·rw[if_neg q] at e;exact jQ h.2 x v' e
theorem kG {c c':aa}:∀{fs fs':List (Str×V)},fsW c c' fs fs'→fs'.length=fs.length∧∀x,match look fs' x with
  |some v'=>∃v,look fs x=some v∧vW c c' v v'
  |none=>look fs x=none
 | [],[],_=>⟨rfl,fun x=>rfl⟩
 | (y,v)::r,(y',v')::r',h=>by
  obtain⟨e,hv,hr⟩:=h
  subst e
  obtain⟨h1,h2⟩:=kG hr
  refine⟨by simp[h1],fun x=>?_⟩
  dsimp only[look]
  by_cases q:y'=x
  ·rw[if_pos q,if_pos q];exact⟨v,rfl,hv⟩
  ·rw[if_neg q,if_neg q];exact h2 x
 | [],_::_,h=>h.elim
 |_::_,[],h=>h.elim
theorem iY {c c':aa}(hd:∀k∈dom c',k∈dom c){b:Addr}(o:aC c' α b):aC c α b:=by obtain⟨k,hk,e⟩:=o;exact⟨k,hd k hk,e⟩
theorem nR (C:Cst hb pr c α h){c':aa}(hd:∀k∈dom c',k∈dom c){v v':V}{g:Value}(w:vW c c' v v')(i:IsV c α h v g):IsV c' α h v' g:=by
 rcases w with ⟨rfl,ok⟩|⟨k,xs,rfl,hk,rfl,hn⟩
 ·cases v' with
  |d x=>exact IsD.step (fun _ _ _ e _=>e) (fun b o=>.inl (iY hd o)) i
  |obj k=>exact⟨i.1,ok⟩
  |val u=>exact i
  |rng p q=>obtain⟨r,t,u,v,e,g,n⟩:=i;exact⟨r,t,u,v,e,g,fun o=>n (iY hd o)⟩
  |bi b=>exact i
  |mt e=>obtain⟨r,e,m⟩:=i;exact⟨r,e,m.step (fun _ _ _ e _=>e) (fun b o=>.inl (iY hd o))⟩
 ·obtain⟨ws,ep,g',r⟩:=C.cell k _ hk
  simp only[i.1]
  refine IsD.lst g' ?_ (r.step (fun _ _ _ e _=>e) (fun b o=>.inl (iY hd o)))
  rintro⟨j,hj,e⟩
  exact hn (C.inj j (hd j hj) k (ai hk) e▸hj)
theorem Weak.fst {σ τ:Sg}(W:Weak pr σ τ)(F:Fst hb pr env σ.l σ.c α h):Fst hb pr env τ.l τ.c α h:=by
 have hd:=cw W.c
 refine⟨⟨F.base,fun k o' e=>?_,fun k hk=>F.fresh k (hd k hk),fun k hk j hj=>F.inj k (hd k hk) j (hd j hj),W.pr⟩,F.ns,F.cel,fun x v' e=>?_,fun b f=>⟨(F.fr b f).1,fun o=>(F.fr b f).2 (iY hd o)⟩⟩
 ·obtain⟨o,ho,w⟩:=lz W.c k o' e
  have i:=F.cell k o ho
  cases o with
  |list xs=>cases o'<;>first|exact w.elim | (have w:_=xs:=w;subst w;obtain⟨ws,ep,g,r⟩:=i;exact⟨ws,ep,g,r.step (fun _ _ _ e _=>e) (fun b o=>.inl (iY hd o))⟩)
  |ns fs=>
   cases o' with
   |ns fs'=>
    refine aA fun G9 back9=>?_;obtain⟨q,es,ep,g,hd',sk,sz,f⟩:=i;refine back9 ?_
    obtain⟨h1,h2⟩:=kG (show fsW σ.c τ.c fs fs' from w)
    refine⟨q,es,ep,g,hd',sk,by simp only[h1];exact sz,fun x=>?_⟩
    have a:=f x
    have b:=h2 x
    cases hl:look fs' x with
    |none=>simp only[hl] at b;rw[b] at a;exact a
    |some v'=>
     simp only[hl] at b
     obtain⟨v,hv,hw⟩:=b
     simp only[hv] at a
     obtain⟨u,hu,iu⟩:=a
     exact⟨u,hu,nR F.toCst hd hw iu⟩
   |_=>exact w.elim
  |inst C dk=>cases o'<;>first|exact w.elim | (obtain⟨rfl,rfl,w⟩:=(show _=C∧_=dk∧dk∈dom τ.c from w);exact⟨i.1,w⟩)
  |bound id k=>cases o'<;>first|exact w.elim | (obtain⟨rfl,rfl,w⟩:=(show _=id∧_=k∧k∈dom τ.c from w);exact⟨i.1,w⟩)
 ·obtain⟨v,hv,w⟩:=jQ W.l x v' e
  obtain⟨g,H,i⟩:=F.loc x v hv
  exact⟨g,H,nR F.toCst hd w i⟩
theorem Weak.leS {σ τ:Sg}(W:Weak pr σ τ){c₀:aa}{α₀:Al}{h₀:Heap}(L:LeS pr env c₀ α₀ h₀ σ.c α h):LeS pr env c₀ α₀ h₀ τ.c α h:=
 ⟨L.agree,L.kept,fun k hk=>L.grow k (cw W.c k hk)⟩
end
section
variable {prog:Program}{w:World}{A:Around}{hb:Heap}{pr:List Nat}{env:Env}
theorem LeS.isD {l:Loc}{c c':aa}{α α':Al}{h h':Heap}(F:Fst hb pr env l c α h)(L:LeS pr env c α h c' α' h'){d:D}{g:Value}(i:IsD h (aC c α) d g):IsD h' (aC c' α') d g:=by
 refine i.step (fun b o hz e n=>L.kept b o e (fun f=>aV F f o hz e) n) (fun b ⟨k,hk,e⟩=>e▸L.grow k hk)
theorem ql {σ:Sg}{test:Expr}{body orelse:List Stmt}{pos:Pos}{K:F→Sg→Prop}(I:Nat→Sg→Prop)(k:Nat)(h0:I k σ)
  (turn:∀k τ,I k τ→OkE (model prog w) A hb pr env (fun _ _ _ b g=>g=b) τ.l τ.c (isTrue test env (eval test env)) (fun b c'=>
   (b=true→OkS (model prog w) A hb pr env ⟨τ.l,c'⟩ (execs body env) (fun f υ=>match f with
    | .next | .cont=>∃k' υ',k'<k∧Weak pr υ υ'∧I k' υ'
    | .brk=>K .next υ
    | .ret v=>K (.ret v) υ))∧
   (b=false→OkS (model prog w) A hb pr env ⟨τ.l,c'⟩ (execs orelse env) K))) :
  OkS (model prog w) A hb pr env σ (exec (.While test body orelse pos) env) K:=by
 intro α s Q hs F0 hq
 refine wpAny_While (codeAny_whileLoop (fun k s'=>∃τ α' h' tk,s'={s with heap:=h',toks:=tk}∧1≤tk∧I k τ∧Fst hb pr env τ.l τ.c α' h'∧LeS pr env σ.c α s.heap τ.c α' h') ?_ k ⟨σ,α,s.heap,s.toks,rfl,hs,h0,F0,.refl ..⟩)
 rintro k s' ⟨τ,α',h',tk,rfl,htk,hI,F,L⟩
 refine bp (turn k τ hI α' _ _ htk F fun b c1 α1 g h1 tk1 htk1 hK F1 L1 e=>?_)
 subst e
 have L01:=L.trans (L1.leS F.toCst) (fun b f=>(F1.fr b f).2)
 cases g with
 |true=>
  simp only[if_pos rfl]
  refine bp (hK.1 rfl α1 _ _ htk1 F1 fun f υ α2 g2 h2 tk2 htk2 hK2 F2 L2 ig=>?_)
  have L02:=L01.trans L2 (fun b f=>(F2.fr b f).2)
  cases f with
  |next=>(subst ig);obtain⟨k',υ',hk',W,hI'⟩:=hK2;exact⟨k',hk',υ',α2,h2,tk2,rfl,htk2,hI',W.fst F2,W.leS L02⟩
  |cont=>(subst ig);obtain⟨k',υ',hk',W,hI'⟩:=hK2;exact⟨k',hk',υ',α2,h2,tk2,rfl,htk2,hI',W.fst F2,W.leS L02⟩
  |brk=>(subst ig);exact hq .next υ α2 .next h2 tk2 htk2 hK2 F2 L02 rfl
  |ret v=>obtain⟨u,rfl,iu⟩:=ig;exact hq (.ret v) υ α2 (.ret u) h2 tk2 htk2 hK2 F2 L02 ⟨u,rfl,iu⟩
 |false=>
  rw[if_neg (by decide)]
  refine bp (hK.2 rfl α1 _ _ htk1 F1 fun f υ α2 g2 h2 tk2 htk2 hK2 F2 L2 ig=>?_)
  exact hq f υ α2 g2 h2 tk2 htk2 hK2 F2 (L01.trans L2 (fun b f=>(F2.fr b f).2)) ig
noncomputable def bQ (a b:Int):List D:=(List.range (b-a).toNat).map fun i=>D.int (a+(i:Nat))
noncomputable def cs:V→Option (List D)
 | .d (.lst xs)=>some xs
 | .d (.tup xs)=>some xs
 | .rng a b=>some (bQ a b)
 |_=>none
def mD (prog:Program)(w:World)(s:Shared)(c:aa)(α:Al)(xs:List D)(I:Addr)(h1:Heap):Prop:=
 ∃fp P St,(∀A':Around,A'.handled=none→Walks prog w A' I fp [I] xs.length P St)∧St 0 h1∧(∀i h,St i h→(∃o,h.get? I=some o)∧∀o,du o=true→h.get? I≠some o)∧
  (∀b∈fp,b=I∨∃o,du o=true∧s.heap.get? b=some o∧¬aC c α b)∧(∀i u,P i u→∀d,xs[i]?=some d→IsD s.heap (aC c α) d u)
def fe:V→Prop
 | .rng a b=>-1048576≤a∧a≤1048576∧-1048576≤b∧b≤1048576
 |_=>True
theorem rb {I a:Addr}{Y:Addr→Prop}(ha:Y a):∀b∈[I,a],b=I∨Y b:=fun b hb=>(List.mem_cons.mp hb).imp id fun q=>by rw[List.mem_singleton.mp q];exact ha
theorem rM {h:Heap}{own:Addr→Prop}{xs:List D}{ws:List Value}(r:IsDs h own xs ws){i:Nat}{u:Value}(hP:ws.toArray[i]?=some u)(d:D)(hd:xs[i]?=some d):IsD h own d u:=by
 obtain⟨w,hw,iw⟩:=r.get i d hd
 have:some w=some u:=by rw[←hw,←hP];simp
 exact Option.some.inj this▸iw
theorem qe {h:Heap}{I:Addr}{o:Obj}{T:String}(hT:(Value.type T==.type "range" || Value.type T==.type "re.Match")=false) (ho:h.get? I=some o) (hc:o.cls=.type T) {fs:Array Value} (hd:o.data=.fields fs):(∃o,h.get? I=some o)∧∀o,du o=true→h.get? I≠some o:=by
 refine⟨⟨o,ho⟩,fun o' hz e=>?_⟩
 obtain rfl:=Option.some.inj (ho.symm.trans e)
 unfold du at hz
 rw[hd] at hz
 have hz:(o.cls==.type "range" || o.cls==.type "re.Match")=true:=hz
 rw[hc,hT] at hz;contradiction
section
variable {c:aa}{α:Al}{s:Shared}{Q:Value→Shared→Prop}
theorem qq {a:Addr}{ws:List Value}{ep:Nat}{xs:List D}(g:s.heap.get? a=some (bj "list" ws ep)) (n:¬aC c α a) (r:IsDs s.heap (aC c α) xs ws) (hq:∀o,mD prog w s c α xs s.heap.objs.size (s.heap.push o)→Q (.ref s.heap.objs.size) {s with heap:=s.heap.push o}):wpAny (model prog w) A (pyIter (.ref a)) Q no s:=by
 have hl:s.heap.IsList a ws.toArray:=⟨_,g,rfl,_,rfl⟩
 have hsz:ws.toArray.size=xs.length:=by rw[List.size_toArray,←r.length]
 exact wpAny_pyIter_list hl (hq _ ⟨_,_,_,fun A' hh=>hsz▸Walks.list hh s.heap.objs.size a (Nat.ne_of_lt (Heap.lt_size g)) ws.toArray,⟨⟨_,Heap.get?_push_size _ rfl,rfl,rfl⟩,hl.push _⟩,
  fun i h ⟨⟨o,ho,hc,hd⟩,_⟩=>qe (by decide) ho hc hd,rb ⟨_,rfl,g,n⟩,fun i u hP d hd=>rM r hP d hd⟩)
theorem sj {a:Addr}{ws:List Value}{ep:Nat}{xs:List D}(g:s.heap.get? a=some (bj "tuple" ws ep)) (n:¬aC c α a) (r:IsDs s.heap (aC c α) xs ws) (hq:∀o,mD prog w s c α xs s.heap.objs.size (s.heap.push o)→Q (.ref s.heap.objs.size) {s with heap:=s.heap.push o}):wpAny (model prog w) A (pyIter (.ref a)) Q no s:=by
 have hl:s.heap.IsTuple a ws.toArray:=⟨_,g,rfl,_,rfl⟩
 have hsz:ws.toArray.size=xs.length:=by rw[List.size_toArray,←r.length]
 exact wpAny_pyIter_tuple hl (hq _ ⟨_,_,_,fun A' hh=>hsz▸Walks.tuple hh s.heap.objs.size a (Nat.ne_of_lt (Heap.lt_size g)) ws.toArray,⟨⟨_,Heap.get?_push_size _ rfl,rfl,rfl⟩,⟨_,Heap.get?_push_of_some _ g,rfl,_,rfl⟩⟩,
  fun i h ⟨⟨o,ho,hc,hd⟩,_⟩=>qe (by decide) ho hc hd,rb ⟨_,rfl,g,n⟩,fun i u hP d hd=>rM r hP d hd⟩)
end
theorem nj {c:aa}{α:Al}{s:Shared}(C:Cst hb pr c α s.heap){v:V}{g:Value}{xs:List D}(e:cs v=some xs)(sm:fe v)(i:IsV c α s.heap v g){Q:Value→Shared→Prop}
  (hq:∀o,mD prog w s c α xs s.heap.objs.size (s.heap.push o)→Q (.ref s.heap.objs.size) {s with heap:=s.heap.push o}):wpAny (model prog w) A (pyIter g) Q no s:=by
 cases v with
 |d x=>
  have i:=IsD.inv i
  cases x with
  |lst ys=>obtain rfl:=Option.some.inj e;obtain⟨ws,a,ep,rfl,g,n,r⟩:=i;exact qq g n r hq
  |tup ys=>obtain rfl:=Option.some.inj e;obtain⟨ws,a,ep,rfl,g,n,r⟩:=i;exact sj g n r hq
  |_=>contradiction
 |rng a b=>
  (injection e with e;subst e)
  obtain⟨r,t,u,v,rfl,g,n⟩:=i
  have hlen:(bQ a b).length=(b-a).toNat:=by simp[bQ]
  have e1:Builtin.Range.rangeSize a b 1=(((bQ a b).length:Nat):Int):=by rw[hlen,rangeSize_one];split<;>omega
  have sm:-1048576≤a∧a≤1048576∧-1048576≤b∧b≤1048576:=sm
  refine wpAny_pyIter_range g (small_one (by omega) (by omega) (by omega) (by omega)) (hq _ ?_)
  refine⟨_,_,_,fun A' hh=>Walks.range hh s.heap.objs.size a 1 (bQ a b).length,?_,?_,?_,?_⟩
  ·show (s.heap.push {cls:=.type "range_iterator",data:=.fields #[rawInt a,rawInt (Builtin.Range.rangeSize a b 1),rawInt 1]}).get? s.heap.objs.size=some _
   rw[e1,Heap.get?_push_size _ rfl]
   simp
  ·intro i h st
   have st':h.get? s.heap.objs.size=some _:=st
   exact qe (T:="range_iterator") (by decide) st' rfl rfl
  ·intro b hb'
   exact .inl (List.mem_singleton.mp hb')
  ·rintro i u ⟨t,rfl⟩ d hd
   have:d=.int (a+(i:Nat)):=by
    unfold bQ at hd
    rw[List.getElem?_map] at hd
    obtain⟨j,hj,rfl⟩:=Option.map_eq_some_iff.mp hd
    obtain⟨hlt,rfl⟩:=List.getElem?_eq_some_iff.mp hj
    simp
   simp only[this,Int.mul_one];exact .int _ _
 |_=>contradiction
def kL (env:Env)(x:Str):Prop:=env.kindOf x=some .local∨(env.kindOf x=some .cell∧∃b,env.cells.lookup x=some b)
theorem xb (EO:EnvOk env)(hh:A.handled=none){l:Loc}{c:aa}{x:Str}{px pos:Pos}{iter:Expr}{body:List Stmt}{K:F→Sg→Prop}(hx:kL env x)
  (hfold:∀v,foldedSetIterable iter env v=pure v)
  (hi:OkE (model prog w) A hb pr env IsV l c (eval iter env) (fun v c1=>fe v∧∃xs,cs v=some xs∧∃I:Nat→Sg→Prop,I 0 ⟨l,c1⟩∧
   (∀i d τ,xs[i]?=some d→I i τ→OkS (model prog w) A hb pr env ⟨put τ.l x (.d d),τ.c⟩ (execs body env) (fun f υ=>match f with
    | .next | .cont=>∃υ',Weak pr υ υ'∧I (i+1) υ'
    | .brk=>K .next υ
    | .ret v=>K (.ret v) υ))∧∀τ,I xs.length τ→K .next τ)) :
  OkS (model prog w) A hb pr env ⟨l,c⟩ (exec (.For (.Name x px) iter body [] pos) env) K:=by
 intro α s Q hs F0 hq
 refine wpAny_For (hi α s _ hs F0 fun v c1 α1 g h1 tk1 htk1 hK F1 L1 iv=>?_) hfold
 refine aA fun G9 back9=>?_;obtain⟨sm,xs,hxs,I,hI0,turn,fin⟩:=hK;refine back9 ?_
 refine nj (s:={s with heap:=h1,toks:=tk1}) F1.toCst hxs sm iv (fun o pk=>?_)
 refine aA fun G9 back9=>?_;obtain⟨fp,P,St,W,st0,hns,hfp,hP⟩:=pk;refine back9 ?_
 obtain⟨F2,L2⟩:=F1.push o
 have hI1:h1.get? h1.objs.size=none:=by
  cases e:h1.get? h1.objs.size with
  |none=>rfl
  |some o'=>exact absurd (Heap.lt_size e) (Nat.lt_irrefl _)
 have LS1:=L1.leS (env:=env) F0.toCst
 have LS2:LeS pr env c1 α1 h1 c1 α1 (h1.push o):=L2.leS F1.toCst
 have nfI:¬FrA env h1.objs.size:=fun f=>by
  rcases f with f|⟨y,f⟩
  ·obtain⟨m,hm⟩:=F1.ns;exact absurd hm.lt (by rw[←f];exact Nat.lt_irrefl _)
  ·obtain⟨o,v,ho,_⟩:=F1.cel y _ f;rw[hI1] at ho;contradiction
 have nbI:hb.get? h1.objs.size=none:=by
  cases e:hb.get? h1.objs.size with
  |none=>rfl
  |some o'=>rw[F1.base _ _ e] at hI1;contradiction
 refine codeAny_forLoop (fun k s'=>∃(i:Nat) (τ:Sg) (α':Al) (h':Heap) (tk:Nat),s'={s with heap:=h',toks:=tk}∧1≤tk∧k=xs.length+1-i∧i≤xs.length∧I i τ∧Fst hb pr env τ.l τ.c α' h'∧
   LeS pr env c1 α1 h1 τ.c α' h'∧¬aC τ.c α' h1.objs.size∧St i h') ?_ (xs.length+1) ⟨0,⟨l,c1⟩,α1,h1.push o,tk1,rfl,htk1,rfl,Nat.zero_le _,hI0,F2,LS2,a9 F1.toCst,st0⟩
 rintro k s' ⟨i,τ,α',h',tk,rfl,htk,rfl,hle,hI,F,L,noI,st⟩
 obtain⟨⟨oI,hoI⟩,hnz⟩:=hns i h' st
 have L0:∀{c':aa} {α':Al} {h':Heap} {l':Loc},Fst hb pr env l' c' α' h'→LeS pr env c1 α1 h1 c' α' h'→LeS pr env c α s.heap c' α' h':=fun F' L'=>
  LS1.trans L' (fun b f=>(F'.fr b f).2)
 by_cases hlt:i<xs.length
 ·refine av htk (bp ((W A hh).item i _ _ no hlt st fun v h2 tk2 hPv st2 hk2=>?_))
  intro htk2
  have ks:∀a o,a≠h1.objs.size→h'.get? a=some o→h2.get? a=some o:=fun a o n e=>hk2 a o (by simpa using n) e
  have F3:Fst hb pr env τ.l τ.c α' h2:=Fst.but hnz ks F noI nfI nbI
  have L3:LeS pr env c1 α1 h1 τ.c α' h2:=⟨L.agree,fun b o' e nf n=>ks b o' (fun q=>by rw[q,hI1] at e;contradiction) (L.kept b o' e nf n),L.grow⟩
  have hd:xs[i]?=some xs[i]:=List.getElem?_eq_getElem hlt
  have iv:IsV τ.c α' h2 (.d xs[i]) v:=L3.isD F1 (hP i v hPv _ hd)
  refine wpAny_assign_Name (av htk2 (bp (lq (s:={s with heap:=h2,toks:=tk2}) EO F3 hx iv fun h3 tk3 F4 L4=>?_)))
  intro htk3
  refine bp (turn i _ τ hd hI α' _ _ htk3 F4 fun f υ α5 g5 h5 tk5 htk5 hK5 F5 L5 ig=>?_)
  have L05:LeS pr env c1 α1 h1 υ.c α5 h5:=(L3.trans L4 (fun b f=>(F4.fr b f).2)).trans L5 (fun b f=>(F5.fr b f).2)
  obtain⟨⟨o2,ho2⟩,_⟩:=hns (i+1) h2 st2
  have hI4:∀q,h2.get? h1.objs.size=some q→h3.get? h1.objs.size=some q:=fun q e=>L4.kept _ _ e nfI noI
  have noI5:¬aC υ.c α5 h1.objs.size:=by
   rintro⟨j,hj,e⟩
   rcases L5.grow j hj with q|q
   ·simp only[e] at q;exact noI q
   ·rw[e] at q
    have q:h3.get? h1.objs.size=none:=q
    rw[hI4 _ ho2] at q;contradiction
  have st5:St (i+1) h5:=by
   refine (W A hh).frame _ h2 h5 st2 fun b hb' o' e=>?_
   have nf:¬FrA env b:=by
    rcases hfp b hb' with rfl|⟨o₁,hz,g,n⟩
    ·exact nfI
    ·exact fun f=>aV F1 f o₁ hz g
   have nn:¬aC τ.c α' b:=by
    rcases hfp b hb' with rfl|⟨o₁,hz,g,n⟩
    ·exact noI
    ·rintro⟨j,hj,e'⟩
     rcases L.grow j hj with q|q
     ·simp only[e'] at q;exact n q
     ·simp only[e',g] at q;contradiction
   exact L5.kept b o' (L4.kept b o' e nf nn) nf nn
  cases f with
  |next=>
   (subst ig);obtain⟨υ',W',hI'⟩:=hK5
   exact⟨_,by exact Om.o10 hlt,i+1,υ',α5,h5,tk5,rfl,htk5,rfl,hlt,hI',W'.fst F5,W'.leS L05,fun q=>noI5 (iY (cw W'.c) q),st5⟩
  |cont=>
   (subst ig);obtain⟨υ',W',hI'⟩:=hK5
   exact⟨_,by exact Om.o10 hlt,i+1,υ',α5,h5,tk5,rfl,htk5,rfl,hlt,hI',W'.fst F5,W'.leS L05,fun q=>noI5 (iY (cw W'.c) q),st5⟩
  |brk=>(subst ig);exact hq .next υ α5 .next h5 tk5 htk5 hK5 F5 (L0 F5 L05) rfl
  |ret v=>obtain⟨u,rfl,iu⟩:=ig;exact hq (.ret v) υ α5 (.ret u) h5 tk5 htk5 hK5 F5 (L0 F5 L05) ⟨u,rfl,iu⟩
 ·have hin:i=xs.length:=by exact Om.o9 hle hlt
  subst hin
  refine av htk (bp ((W A hh).done _ _ no st fun h2 tk2 hk2=>?_))
  intro htk2
  have ks:∀a o,a≠h1.objs.size→h'.get? a=some o→h2.get? a=some o:=fun a o n e=>hk2 a o (by simpa using n) e
  have F3:Fst hb pr env τ.l τ.c α' h2:=Fst.but hnz ks F noI nfI nbI
  have L3:LeS pr env c1 α1 h1 τ.c α' h2:=⟨L.agree,fun b o' e nf n=>ks b o' (fun q=>by simp only[q,hI1] at e;contradiction) (L.kept b o' e nf n),L.grow⟩
  exact wpAny_execs_nil (hq .next τ α' .next h2 tk2 htk2 (fin τ hI) F3 (L0 F3 L3) rfl)
end
theorem lD {env:Env}(names:List (Str×NameKind)):∀(acc:List (Str×Addr)),(∀y,(y,NameKind.free)∈names→∃b,env.cells.lookup y=some b)→(∀y b,acc.lookup y=some b→env.cells.lookup y=some b)→
  ∃cl,(forIn names acc (fun (x:Str×NameKind) r=>if (x.2==NameKind.free)=true then cellOf env x.1>>=fun a=>pure (ForInStep.yield ((x.1,a)::r)) else pure (ForInStep.yield r)):Sem (List (Str×Addr)))=pure cl∧
   (∀y b,cl.lookup y=some b→env.cells.lookup y=some b)∧(∀y,(y,NameKind.free)∈names∨(acc.lookup y).isSome=true→(cl.lookup y).isSome=true):=by
 induction names with
 |nil=>exact fun acc _ h=>⟨acc,rfl,h,fun y q=>q.elim (fun q=>(List.not_mem_nil q).elim) id⟩
 |cons p r ih=>
  obtain⟨n,k⟩:=p
  intro acc hf h
  rw[List.forIn_cons]
  by_cases hk:(k==NameKind.free)=true
  ·obtain rfl:=beq_iff_eq.mp hk
   obtain⟨b,hb⟩:=hf n (.head _)
   have e:cellOf env n=pure b:=by unfold cellOf;rw[hb]
   obtain⟨cl,h1,h2,h3⟩:=ih ((n,b)::acc) (fun y hy=>hf y (.tail _ hy)) (fun y b' q=>by
    rw[List.lookup_cons] at q
    cases hy:y==n with
    |true=>rw[hy] at q;rw[beq_iff_eq.mp hy,hb];exact q
    |false=>rw[hy] at q;exact h y b' q)
   refine⟨cl,?_,h2,fun y q=>h3 y ?_⟩
   ·simp only[e]
    exact h1
   ·rcases q with q|q
    ·rcases List.mem_cons.mp q with q|q
     ·injection q with q _;subst q;right;simp
     ·exact .inl q
    ·right
     rw[List.lookup_cons]
     cases hy:y==n with
     |true=>rfl
     |false=>exact q
  ·obtain⟨cl,h1,h2,h3⟩:=ih acc (fun y hy=>hf y (.tail _ hy)) h
   refine⟨cl,by dsimp only;rw[if_neg hk];exact h1,h2,fun y q=>h3 y (q.imp (fun q=>?_) id)⟩
   rcases List.mem_cons.mp q with q|q
   ·injection q with _ q;subst q;exact absurd rfl hk
   ·exact q
theorem mc {scope:Scope}{env:Env}(hf:∀y,(y,NameKind.free)∈scope.names→∃b,env.cells.lookup y=some b) :
  ∃cl,closureFor scope env=pure cl∧(∀y b,cl.lookup y=some b→env.cells.lookup y=some b)∧(∀y,(y,NameKind.free)∈scope.names→(cl.lookup y).isSome=true):=by
 obtain⟨cl,h1,h2,h3⟩:=lD scope.names [] hf (fun y b q=>by contradiction)
 refine⟨cl,?_,h2,fun y hy=>h3 y (.inl hy)⟩
 unfold closureFor
 refine Eq.trans ?_ (congrArg (fun (t:Sem (List (Str×Addr)))=>t>>=pure) h1)
 rfl
noncomputable def ce (scope:Scope)(l:Loc):Loc:=l.filter fun p=>scope.names.lookup p.1==some .free
theorem dM {β:Type}{q:Str×β→Bool}(hq:∀x u v,q (x,u)=q (x,v)):∀(l:List (Str×β)) (x:Str) (v:β),look (l.filter q) x=some v→look l x=some v∧q (x,v)=true
 | [],_,_,h=>by cases h
 | (y,u)::r,x,v,h=>by
  rw[List.filter_cons] at h
  by_cases hy:q (y,u)=true
  ·rw[if_pos hy] at h
   simp only[look] at h ⊢
   by_cases e:y=x
   ·rw[if_pos e] at h ⊢;cases h;exact⟨rfl,by rw[←e];exact hy⟩
   ·rw[if_neg e] at h ⊢;exact dM hq r x v h
  ·rw[if_neg hy] at h
   obtain⟨h1,h2⟩:=dM hq r x v h
   dsimp only[look]
   have:y≠x:=fun e=>hy (by rw[e,hq x u v];exact h2)
   rw[if_neg this];exact⟨h1,h2⟩
theorem eK {scope:Scope}{l:Loc}{x:Str}{v:V}(h:look (ce scope l) x=some v):look l x=some v∧scope.names.lookup x=some .free:=by
 obtain⟨h1,h2⟩:=dM (fun _ _ _=>rfl) l x v h
 exact⟨h1,beq_iff_eq.mp h2⟩
theorem cm {env:Env}(hk:env.scope.kind=.function):∀{names:List (Str×NameKind)} {x:Str},names.lookup x=some .free→env.kindOf x=some .cell→
  (names.map fun (n,k)=>if (k==NameKind.free&&env.scope.kind==.function&&env.kindOf n==some .cell) then (n,NameKind.cell) else (n,k)).lookup x=some .cell
 | [],_,h,_=>by simp at h
 | (n,k)::r,x,h,he=>by
  have ih:=@cm env hk r x
  show List.lookup x ((if (k==NameKind.free&&env.scope.kind==.function&&env.kindOf n==some .cell)=true then (n,NameKind.cell) else (n,k))::_)=_
  cases hx:x==n with
  |true=>
   simp only[List.lookup_cons,hx] at h
   (injection h with h;subst h)
   have:x=n:=beq_iff_eq.mp hx
   subst this
   rw[if_pos (by rw[hk,he];rfl)]
   simp
  |false=>
   simp only[List.lookup_cons,hx] at h
   by_cases hc:(k==NameKind.free&&env.scope.kind==.function&&env.kindOf n==some .cell)=true
   ·rw[if_pos hc];simp only[List.lookup_cons,hx];exact ih h he
   ·rw[if_neg hc];simp only[List.lookup_cons,hx];exact ih h he
structure ScopeOk (scope:Scope)(x:Str)(env:Env):Prop where
 cell:∀y∈scope.names,y.2≠.cell
 kind:scope.kind=.function
 names:∀y∈scope.names,y.2=.local→scope.names.lookup y.1=some .local
 x:scope.names.lookup x=some .local
 free:∀y,(y,NameKind.free)∈scope.names→env.kindOf y=some .cell∧∃b,env.cells.lookup y=some b
theorem dU {c:aa}{k:Nat}{o:O}(hk:k∉dom c)(o':O):cset (c++[(k,o)]) k o'=c++[(k,o')]:=by
 induction c with
 |nil=>show (if k=k then _ else _)=_;rw[if_pos rfl];rfl
 |cons p r ih=>
  obtain⟨j,u⟩:=p
  have h1:j≠k:=fun e=>hk (e▸.head _)
  have h2:k∉dom r:=fun e=>hk (.tail _ e)
  show (if j=k then _ else (j,u)::cset (r++[(k,o)]) k _)=_
  rw[if_neg h1,ih h2];rfl
section
variable {prog:Program}{w:World}{A:Around}{hb:Heap}{pr:List Nat}{env:Env}
abbrev okB:aa→Al→Heap→Bool→Bool→Prop:=fun _ _ _ b g=>g=b
theorem qd (EO:EnvOk env){scope:Scope}{x:Str}(SO:ScopeOk scope x env){cl:List (Str×Addr)}{C:Addr}(h2:∀y b,cl.lookup y=some b→env.cells.lookup y=some b)(hC:∀y b,env.cells.lookup y=some b→b≠C):EnvOk (compEnvC scope cl C env):=
 ⟨SO.kind,fun y b e=>hC y b (h2 y b e),fun y z b e1 e2=>EO.one y z b (h2 y b e1) (h2 z b e2),by show (scope.kind==.module&&_)=false;rw[SO.kind];rfl⟩
def nk (prog:Program)(w:World)(A:Around)(hb:Heap)(pr:List Nat)(env:Env)(l:Loc)(x:Str)(elt:Expr)(ifs:List Expr)(scope:Scope)(kk:Nat)(v:V)(c1:aa)(K:V→aa→Prop):Prop:=
 fe v∧∃xs,cs v=some xs∧xs.length≤big∧kk∉dom c1∧∃I:Nat→List D→aa→Prop,I 0 [] c1∧
  (∀i d acc c',xs[i]?=some d→I i acc c'→kk∉dom c'∧∀cl C,EnvOk (compEnvC scope cl C env)→
   OkE (model prog w) A hb pr (compEnvC scope cl C env) okB (put (ce scope l) x (.d d)) (c'++[(kk,.list acc)])
    (forIn ifs true fun c r=>if r=true then do let ok ←isTrue c (compEnvC scope cl C env) (eval c (compEnvC scope cl C env));pure (ForInStep.yield ok) else pure (ForInStep.yield r)) (fun b c2=>
     (b=true→OkE (model prog w) A hb pr (compEnvC scope cl C env) IsV (put (ce scope l) x (.d d)) c2 (eval elt (compEnvC scope cl C env)) (fun v c3=>∃d' c4,v=.d d'∧c3=c4++[(kk,.list acc)]∧kk∉dom c4∧I (i+1) (acc++[d']) c4))∧
     (b=false→∃c4,c2=c4++[(kk,.list acc)]∧kk∉dom c4∧I (i+1) acc c4)))∧
  (∀acc c',I xs.length acc c'→kk∉dom c'∧b6 (c'++[(kk,.list acc)]) c' c'∧K (.d (.lst acc)) c')
theorem lr (h:Heap):h.get? h.objs.size=none:=by
 cases e:h.get? h.objs.size with
 |none=>rfl
 |some o'=>exact absurd (Heap.lt_size e) (Nat.lt_irrefl _)
theorem mS {h h':Heap}{b:Addr}(k:∀o,h.get? b=some o→h'.get? b=some o)(q:h'.get? b=none):h.get? b=none:=by
 cases e:h.get? b with
 |none=>rfl
 |some o=>exact (nos q (k o e)).elim
theorem eO {l:Loc}{c:aa}{α:Al}{h:Heap}(F:Fst hb pr env l c α h){b:Addr}(q:h.get? b=none):¬FrA env b∧¬aC c α b:=by
 refine⟨fun f=>?_,fun ⟨j,hj,e⟩=>?_⟩
 ·rcases f with f|⟨y,f⟩
  ·obtain⟨m,o,es,ep,e,_⟩:=F.ns;rw[←f] at e;exact nos q e
  ·obtain⟨o,v,ho,_⟩:=F.cel y _ f;exact nos q ho
 ·obtain⟨o,ho⟩:=F.toCst.ex hj;rw[e] at ho;exact nos q ho
structure CQ (hb:Heap)(pr:List Nat)(env:Env)(l:Loc)(c1:aa)(α1:Al)(h1:Heap)(kk:Nat)(C J:Addr)(c':aa)(acc:List D)(α':Al)(h':Heap):Prop where
 F:Fst hb pr env l (c'++[(kk,.list acc)]) α' h'
 L:Le c1 α1 h1 (c'++[(kk,.list acc)]) α' h'
 nC:¬aC (c'++[(kk,.list acc)]) α' C
 ns:∃m,h'.Ns C m
 at_:α' kk=J
 no:kk∉dom c'
structure CP (hb:Heap)(pr:List Nat)(env:Env)(l:Loc)(c1:aa)(α1:Al)(h1:Heap)(kk:Nat)(C J I:Addr)(St:Nat→Heap→Prop)(i:Nat)(c':aa)(acc:List D)(α':Al)(h':Heap):Prop where
 q:CQ hb pr env l c1 α1 h1 kk C J c' acc α' h'
 nI:¬aC (c'++[(kk,.list acc)]) α' I
 st:St i h'
structure CF (prog:Program)(w:World)(A:Around)(hb:Heap)(env:Env)(c1:aa)(α1:Al)(h1:Heap)(C I:Addr)(fp:List Addr)(n:Nat)(P:Nat→Value→Prop)(St:Nat→Heap→Prop):Prop where
 W:Walks prog w A I fp [I] n P St
 ex:∀i h,St i h→(∃o,h.get? I=some o)∧∀o,du o=true→h.get? I≠some o
 fp_:∀b∈fp,b=I∨∃o,du o=true∧h1.get? b=some o∧¬aC c1 α1 b
 C1:h1.get? C=none
 I1:h1.get? I=none
 fC:¬FrA env C
 fI:¬FrA env I
 bC:hb.get? C=none
 bI:hb.get? I=none
 IC:I≠C
section
variable {l:Loc}{c1:aa}{α1:Al}{h1:Heap}{kk:Nat}{C J I:Addr}{fp:List Addr}{nn i j:Nat}{P:Nat→Value→Prop}{St:Nat→Heap→Prop}{c':aa}{acc:List D}{α':Al}{h' h2:Heap}
theorem gZ (c':aa)(kk:Nat)(o:O):kk∈dom (c'++[(kk,o)]):=by rw[af];simp
theorem CQ.kept (L:Le c1 α1 h1 (c'++[(kk,.list acc)]) α' h'){b0:Addr}(n0:h1.get? b0=none)(ks:∀a o,a≠b0→h'.get? a=some o→h2.get? a=some o):Le c1 α1 h1 (c'++[(kk,.list acc)]) α' h2:=
 ⟨L.dom,L.agree,fun b o e n=>ks b o (fun q=>nos ((congrArg h1.get? q).trans n0) e) (L.kept b o e n),L.grow⟩
section
variable (X:CF prog w A hb env c1 α1 h1 C I fp nn P St)(p:CP hb pr env l c1 α1 h1 kk C J I St i c' acc α' h')
include X p
theorem CP.butI (ks:∀a o,a≠I→h'.get? a=some o→h2.get? a=some o):CQ hb pr env l c1 α1 h1 kk C J c' acc α' h2:=
 ⟨Fst.but (X.ex i h' p.st).2 ks p.q.F p.nI X.fI X.bI,CQ.kept p.q.L X.I1 ks,p.q.nC,let ⟨m,o,es,ep,e,r⟩:=p.q.ns;⟨m,o,es,ep,ks C o (Ne.symm X.IC) e,r⟩,p.q.at_,p.q.no⟩
theorem CP.fpC {b:Addr}(hb':b∈fp):b≠C:=fun q=>by
 rcases X.fp_ b hb' with rfl|⟨o₁,hz,g,n⟩
 ·exact X.IC q
 ·exact nos ((congrArg h1.get? q).trans X.C1) g
theorem CP.butC (nz:∀o,du o=true→h'.get? C≠some o)(hs:Heap.SameBut C h' h2)(ns:∃m,h2.Ns C m):CP hb pr env l c1 α1 h1 kk C J I St i c' acc α' h2:=
 ⟨⟨Fst.but nz (bB hs) p.q.F p.q.nC X.fC X.bC,CQ.kept p.q.L X.C1 (bB hs),p.q.nC,ns,p.q.at_,p.q.no⟩,p.nI,X.W.frame i h' h2 p.st fun b hb' o e=>bB hs b o (CP.fpC X p hb') e⟩
theorem CP.fpO {c2:aa}{acc2:List D}{α2:Al}(n:¬aC (c2++[(kk,.list acc2)]) α2 I)(L:Le c1 α1 h1 (c2++[(kk,.list acc2)]) α2 h2){b:Addr}(hb':b∈fp):¬aC (c2++[(kk,.list acc2)]) α2 b:=by
 rcases X.fp_ b hb' with rfl|⟨o₁,hz,g,n'⟩
 ·exact n
 ·exact L.not_own g n'
theorem CP.le {c2:aa}{acc2:List D}{α2:Al}(no:kk∉dom c2)(L6:Le (c'++[(kk,.list acc)]) α' h' (c2++[(kk,.list acc2)]) α2 h2)(C6:Cst hb pr (c2++[(kk,.list acc2)]) α2 h2):CP hb pr env l c1 α1 h1 kk C J I St i c2 acc2 α2 h2:=by
 obtain⟨m,o,es,ep,e,r⟩:=p.q.ns
 obtain⟨⟨oI,eI⟩,_⟩:=X.ex i h' p.st
 exact⟨⟨p.q.F.le L6 C6,p.q.L.trans L6,L6.not_own e p.q.nC,⟨m,o,es,ep,L6.kept _ _ e p.q.nC,r⟩,(L6.agree kk (gZ ..)).trans p.q.at_,no⟩,L6.not_own eI p.nI,
  X.W.frame i h' h2 p.st fun b hb' o e=>L6.kept b o e (CP.fpO X p p.nI p.q.L hb')⟩
theorem CP.push {ws:List Value}{g7:Value}{d':D}(rk:IsDs h' (aC (c'++[(kk,.list acc)]) α') acc ws)(i7:IsD h' (aC (c'++[(kk,.list acc)]) α') d' g7)(hl8:∃ep,h2.get? J=some (bj "list" (ws++[g7]) ep)) (hs8:Heap.SameBut J h' h2):CP hb pr env l c1 α1 h1 kk C J I St i c' (acc++[d']) α' h2:=by
 obtain⟨ep8,g8⟩:=hl8
 have ecs:=dU (o:=.list acc) p.q.no (.list (acc++[d']))
 obtain⟨F8,L8⟩:=p.q.F.set (gZ c' kk (.list acc)) (o:=.list (acc++[d'])) (by rw[p.q.at_];exact hs8) (fun L=>⟨ws++[g7],ep8,by rw[p.q.at_];exact g8,IsDs.append (.cons (L.isD i7) .nil) (L.isDs rk)⟩)
 rw[ecs] at F8 L8
 exact CP.le X p p.q.no L8 F8.toCst
end
theorem rH (EO:EnvOk env){scope:Scope}{x:Str}(SO:ScopeOk scope x env){cl:List (Str×Addr)}(h2:∀y b,cl.lookup y=some b→env.cells.lookup y=some b)(h3:∀y,(y,NameKind.free)∈scope.names→(cl.lookup y).isSome=true)(bC:hb.get? C=none)
  {m:Str→Option Value} (F:Fst hb pr env l c' α' h') (hm:h'.Ns C m) (hn:¬aC c' α' C):Fst hb pr (compEnvC scope cl C env) (ce scope l) c' α' h':=by
 refine⟨F.toCst,⟨m,hm⟩,fun y b e=>F.cel y b (h2 y b e),fun y v e=>?_,fun b f=>?_⟩
 ·obtain⟨e1,e2⟩:=eK e
  obtain⟨g,H,i⟩:=F.loc y v e1
  obtain⟨k1,b,hbb⟩:=SO.free y (mem_of_lookup e2)
  have hk:(compEnvC scope cl C env).kindOf y=some .cell:=cm EO.kind e2 k1
  have hlk:cl.lookup y=some b:=by
   obtain⟨b',hb'⟩:=Option.isSome_iff_exists.mp (h3 y (mem_of_lookup e2))
   rw[hb',←hbb];exact (h2 y b' hb').symm
  cases H with
  |loc m' a _ _=>rw[k1] at a;contradiction
  |cel b' o' a q1 q2 q3=>obtain rfl:=Option.some.inj (hbb.symm.trans q1);exact⟨g,.cel b o' hk hlk q2 q3,i⟩
  |free b' o' a _ _ _=>rw[k1] at a;contradiction
 ·rcases f with f|⟨y,f⟩
  ·obtain rfl:b=C:=f;exact⟨bC,hn⟩
  ·exact F.fr b (.inr ⟨y,h2 y b f⟩)
theorem oY (X:CF prog w A hb env c1 α1 h1 C I fp nn P St){xs:List D}(hn:nn=xs.length){scope:Scope}{cl:List (Str×Addr)}(EC:EnvOk (compEnvC scope cl C env))(FI:∀{c':aa} {α':Al} {h':Heap} {m:Str→Option Value},Fst hb pr env l c' α' h'→h'.Ns C m→¬aC c' α' C→Fst hb pr (compEnvC scope cl C env) (ce scope l) c' α' h')
  {x:Str} {px pos:Pos} (SO:ScopeOk scope x env) (hlen:xs.length≤big) (hP:∀i u,P i u→∀d,xs[i]?=some d→IsD h1 (aC c1 α1) d u) {elt iter:Expr} {ifs:List Expr} {Y:Nat→List D→aa→Prop}
  (turn:∀i d acc c',xs[i]?=some d→Y i acc c'→kk∉dom c'∧∀cl C,EnvOk (compEnvC scope cl C env)→
   OkE (model prog w) A hb pr (compEnvC scope cl C env) okB (put (ce scope l) x (.d d)) (c'++[(kk,.list acc)])
    (forIn ifs true fun c r=>if r=true then do let ok ←isTrue c (compEnvC scope cl C env) (eval c (compEnvC scope cl C env));pure (ForInStep.yield ok) else pure (ForInStep.yield r)) (fun b c2=>
     (b=true→OkE (model prog w) A hb pr (compEnvC scope cl C env) IsV (put (ce scope l) x (.d d)) c2 (eval elt (compEnvC scope cl C env)) (fun v c3=>∃d' c4,v=.d d'∧c3=c4++[(kk,.list acc)]∧kk∉dom c4∧Y (i+1) (acc++[d']) c4))∧
     (b=false→∃c4,c2=c4++[(kk,.list acc)]∧kk∉dom c4∧Y (i+1) acc c4)))
  {R:Result→Shared→Prop} {s:Shared} (fin:∀acc c' α' h' tk,1≤tk→Y xs.length acc c'→CQ hb pr env l c1 α1 h1 kk C J c' acc α' h'→R (.ok .next) {s with heap:=h',toks:=tk})
  {α3:Al} {h3:Heap} {tk3:Nat} (ht3:1≤tk3) (Y0:Y 0 [] c1) (p0:CP hb pr env l c1 α1 h1 kk C J I St 0 c1 [] α3 h3) :
  codeAny (model prog w) A (.compLoop (.ListComp elt [⟨.Name x px,iter,ifs,0⟩] scope pos) 0 (.ref I) (.ref J) (compEnvC scope cl C env)) R {s with heap:=h3,toks:=tk3}:=by
 subst hn
 refine codeAny_compLoop_tests (fun k s'=>∃(i:Nat) (acc:List D) (c':aa) (α':Al) (h':Heap) (tk:Nat),s'={s with heap:=h',toks:=tk}∧1≤tk∧k=xs.length+1-i∧i≤xs.length∧acc.length≤i∧Y i acc c'∧CP hb pr env l c1 α1 h1 kk C J I St i c' acc α' h') ?_ (xs.length+1)
  ⟨0,[],c1,α3,h3,tk3,rfl,ht3,rfl,Nat.zero_le _,Nat.le_refl _,Y0,p0⟩
 intro k s' h9
 refine aA fun G9 back9=>?_
 obtain⟨i,acc,c',α',h',tk,rfl,htk,rfl,hle,hacc,hI,p⟩:=h9
 refine back9 ?_
 by_cases hlt:i<xs.length
 ·refine av htk (bp (X.W.item i _ _ no hlt p.st fun v h2 tk2 hPv st2 hk2 htk2=>?_))
  have p2:CP hb pr env l c1 α1 h1 kk C J I St (i+1) c' acc α' h2:=⟨CP.butI X p fun a o n e=>hk2 a o (by simpa using n) e,p.nI,st2⟩
  have hd:xs[i]?=some xs[i]:=List.getElem?_eq_getElem hlt
  obtain⟨m,hm⟩:=p2.q.ns
  have FC:=FI p2.q.F hm p.q.nC
  refine wpAny_assign_Name (av htk2 (bp (dp (s:={s with heap:=h2,toks:=tk2}) EC FC (lookup_relabel_local SO.x) (v:=.d xs[i]) (p2.q.L.isD (hP i v hPv _ hd)) fun h5 tk5 F5 hs5 htk5=>?_)))
  have p5:=CP.butC X p2 (aV FC (.inl rfl)) hs5 F5.ns
  refine bp ((turn i _ acc c' hd hI).2 cl C EC α' _ _ htk5 F5 fun b c2 α2 gb h6 tk6 htk6 hK6 F6 L6 eb=>?_)
  subst eb
  cases gb with
  |false=>
   rw[if_neg (by decide)]
   obtain⟨c4,rfl,hk4,hI4⟩:=hK6.2 rfl
   exact⟨_,by exact Om.o10 hlt,i+1,acc,c4,α2,h6,tk6,rfl,htk6,rfl,hlt,by exact Om.o13 hacc,hI4,CP.le X p5 hk4 L6 F6.toCst⟩
  |true=>
   rw[if_pos rfl]
   refine bp (hK6.1 rfl α2 _ _ htk6 F6 fun v7 c3 α3' g7 h7 tk7 htk7 hK7 F7 L7 i7=>?_)
   refine aA fun G9 back9=>?_
   obtain⟨d',c4,rfl,rfl,hk4,hI4⟩:=hK7
   refine back9 ?_
   have p7:=CP.le X p5 hk4 (L6.trans L7) F7.toCst
   obtain⟨ws,ep,gk,rk⟩:=F7.toCst.cell kk (.list acc) (by rw[aF hk4,if_pos rfl])
   rw[p7.q.at_] at gk
   refine wpAny_list_append_plain (items:=ws.toArray) ⟨ep,gk⟩ (fun h8 hl8 hs8=>?_) (by rw[List.size_toArray,←rk.length];exact aJ (by exact Om.o12 hlen hacc hlt))
   exact⟨_,by exact Om.o10 hlt,i+1,acc++[d'],c4,α3',h8,tk7,rfl,htk7,rfl,hlt,by rw[List.length_append,List.length_singleton];exact Om.o11 hacc,hI4,CP.push X p7 rk i7 (let ⟨ep8,g8⟩:=hl8;⟨ep8,by rw[g8];simp⟩) hs8⟩
 ·have hin:i=xs.length:=by exact Om.o9 hle hlt
  subst hin
  exact av htk (bp (X.W.done _ _ no p.st fun h2 tk2 hk2 htk2=>fin acc c' α' h2 tk2 htk2 hI (CP.butI X p fun a o n e=>hk2 a o (by simpa using n) e)))
theorem CQ.fin (X:CQ hb pr env l c1 α1 h1 kk C J c' acc α' h')(F1:Fst hb pr env l c1 α1 h1)(hk:kk∉dom c1)(hcel:b6 (c'++[(kk,.list acc)]) c' c') :
  Fst hb pr env l c' α' h'∧Le c1 α1 h1 c' α' h'∧IsV c' α' h' (.d (.lst acc)) (.ref J)∧¬aC c' α' C:=by
 have hsub:∀k∈dom c',k∈dom (c'++[(kk,.list acc)]):=cw hcel
 have dm:∀k∈dom c1,k∈dom c':=fun k hk1=>by
  have h1:=X.L.dom k hk1
  rw[af] at h1
  rcases List.mem_append.mp h1 with h1|h1
  ·exact h1
  ·obtain rfl:k=kk:=by simpa using h1
   exact absurd hk1 hk
 have W':Weak pr ⟨l,c'++[(kk,.list acc)]⟩ ⟨[],c'⟩:=⟨trivial,hcel,fun k hk=>dm k (F1.prs k hk)⟩
 have LL:Le c1 α1 h1 c' α' h':=⟨dm,X.L.agree,X.L.kept,fun k hk=>X.L.grow k (hsub k hk)⟩
 refine⟨F1.le LL (W'.fst X.F).toCst,LL,?_,fun q=>X.nC (iY hsub q)⟩
 have:=nR (c':=c') X.F.toCst hsub (v:=.obj kk) (v':=.d (.lst acc)) (g:=.ref (α' kk)) (.inr ⟨kk,acc,rfl,by rw[aF X.no,if_pos rfl],rfl,X.no⟩) ⟨rfl,gZ ..⟩
 rw[X.at_] at this;exact this
end
theorem iJ (EO:EnvOk env)(hh:A.handled=none){l:Loc}{c:aa}{α:Al}{s:Shared}{x:Str}{px pos cpos:Pos}{elt iter:Expr}{ifs:List Expr}{scope:Scope}{kk:Nat}(SO:ScopeOk scope x env){use:Option (Value→Sem Unit)}
  {Q':Value→Shared→Prop} {K:V→aa→Prop} (hs:1≤s.toks) (F0:Fst hb pr env l c α s.heap) (hfold:∀v,foldedSetIterable iter env v=pure v)
  (hi:OkE (model prog w) A hb pr env IsV l c (eval iter env) (fun v c1=>nk prog w A hb pr env l x elt ifs scope kk v c1 K))
  (hend:∀v c' α' g h' tk C,1≤tk→K v c'→Fst hb pr env l c' α' h'→Le c α s.heap c' α' h'→IsV c' α' h' v g→¬FrA env C→¬aC c' α' C→hb.get? C=none→s.heap.get? C=none→(∃m,h'.Ns C m)→
   compPost (model prog w) A no use Q' g C (.ok .next) {s with heap:=h',toks:=tk}) :
  wpAny (model prog w) A (comprehension (.ListComp elt [⟨.Name x px,iter,ifs,0⟩] scope pos) scope env cpos (newList []) false (eval iter env) use) Q' no s:=by
 obtain⟨cl,hcl,hcl2,hcl3⟩:=mc (scope:=scope) (env:=env) (fun y hy=>(SO.free y hy).2)
 refine wpAny_comprehension_free rfl hfold hcl SO.kind SO.names (hi α s _ hs F0 fun v c1 α1 g h1 tk1 htk1 hK F1 L1 iv=>?_)
 refine aA fun G9 back9=>?_
 obtain⟨sm,xs,hxs,hlen,hkk,I,hI0,turn,fin⟩:=hK
 refine back9 ?_
 refine nj (s:={s with heap:=h1,toks:=tk1}) F1.toCst hxs sm iv (fun o pk=>?_)
 refine aA fun G9 back9=>?_
 obtain⟨fp,P,St,W,st0,hns,hfp,hP⟩:=pk
 refine back9 ?_
 obtain⟨F2,L2⟩:=F1.push o
 refine wpAny_newObj_type (wpAny_newFunctionEnv SO.cell (by intro y hy;simp at hy) (fun h3 hns3 hsb3=>?_) SO.kind)
 obtain⟨F3,L3⟩:=F2.new (k:=kk) hkk (bj "list" [] 0) (o:=.list []) (fun L=>⟨[],0,Heap.get?_push_size _ rfl,.nil⟩)
 have hD:upd α1 kk (h1.push o).objs.size kk=(h1.push o).objs.size:=if_pos rfl
 generalize upd α1 kk (h1.push o).objs.size=α3 at F3 L3 hD
 have C3:((h1.push o).push (bj "list" [] 0)).get? ((h1.push o).push (bj "list" [] 0)).objs.size=none:=lr _
 have szI:h1.objs.size<((h1.push o).push (bj "list" [] 0)).objs.size:=by rw[Heap.size_push,Heap.size_push];exact Nat.lt_of_lt_of_le (Nat.lt_succ_self _) (Nat.le_succ _)
 have n1:∀b,((h1.push o).push (bj "list" [] 0)).get? b=none→h1.get? b=none:=fun b q=>mS (fun o' e=>Heap.get?_push_of_some _ (Heap.get?_push_of_some _ e)) q
 have k3:∀b o',((h1.push o).push (bj "list" [] 0)).get? b=some o'→h3.get? b=some o':=fun b o' e=>by
  rw[hsb3.2 b (fun q=>nos (q▸C3) e)]
  exact Heap.get?_push_of_some _ e
 obtain⟨F4,L4⟩:=F3.keeps k3
 have I1:=lr h1
 have nb:∀b,h1.get? b=none→hb.get? b=none:=fun b q=>mS (F1.base b) q
 have noC:¬aC (c1++[(kk,.list [])]) α3 ((h1.push o).push (bj "list" [] 0)).objs.size:=(eO F3 C3).2
 have nfC:=(eO F3 C3).1
 have X:CF prog w A hb env c1 α1 h1 ((h1.push o).push (bj "list" [] 0)).objs.size h1.objs.size fp xs.length P St:=⟨W A hh,hns,hfp,n1 _ C3,I1,nfC,(eO F1 I1).1,nb _ (n1 _ C3),nb _ I1,Nat.ne_of_lt szI⟩
 have EC:=qd EO SO hcl2 (C:=((h1.push o).push (bj "list" [] 0)).objs.size) fun y b e q=>nfC (.inr ⟨y,q▸e⟩)
 have p0:CP hb pr env l c1 α1 h1 kk ((h1.push o).push (bj "list" [] 0)).objs.size (h1.push o).objs.size h1.objs.size St 0 c1 [] α3 h3:=by
  refine⟨⟨F4,L2.trans (L3.trans L4),noC,⟨_,hns3⟩,hD,hkk⟩,?_,X.W.frame 0 _ _ st0 fun b _ o' e=>k3 b o' (Heap.get?_push_of_some _ e)⟩
  rintro⟨j,hj,e⟩
  rcases L3.grow j hj with q|q
  ·rw[e] at q;exact (eO F1 I1).2 q
  ·obtain⟨⟨o',e'⟩,_⟩:=hns 0 _ st0
   rw[e] at q;exact nos q e'
 have loop:=oY X rfl EC (rH EO SO hcl2 hcl3 X.bC) (px:=px) (pos:=pos) (iter:=iter) SO hlen hP turn (R:=compPost (model prog w) A no use Q' (.ref (h1.push o).objs.size) ((h1.push o).push (bj "list" [] 0)).objs.size) (s:=s) (fun acc c' α' h' tk ht hY q=>by
  obtain⟨_,hcel,hK⟩:=fin acc c' hY
  obtain⟨F',L',iv,nC⟩:=q.fin F1 hkk hcel
  exact hend _ c' α' _ h' tk _ ht hK F' (L1.trans L') iv nfC nC X.bC (by
   cases e:s.heap.get? ((h1.push o).push (bj "list" [] 0)).objs.size with
   |none=>rfl
   |some o'=>
    by_cases q:aC c α ((h1.push o).push (bj "list" [] 0)).objs.size
    ·obtain⟨j,hj,e'⟩:=q
     obtain⟨q',hq'⟩:=F1.toCst.ex (L1.dom j hj)
     rw[L1.agree j hj,e'] at hq';exact (nos X.C1 hq').elim
    ·exact (nos X.C1 (L1.kept _ _ e q)).elim) q.ns) (tk3:=tk1+([]:List (Str×Value)).length) htk1 hI0 p0
 exact codeAny_compStart_list loop (X.W.self 0 _ _ (notedBy (model prog w) A (compEnvC scope cl ((h1.push o).push (bj "list" [] 0)).objs.size env) fun x s'=>compPost (model prog w) A no use Q' (.ref (h1.push o).objs.size) ((h1.push o).push (bj "list" [] 0)).objs.size (.error x) s') p0.st loop)
end
theorem oj {e:Expr}(h:cz e=false)(r:List Expr)(env:Env):starEach (e::r) env=(false,eval e env)::starEach r env:=by
 cases e<;>first|rfl|contradiction
theorem cx (env:Env)(pos:Pos){args:List Expr}:args.all (fun e=>!cz e)=true→backTo pos (starEach args env)=args.map fun e=>(false,eval e env):=by
 induction args with
 |nil=>exact fun _=>rfl
 |cons e r ih=>
  intro h
  have h:=(Bool.and_eq_true _ _).mp h
  rw[oj (by simpa using h.1)]
  exact congrArg ((false,eval e env)::·) (ih h.2)
theorem dn {M:Model}{A:Around}{pos:Pos}{f:Value}{first:List Value}{args:List (Bool×Sem Value)}{Q:Value→Shared→Prop}{E:Value→Shared→Prop}{s:Shared}(hplain:args.any (·.1)=false)
  (h:wpAny M A (evalArgs f true args []) (fun a s₁=>(∃k,Looks M s₁.heap (keeperOf f) k)∧wpAny M A (call f (first++a.pos) a.kw) Q E s₁) E s):wpAny M A (callWith pos f first args []) Q E s:=by
 unfold callWith
 refine wpAny_bind (wpAny_holding (wpAny_mono h (fun x s₁ h₁=>wpAny_bind (wpAny_standAt ?_)) fun _ _ x=>x))
 obtain⟨⟨k,hk⟩,hc⟩:=h₁
 have tail:∀{t:Sem Value},wpAny M A t Q E s₁→wpAny M A (t>>=fun r=>holding [r] point>>=fun _=>pure r) Q E s₁:=
  fun ht=>wpAny_bind (wpAny_mono ht (fun r s₂ hr=>wpAny_bind (wpAny_holding (wpAny_point (wpAny_pure hr)))) fun _ _ x=>x)
 have mk:∀v (p:Prop) [Decidable p],wpAny M A (if p then (call f (first++x.pos) x.kw>>=fun r=>holding [r] point>>=fun _=>pure r) else (callMarked v f (first++x.pos) x.kw>>=fun r=>holding [r] point>>=fun _=>pure r)) Q E s₁:=fun v p _=>by
  by_cases q:p
  ·rw[if_pos q];exact tail hc
  ·rw[if_neg q];unfold callMarked;exact tail (Calls.wpAny_keep hc)
 rw[hplain]
 refine wpAny_bind (hk.here ?_)
 cases k
 ·exact mk _ _
 ·exact mk _ _
 ·exact tail hc
 ·exact tail (wpAny_operating hc)
noncomputable def be (e:Expr):Bool:=if h:e.ctorIdx=16 then @Expr.Call.elim (fun _=>Bool) e h fun f as _ _=>f.ctorIdx==23&&!as.isEmpty else true
theorem og {f:Expr}{as:List Expr}{ks:List Keyword}{p:Pos}{nm:Str}{env:Env}{t:Sem Value}(h:(f.ctorIdx==23&&!as.isEmpty)=true):attributeBase (.Call f as ks p) nm env t=t:=by
 obtain⟨h1,h2⟩:=(Bool.and_eq_true _ _).mp h
 obtain⟨x,q,rfl⟩:=ko (eq_of_beq h1)
 cases as with
 |nil=>contradiction
 |cons a r=>rfl
theorem nT {M:Model}{A:Around}{Q:Value→Shared→Prop}{E:Value→Shared→Prop}{s:Shared}{o:Expr}{nm:Str}{env:Env}{t:Sem Value}(h:be o=true)(ht:wpAny M A t Q E s):wpAny M A (attributeBase o nm env t) Q E s:=by
 cases o with
 |Call f as ks p=>rw[og h];exact ht
 |_=>exact ht
theorem d0 {M:Model}{A:Around}{Q:Value→Shared→Prop}{E:Value→Shared→Prop}{s:Shared}{o:Expr}{nm:Str}{apos pos:Pos}{args:List Expr}{env:Env}(hsup:be o=true)(hst:args.all (fun e=>!cz e)=true)
  (hfew:args.length<30) (hline:(apos.endLine==pos.line)=true)
  (h:wpAny M A (eval o env) (fun ov s₁=>wpAny M A (getMethod ov nm (do return (←importBound o env).getD true)) (fun fx s₂=>wpAny M A (callWith pos fx.1 fx.2 (args.map fun e=>(false,eval e env)) []) Q E s₂) E s₁) E s) :
  wpAny M A (eval (.Call (.Attribute o nm apos) args [] pos) env) Q E s:=by
 rw[arm_eval_Call,cx env pos hst]
 refine wpAny_bind (nT hsup (wpAny_mono h (fun ov s₁ h₁=>wpAny_bind (wpAny_standAt ?_)) fun _ _ e=>e))
 have hform:methodCallForm (args.length+([]:List Keyword).length) (args.map fun e=>(false,eval e env)) (backToKw pos (keywordEach [] env))=true:=by
  unfold methodCallForm
  have h1:(args.map fun e=>(false,eval e env)).all (fun x=>!x.1)=true:=by simp
  rw[h1]
  exact decide_eq_true hfew
 have hpos:methodCallPos true o env apos pos=pure pos:=by unfold methodCallPos;simp[hline]
 unfold methodCall
 rw[hform]
 refine wpAny_bind (wpAny_holding (wpAny_mono h₁ (fun fx s₂ h₂=>?_) fun _ _ e=>e))
 exact wpAny_bind (wpAny_of_eq hpos h₂)
section
variable {prog:Program}{w:World}{A:Around}{hb:Heap}{pr:List Nat}{env:Env}
def OkArgs (prog:Program)(w:World)(A:Around)(hb:Heap)(pr:List Nat)(env:Env)(l:Loc):List Expr→aa→(List V→aa→Prop)→Prop
 | [],c,K=>K [] c
 |e::r,c,K=>OkE (model prog w) A hb pr env IsV l c (eval e env) (fun v c'=>OkArgs prog w A hb pr env l r c' (fun vs c''=>K (v::vs) c''))
theorem fY {l:Loc}:∀{args:List Expr} {c:aa} {K:List V→aa→Prop},OkArgs prog w A hb pr env l args c K→OkE (model prog w) A hb pr env IsVs l c (spliced (args.map fun e=>(false,eval e env))) K
 | [],c,K,h=>fun α s Q hs F hq=>Calls.spliced_nil (hq [] c α [] s.heap s.toks hs h F (.refl ..) .nil)
 |e::r,c,K,h=>fun α s Q hs F hq=>by
  refine Calls.spliced_cons (h α s _ hs F fun v c1 α1 g h1 tk1 htk1 hK F1 L1 i1=>?_)
  refine fY hK α1 _ _ htk1 F1 fun vs c2 α2 gs h2 tk2 htk2 hK2 F2 L2 i2=>?_
  exact hq _ _ _ _ _ _ htk2 hK2 F2 (L1.trans L2) (.cons (L2.isV i1) i2)
theorem bT {l:Loc}{c:aa}{f:Value}{first:List Value}{fs:List V}{args:List Expr}{pos:Pos}{K:V→aa→Prop}{α:Al}{s:Shared}{Q:Value→Shared→Prop}(hs:1≤s.toks)(F:Fst hb pr env l c α s.heap)(hfs:IsVs c α s.heap fs first)
  (hargs:OkArgs prog w A hb pr env l args c (fun vs c'=>∀α' (s':Shared) ws,1≤s'.toks→Fst hb pr env l c' α' s'.heap→Le c α s.heap c' α' s'.heap→IsVs c' α' s'.heap (fs++vs) ws→
   (∃k,Looks (model prog w) s'.heap (keeperOf f) k)∧∀(Q:Value→Shared→Prop),
   (∀v c'' α'' g h'' tk,1≤tk→K v c''→Fst hb pr env l c'' α'' h''→Le c' α' s'.heap c'' α'' h''→IsV c'' α'' h'' v g→Q g {s' with heap:=h'',toks:=tk})→wpAny (model prog w) A (call f ws) Q no s'))
  (hq:∀b c' α' g h' tk,1≤tk→K b c'→Fst hb pr env l c' α' h'→Le c α s.heap c' α' h'→IsV c' α' h' b g→Q g {s with heap:=h',toks:=tk}) :
  wpAny (model prog w) A (callWith pos f first (args.map fun e=>(false,eval e env)) []) Q no s:=by
 have app:∀{c:aa} {α:Al} {h:Heap} {fs vs:List V} {first ws:List Value},IsVs c α h fs first→IsVs c α h vs ws→IsVs c α h (fs++vs) (first++ws):=by
  intro c α h fs vs first ws a b
  induction a with
  |nil=>exact b
  |cons x _ ih=>exact .cons x ih
 refine dn (by simp) ?_
 have fin:wpAny (model prog w) A (spliced (args.map fun e=>(false,eval e env))) (fun ws s₁=>(∃k,Looks (model prog w) s₁.heap (keeperOf f) k)∧wpAny (model prog w) A (call f (first++ws)) Q no s₁) no s:=by
  refine fY hargs α s _ hs F fun vs c1 α1 ws h1 tk1 htk1 hK F1 L1 i1=>?_
  obtain⟨hk,hc⟩:=hK α1 {s with heap:=h1,toks:=tk1} _ htk1 F1 L1 (app (L1.isVs hfs) i1)
  exact⟨hk,hc Q fun v c2 α2 g h2 tk2 htk2 hK2 F2 L2 i2=>hq v c2 α2 g h2 tk2 htk2 hK2 F2 (L1.trans L2) i2⟩
 cases args with
 |nil=>
  obtain⟨hk,hc⟩:=hargs α s _ hs F (.refl ..) (app hfs .nil)
  exact PySem.evalArgs_none ⟨hk,hc Q fun v c2 α2 g h2 tk2 htk2 hK2 F2 L2 i2=>hq v c2 α2 g h2 tk2 htk2 hK2 F2 L2 i2⟩
 |cons e r=>exact Calls.evalArgs_plain fin
end
noncomputable def xv (d:D)(b:Bi):Option Bool:=match d,b with
 | .int _,.bool=>some false
 | .int _,.int=>some true
 | .bool _,.bool=>some true
 | .bool _,.int=>some true
 | .str _,.bool=>some false
 | .str _,.int=>some false
 |_,_=>none
def ci (c:aa)(k:Option Nat)(xs:List D)(K:V→aa→Prop):Prop:=match k with
 |none=>K (.d (.lst xs)) c
 |some k=>k∉dom c∧K (.obj k) (c++[(k,.list xs)])
def v1 (vs:List V)(f:V→Prop):Prop:=match vs with
 | []=>False
 |v::r=>(match r with
  | []=>f v
  |_::_=>False)
def v2 (vs:List V)(f:V→V→Prop):Prop:=match vs with
 | []=>False
 |u::r=>v1 r fun v=>f u v
theorem f9 {vs:List V}{f:V→Prop}(h:v1 vs f):∃v,vs=[v]∧f v:=by
 cases vs with
 |nil=>exact h.elim
 |cons v r=>cases r with
  |nil=>exact⟨v,rfl,h⟩
  |cons _ _=>exact h.elim
theorem nE {vs:List V}{f:V→V→Prop}(h:v2 vs f):∃u v,vs=[u,v]∧f u v:=by
 cases vs with
 |nil=>exact h.elim
 |cons u r=>obtain⟨v,rfl,h⟩:=f9 h;exact⟨u,v,rfl,h⟩
def tI (c:aa)(v:V)(K:V→aa→Prop):Prop:=match gB v with
 |some x=>x.length≤big∧K (.d (.int x.length)) c
 |none=>aw (bX c v) fun p=>p.2.length≤big∧K (.d (.int p.2.length)) c
def yp (u:V)(f:Bi→Prop):Prop:=match u with
 | .bi b=>f b
 |_=>False
theorem qV {u:V}{f:Bi→Prop}(h:yp u f):∃x,u=.bi x∧f x:=by
 cases u with
 |bi x=>exact⟨x,rfl,h⟩
 |_=>exact h.elim
def vQ (c:aa)(u v:V)(K:V→aa→Prop):Prop:=onD u fun d=>yp v fun b=>aw (xv d b) fun r=>K (.d (.bool r)) c
theorem sF {c:aa}{u v:V}{K:V→aa→Prop}(h:vQ c u v K):∃d b r,u=.d d∧v=.bi b∧xv d b=some r∧K (.d (.bool r)) c:=by
 obtain⟨d,e1,h⟩:=cH h
 obtain⟨b,e2,h⟩:=qV h
 obtain⟨r,e3,h⟩:=ax h
 exact⟨d,b,r,e1,e2,e3,h⟩
def rc (c:aa)(vs:List V)(K:V→aa→Prop):Prop:=match vs with
 | []=>False
 |u::r=>(match r with
  | []=>d9 u u fun b _=>K (.rng 0 b) c
  |_::_=>v2 vs fun u v=>d9 u v fun a b=>K (.rng a b) c)
def biK (c:aa)(k:Option Nat)(b:Bi)(vs:List V)(K:V→aa→Prop):Prop:=match b with
 | .len=>v1 vs fun v=>tI c v K
 | .isinstance=>v2 vs fun u v=>vQ c u v K
 | .max=>v2 vs fun u v=>d9 u v fun a b=>K (.d (.int (if b > a then b else a))) c
 | .min=>v2 vs fun u v=>d9 u v fun a b=>K (.d (.int (if b<a then b else a))) c
 | .list=>v1 vs fun v=>aw (bX c v) fun p=>p.2.length≤big∧ci c k p.2 K
 | .tuple=>v1 vs fun v=>aw (bX c v) fun p=>p.1=false∧p.2.length≤big∧K (.d (.tup p.2)) c
 | .range=>rc c vs K
 |_=>False
section
variable {prog:Program}{w:World}{A:Around}{hb:Heap}{pr:List Nat}{env:Env}{l:Loc}{c:aa}{α:Al}{s:Shared}
theorem Fst.new' {h h':Heap}(F:Fst hb pr env l c α h){k:Nat}(hk:k∉dom c){a:Addr}(ha:h.get? a=none)(hkeep:∀b o,h.get? b=some o→h'.get? b=some o){o:O}
  (hq:Le c α h (c++[(k,o)]) (upd α k a) h'→IsO (c++[(k,o)]) (upd α k a) h' a o) :
  Fst hb pr env l (c++[(k,o)]) (upd α k a) h'∧Le c α h (c++[(k,o)]) (upd α k a) h':=by
 have ag:∀j∈dom c,upd α k a j=α j:=fun j hj=>by
  show (if j=k then _ else _)=_
  rw[if_neg (fun (e:j=k)=>hk (e▸hj))]
 have ak:upd α k a k=a:=if_pos rfl
 have L:Le c α h (c++[(k,o)]) (upd α k a) h':=by
  refine⟨fun j hj=>by rw[af];exact List.mem_append_left _ hj,ag,fun b o e _=>hkeep b o e,fun j hj=>?_⟩
  rw[af] at hj
  rcases List.mem_append.mp hj with hj|hj
  ·rw[ag j hj];exact .inl ⟨j,hj,rfl⟩
  ·have:j=k:=by simpa using hj
   rw[this,ak];exact .inr ha
 have C:Cst hb pr (c++[(k,o)]) (upd α k a) h':=by
  refine⟨fun b o e=>hkeep _ _ (F.base b o e),fun j u e=>?_,fun j hj=>?_,fun i hi j hj e=>?_,fun j hj=>L.dom j (F.prs j hj)⟩
  ·rw[aF hk] at e
   by_cases hj:j=k
   ·rw[if_pos hj] at e;(injection e with e;subst e);rw[hj,ak];exact hq L
   ·rw[if_neg hj] at e
    rw[ag j (ai e)]
    exact L.isO (fun q e=>hkeep _ _ e) (F.cell j u e)
  ·rw[af] at hj
   rcases List.mem_append.mp hj with hj|hj
   ·rw[ag j hj];exact F.fresh j hj
   ·have:j=k:=by simpa using hj
    rw[this,ak]
    cases e:hb.get? a with
    |none=>rfl
    |some o'=>rw[F.base _ _ e] at ha;contradiction
  ·rw[af] at hi hj
   have ne:∀j∈dom c,α j≠a:=fun j hj e=>by obtain⟨q,hq⟩:=F.toCst.ex hj;rw[e,ha] at hq;contradiction
   rcases List.mem_append.mp hi with hi|hi<;>rcases List.mem_append.mp hj with hj|hj
   ·rw[ag i hi,ag j hj] at e;exact F.inj i hi j hj e
   ·have:j=k:=by simpa using hj
    rw[this,ak,ag i hi] at e;exact absurd e (ne i hi)
   ·have:i=k:=by simpa using hi
    rw[this,ak,ag j hj] at e;exact absurd e.symm (ne j hj)
   ·have h1:i=k:=by simpa using hi
    have h2:j=k:=by simpa using hj
    rw[h1,h2]
 exact⟨F.le L C,L⟩
theorem tv (h:Heap):h.get? h.objs.size=none:=by
 cases e:h.get? h.objs.size with
 |none=>rfl
 |some o'=>exact absurd (Heap.lt_size e) (Nat.lt_irrefl _)
theorem gD (F:Fst hb pr env l c α s.heap){k:Option Nat}{xs:List D}{ws:List Value}{ep:Nat}{h':Heap}{K:V→aa→Prop}(h:ci c k xs K)(r:IsDs s.heap (aC c α) xs ws)
  (hkeep:∀b o,s.heap.get? b=some o→h'.get? b=some o) (hg:h'.get? s.heap.objs.size=some (bj "list" ws ep)) {Q:Value→Shared→Prop}
  (hq:∀v c' α' g h' tk,K v c'→Fst hb pr env l c' α' h'→Le c α s.heap c' α' h'→IsV c' α' h' v g→Q g {s with heap:=h',toks:=tk}) (tk:Nat):Q (.ref s.heap.objs.size) {s with heap:=h',toks:=tk}:=by
 cases k with
 |none=>
  obtain⟨F',L'⟩:=F.keeps hkeep
  exact hq _ c α _ h' tk h F' L' (.lst hg (a9 F.toCst) (L'.isDs r))
 |some k=>
  obtain⟨F',L'⟩:=F.new' h.1 (tv s.heap) hkeep (o:=.list xs) (fun L=>⟨ws,ep,hg,L.isDs r⟩)
  exact hq _ _ _ _ h' tk h.2 F' L' ⟨by rw[show upd α k s.heap.objs.size k=s.heap.objs.size from if_pos rfl],by rw[af];simp⟩
section
variable (F:Fst hb pr env l c α s.heap){K:V→aa→Prop}{Q:Value→Shared→Prop}(hq:∀v c' α' g h' tk,K v c'→Fst hb pr env l c' α' h'→Le c α s.heap c' α' h'→IsV c' α' h' v g→Q g {s with heap:=h',toks:=tk})
include F hq
theorem vi {v:V}{g:Value}(h:tI c v K)(i:IsV c α s.heap v g):wpAny (model prog w) A (call (.builtin "len") [g]) Q no s:=by
 have rf:=Le.refl c α s.heap
 unfold tI at h
 cases q:gB v with
 |some x=>
  rw[q] at h
  obtain rfl:=gh q
  obtain⟨_,rfl⟩:=IsD.inv i
  exact PySem.P.len_str (Int.not_le.mpr (uu h.1)) (hq _ c α _ s.heap _ h.2 F rf (.int _ _))
 |none=>
  rw[q] at h
  obtain⟨⟨b,xs⟩,e,h1,h⟩:=ax h
  obtain⟨a,ws,ep,rfl,g',r⟩:=cW F.toCst e i
  have hl:ws.toArray.size=xs.length:=by rw[List.size_toArray,←r.length]
  have hz:(ws.toArray.size:Int)<2 ^ 63:=hl▸uu h1
  cases b with
  |true=>exact len_tuple ⟨_,g',rfl,_,rfl⟩ hz (by rw[hl];exact hq _ c α _ s.heap _ h F rf (.int _ _))
  |false=>exact len_list ⟨_,g',rfl,_,rfl⟩ hz (by rw[hl];exact hq _ c α _ s.heap _ h F rf (.int _ _))
theorem wk {u v:V}{g g':Value}(h:vQ c u v K)(i:IsV c α s.heap u g)(j:IsV c α s.heap v g'):wpAny (model prog w) A (call (.builtin "isinstance") [g,g']) Q no s:=by
 have rf:=Le.refl c α s.heap
 obtain⟨d,b,r,rfl,rfl,e,h⟩:=sF h
 (subst j)
 have i:=IsD.inv i
 cases d with
 |int n=>
  obtain⟨_,rfl⟩:=i
  cases b<;>first|contradiction|skip
  ·exact IsiPair.int_bool (hq _ c α _ s.heap _ h F rf (.bool _))
  ·exact IsiPair.int_int (hq _ c α _ s.heap s.toks h F rf (.bool _))
 |bool n=>
  obtain rfl:g=_:=i
  cases b<;>first|contradiction|skip
  ·exact IsiPair.bool_bool (hq _ c α _ s.heap s.toks h F rf (.bool _))
  ·exact IsiPair.bool_int (hq _ c α _ s.heap s.toks h F rf (.bool _))
 |str x=>
  obtain⟨_,rfl⟩:=i
  cases b<;>first|contradiction|skip
  ·exact IsiPair.str_bool (hq _ c α _ s.heap _ h F rf (.bool _))
  ·exact IsiPair.str_int (hq _ c α _ s.heap _ h F rf (.bool _))
 |_=>contradiction
theorem ua {k:Option Nat}{v:V}{g:Value}(h:aw (bX c v) fun p=>p.2.length≤big∧ci c k p.2 K)(i:IsV c α s.heap v g):wpAny (model prog w) A (call (.type "list") [g]) Q no s:=by
 obtain⟨⟨b,xs⟩,e,h1,h⟩:=ax h
 obtain⟨a,ws,ep,rfl,g',r⟩:=cW F.toCst e i
 exact call_list_seq a (T:=if b then "tuple" else "list") (by cases b<;>simp) g' rfl rfl (fun h' c' hk hD=>gD F h r hk hD hq s.toks) (by rw[List.size_toArray,←r.length];exact aJ h1)
theorem rz {v:V}{g:Value}(h:aw (bX c v) fun p=>p.1=false∧p.2.length≤big∧K (.d (.tup p.2)) c)(i:IsV c α s.heap v g):wpAny (model prog w) A (call (.type "tuple") [g]) Q no s:=by
 obtain⟨⟨b,xs⟩,e,e',h1,h2⟩:=ax h
 have e':b=false:=e'
 subst e'
 obtain⟨a,ws,ep,rfl,g',r⟩:=cW F.toCst e i
 refine call_tuple_list ⟨_,g',rfl,_,rfl⟩ (fun h' hk=>?_) (by rw[List.size_toArray,←r.length];exact aJ h1)
 obtain⟨F',L'⟩:=F.keeps hk
 obtain⟨F2,L2⟩:=F'.push (bj "tuple" ws 0)
 exact hq _ c α _ _ s.toks h2 F2 (L'.trans L2) (.tup (Heap.get?_push_size _ rfl) (a9 F'.toCst) ((L'.trans L2).isDs r))
theorem pI {vs:List V}{ws:List Value}(h:rc c vs K)(iv:IsVs c α s.heap vs ws):wpAny (model prog w) A (call (.type "range") ws) Q no s:=by
 cases vs with
 |nil=>exact h.elim
 |cons u r=>
  cases r with
  |nil=>
   obtain⟨b,_,rfl,_,h⟩:=nv h
   obtain⟨w,rfl,i⟩:=iv.one
   obtain⟨_,rfl⟩:=IsD.inv i
   refine call_range_1 ?_
   obtain⟨F',L'⟩:=F.push (wg 0 _ s.toks _ (s.toks+1))
   exact hq _ c α _ _ _ h F' L' ⟨_,_,_,_,rfl,Heap.get?_push_size _ rfl,a9 F.toCst⟩
  |cons v r=>
   obtain⟨u',v',e,h⟩:=nE (vs:=u::v::r) (f:=fun u v=>d9 u v fun a b=>K (.rng a b) c) h
   rw[e] at iv
   obtain⟨w,w',rfl,i,j⟩:=iv.two
   obtain⟨a,_,b,_,rfl,rfl,h⟩:=cS h i j
   refine call_range_2 ?_
   obtain⟨F',L'⟩:=F.push (wg _ _ _ _ s.toks)
   exact hq _ c α _ _ _ h F' L' ⟨_,_,_,_,rfl,Heap.get?_push_size _ rfl,a9 F.toCst⟩
theorem vm (hh:A.handled=none){vs:List V}{ws:List Value}(h:v2 vs fun u v=>d9 u v fun a b=>K (.d (.int (if b > a then b else a))) c)(iv:IsVs c α s.heap vs ws):wpAny (model prog w) A (call (.builtin "max") ws) Q no s:=by
 obtain⟨u,v,rfl,h⟩:=nE h
 obtain⟨w,w',rfl,i,j⟩:=iv.two
 obtain⟨a,_,b,_,rfl,rfl,h⟩:=cS h i j
 refine max_two_ints hh fun h' tk hk=>?_
 obtain⟨F',L'⟩:=F.keeps hk
 refine hq _ c α _ h' tk h F' L' ?_
 by_cases q:b > a
 ·rw[if_pos q,if_pos q];exact .int _ _
 ·rw[if_neg q,if_neg q];exact .int _ _
theorem vT (hh:A.handled=none){vs:List V}{ws:List Value}(h:v2 vs fun u v=>d9 u v fun a b=>K (.d (.int (if b<a then b else a))) c)(iv:IsVs c α s.heap vs ws):wpAny (model prog w) A (call (.builtin "min") ws) Q no s:=by
 obtain⟨u,v,rfl,h⟩:=nE h
 obtain⟨w,w',rfl,i,j⟩:=iv.two
 obtain⟨a,_,b,_,rfl,rfl,h⟩:=cS h i j
 refine min_two_ints hh fun h' tk hk=>?_
 obtain⟨F',L'⟩:=F.keeps hk
 refine hq _ c α _ h' tk h F' L' ?_
 by_cases q:b<a
 ·rw[if_pos q,if_pos q];exact .int _ _
 ·rw[if_neg q,if_neg q];exact .int _ _
end
theorem xo (hh:A.handled=none)(F:Fst hb pr env l c α s.heap){k:Option Nat}{b:Bi}{vs:List V}{ws:List Value}{K:V→aa→Prop}(h:biK c k b vs K)(iv:IsVs c α s.heap vs ws){Q:Value→Shared→Prop}
  (hq:∀v c' α' g h' tk,K v c'→Fst hb pr env l c' α' h'→Le c α s.heap c' α' h'→IsV c' α' h' v g→Q g {s with heap:=h',toks:=tk}):wpAny (model prog w) A (call b.val ws) Q no s:=by
 cases b with
 |len=>obtain⟨v,rfl,h⟩:=f9 h;obtain⟨w,rfl,i⟩:=iv.one;exact vi F hq h i
 |isinstance=>obtain⟨u,v,rfl,h⟩:=nE h;obtain⟨w,w',rfl,i,j⟩:=iv.two;exact wk F hq h i j
 |max=>exact vm F hq hh h iv
 |min=>exact vT F hq hh h iv
 |list=>obtain⟨v,rfl,h⟩:=f9 h;obtain⟨w,rfl,i⟩:=iv.one;exact ua F hq h i
 |tuple=>obtain⟨v,rfl,h⟩:=f9 h;obtain⟨w,rfl,i⟩:=iv.one;exact rz F hq h i
 |range=>exact pI F hq h iv
 |_=>exact h.elim
end
end Mine
end
section
namespace Mine
open PySem PyProof.Rows PySem.W PySem.Builtin PySem.Builtin.ObjectAttr
theorem jR:typeLookup (.type "list") "append"=pure (some (.builtin "list.append")):=PySem.slot_list_append.lookup
theorem dv:typeOf (.builtin "list.append")=pure (.type "method_descriptor"):=by show builtinType _=_;rw[builtinType_eq_fast];kernel_rfl
theorem slot_mdget:Slot "method_descriptor" "__get__" "method_descriptor.__get__":=
 .of (owner:="method_descriptor") (n:="__get__") (by rw[typeLookup_type,builtinLookup_eq_fast];kernel_rfl) (by decide +kernel) (by decide +kernel) (by decide +kernel)
  (by first|exact .inl (by decide +kernel)|exact .inr (by decide +kernel)) (by rw[isSubtype_type];kernel_rfl)
theorem jS:entryFor table "method_descriptor.__get__"=some Builtin.«method_descriptor.__get__»:=entryFor_of_tree (by kernel_rfl)
theorem l9 (a b c:Value):argsOk "method_descriptor.__get__" ⟨[a,b,c],[]⟩:=by unfold argsOk;kernel_rfl
theorem wR:typeLookup (.type "method_descriptor") "__set__"=pure none:=by rw[typeLookup_type,builtinLookup_eq_fast];kernel_rfl
theorem oX:typeLookup (.type "method_descriptor") "__delete__"=pure none:=by rw[typeLookup_type,builtinLookup_eq_fast];kernel_rfl
theorem ot:isSubtype (.type "list") (.type "list")=pure true:=by rw[isSubtype_type];kernel_rfl
theorem ll:isSubtype (.type "list") (.type "module")=pure false:=by rw[isSubtype_type];kernel_rfl
theorem oO:isSubtype (.type "list") (.type "type")=pure false:=by rw[isSubtype_type];kernel_rfl
theorem iV:takesStores (.builtin "list.append")=pure false:=by
 unfold takesStores specialOf
 rw[dv]
 show (typeLookup (.type "method_descriptor") "__set__" >>= _)=_
 rw[wR]
 show (typeLookup (.type "method_descriptor") "__delete__" >>= _)=_
 rw[oX];rfl
theorem l8:specialOf (.builtin "list.append") "__get__"=pure (some (.builtin "method_descriptor.__get__")):=by
 unfold specialOf
 rw[dv]
 exact slot_mdget.lookup
section
variable {prog:Program}{w:World}{A:Around}{E:Value→Shared→Prop}{s:Shared}{G:Addr}{xs:Array Value}{ep:Nat}
theorem kj {T:String}{b:Bool}(hG:s.heap.get? G=some {cls:=.type "list",data:=.seq xs ep}) (hT:isSubtype (.type "list") (.type T)=pure b) {Q:Bool→Shared→Prop} (h:Q b s):wpAny (model prog w) A (isInstance (.ref G) (.type T)) Q E s:=
 wpAny_isInstance (T:="list") (U:=T) (b:=b) ⟨_,hG,rfl⟩ hT h
theorem n8 {P:Fin→Shared→Prop}(hG:s.heap.get? G=some {cls:=.type "list",data:=.seq xs ep}) (h:P (.done (.ret (.ref s.heap.objs.size))) {s with heap:=s.heap.push (kJ "list.append" G)}) :
  wpAny (model prog w) A (Builtin.«method_descriptor.__get__» ⟨[.builtin "list.append",.ref G,.type "list"],[]⟩) P E s:=by
 unfold Builtin.«method_descriptor.__get__»
 refine wpAny_bind (wpAny_of_eq (a:=(.builtin "list.append",some (.ref G),some (.type "list"))) (by first|rfl|kernel_rfl) ?_)
 have hT:s.TypeIs (.ref G) "list":=⟨_,hG,rfl⟩
 have l1:=ot
 repeat (any_goals (first|assumption|wp_step))
 rw[show (".".intercalate ("list.append".cutAt '.').dropLast)="list" from by decide +kernel]
 refine wpAny_of_eq (a:=true) l1 ?_
 repeat (any_goals (first|assumption|wp_step))
theorem j9 {t:Tok}{R:Fin→Shared→Prop}(hG:s.heap.get? G=some {cls:=.type "list",data:=.seq xs ep}) (h:R (.done (.ret (.ref s.heap.objs.size))) {s with heap:=s.heap.push (kJ "list.append" G)}) :
  wpAny (model prog w) A (Builtin.«object.__getattribute__» ⟨[.ref G,.str "append" t],[]⟩) R E s:=by
 have hT:s.TypeIs (.ref G) "list":=⟨_,hG,rfl⟩
 have f1:=jR
 have f2:=l8
 have f3:=iV
 unfold Builtin.«object.__getattribute__»
 repeat (any_goals (first|assumption | ((with_reducible show wpAny _ _ (call (Value.builtin "method_descriptor.__get__") _ _) _ _ _);refine wpAny_call_entry slot_mdget dv jS (n8 hG ⟨_,rfl,?_⟩) (l9 _ _ _))|wp_step))
theorem jT (hG:s.heap.get? G=some {cls:=.type "list",data:=.seq xs ep}) {Q:Value→Shared→Prop} (h:Q (.ref s.heap.objs.size) {s with heap:=s.heap.push (kJ "list.append" G),toks:=s.toks+1}) :
  wpAny (model prog w) A (getAttr (.ref G) "append" true) Q E s:=by
 obtain⟨hp,g,d,tk,os⟩:=s
 have hT:∀tk',(⟨hp,g,d,tk',os⟩:Shared).TypeIs (.ref G) "list":=fun _=>⟨_,hG,rfl⟩
 have f3:=F.slot_list_getattribute.lookup
 have f4:=F.slot_list_getattribute.bind (.ref G)
 unfold getAttr getAttrBy
 repeat (any_goals (first|assumption|exact hT _ | ((with_reducible show wpAny _ _ (call (Value.builtin "list.__getattribute__") _ _) _ _ _);refine wpAny_call_entry F.slot_list_getattribute (hT _) am_entry_list_getattribute (j9 hG ⟨_,rfl,?_⟩) (F.args_list_getattribute_2 _ _))|wp_step))
theorem mr (a b:Value):(match Manifest.signature? "list.append" with|some sig=>Bind.checkArgs "list.append" {sig with full:=toString (Bind.lastOf "list")++toString "."++toString (Bind.lastOf "list.append")} ⟨[a,b],[]⟩|none=>pure ())=pure ():=by kernel_rfl
theorem lh:builtinKind "list.append"=some .method:=by decide +kernel
theorem lg (hG:s.heap.get? G=some {cls:=.type "list",data:=.seq xs ep}) {Q:Bool→Shared→Prop} (h:Q false s):wpAny (model prog w) A (isType (.ref G)) Q E s:=by
 have hT:s.TypeIs (.ref G) "list":=⟨_,hG,rfl⟩
 have l2:=oO
 unfold isType
 repeat (any_goals (first|assumption|wp_step))
theorem jf {v:Value}(hG:s.heap.get? G=some {cls:=.type "list",data:=.seq xs ep}) {Q:Unit→Shared→Prop} (h:Q () s):wpAny (model prog w) A (checkBoundCall "list.append" ⟨[.ref G,v],[]⟩) Q E s:=by
 have hT:s.TypeIs (.ref G) "list":=⟨_,hG,rfl⟩
 have ht:=mr (.ref G) v
 unfold checkBoundCall
 cases hsig:Manifest.signature? "list.append" with
 |none=>exact wpAny_pure h
 |some sig=>
  rw[hsig] at ht
  simp only[lh]
  rw[if_neg (by decide)]
  refine wpAny_bind (kj hG ll ?_)
  rw[if_neg (by decide +kernel)]
  refine wpAny_bind (lg hG ?_)
  rw[if_neg (by decide)]
  refine wpAny_bind (wpAny_typeOf hT ?_)
  exact wpAny_of_eq ht h
theorem jg {M:Model}{h:Heap}{p:Addr}(hp:h.get? p=some (kJ "list.append" G)):Looks M h (keeperOf (.ref p)) .machine:=by
 intro A Q E s k q
 unfold keeperOf
 refine wpAny_bind (wpAny_load (k _ _ hp) ?_)
 exact wpAny_pure q
theorem lC {p:Addr}{v:Value}(hp:s.heap.get? p=some (kJ "list.append" G)) (hG:s.heap.get? G=some {cls:=.type "list",data:=.seq xs ep}) (hsz:xs.size≤sizeLine) {Q:Value→Shared→Prop}
  (h:∀h',h'.PlainList G (xs.push v)→Heap.SameBut G s.heap h'→Q .none {s with heap:=h'}):wpAny (model prog w) A (call (.ref p) [v]) Q E s:=by
 refine wpAny_call (codeAny_of_tree ?_)
 show wpAny _ A.in1 (callAny (.ref p) ⟨[v],[]⟩) _ _ s
 refine wpAny_bind (wpAny_load hp ?_)
 show wpAny _ A.in1 (if (Value.type "builtin_function_or_method" != Value.type "method")=true then (do checkBoundCall "list.append" ⟨[.ref G,v],[]⟩;again (.builtin "list.append" ⟨[.ref G,v],[]⟩)) else _) _ _ _
 rw[if_pos (by decide)]
 refine wpAny_bind (jf hG (wpAny_pure ?_))
 refine⟨Code.quiet_builtin _ (by decide +kernel),?_⟩
 refine codeAny_builtin PySem.entry_list_append ?_
 show wpAny _ _ (updateSeq G (·.push v)>>=fun _=>ret .none) _ _ s
 refine wpAny_bind ?_
 refine wpAny_updateSeq hG rfl (wpAny_pure (h _ ⟨ep+1,?_⟩ (Heap.SameBut.update ..)))
 rw[Heap.get?_update_self _ hG (by rw[Obj.mapSeq_push_plain];rfl),Obj.mapSeq_push_plain]
end
end Mine
end
section
namespace Mine
open PySem PyProof.Rows PySem.W PySem.Builtin
structure TabOk (K:Frag)(d C:Addr)(tr:Nat→Nat):Prop where
 at_:∃dd es ep sl,K.lookup d=some ⟨.ref C,dd,.dict es ep,sl⟩∧IntKeys es∧∀c:Nat,c<128→∃t,findBy Value.isInt es (c:Int)=some (.int (tr c:Nat) t)∧tr c<128
 seq:noSeq K C=true
 item:findIn K (.ref C) "__getitem__"=some (some (.builtin "dict.__getitem__"))
 sub:mroIn K C (.type "dict")=some true
section
variable {prog:Program}{w:World}{A:Around}{s:Shared}{K:Frag}{d C:Addr}{tr:Nat→Nat}
theorem qr:builtinKind "dict.__getitem__"=some .method:=by decide +kernel
theorem pn:splitId "dict.__getitem__"=some ("dict","__getitem__"):=by decide +kernel
theorem mv {M:Model}{E:Value→Shared→Prop}{i owner n:String}{self:Value}{rest:List Value}{kw:List (Str×Value)}{Q:Unit→Shared→Prop}
  (hk:builtinKind i=some .method) (hs:splitId i=some (owner,n)) (hi:Looks M s.heap (isInstance self (.type owner)) true) (ha:argsOk i ⟨self::rest,kw⟩) (q:Q () s) :
  wpAny M A (checkBuiltinCall i ⟨self::rest,kw⟩) Q E s:=by
 simp only[checkBuiltinCall,hk,hs]
 refine wpAny_bind (hi.here ?_)
 simp only[Bool.not_true,Bool.false_eq_true,if_false]
 cases hsig:Manifest.signature? i with
 |none=>exact wpAny_pure q
 |some sig=>
  simp only[argsOk,hsig] at ha
  have h2:Bind.checkArgs i sig ⟨self::rest,kw⟩=pure ():=ha
  show wpAny M A (Bind.checkArgs i sig ⟨self::rest,kw⟩) Q E s
  rw[h2];exact wpAny_pure q
theorem sy {E:Value→Shared→Prop}{k:Int}{t:Tok}{o:Obj}{es:Array DictEntry}{ep:Nat}{v:Value}{R:PySem.Fin→Shared→Prop}(ho:s.heap.get? d=some o)(hd:o.data=.dict es ep)(hk:PySem.IntKeys es)(hf:findBy Value.isInt es k=some v)
  (h:R (.done (.ret v)) {s with toks:=s.toks+1}):wpAny (model prog w) A (Builtin.«dict.__getitem__» ⟨[.ref d,.int k t],[]⟩) R E s:=by
 show wpAny _ _ (dictGet d (.int k t)>>=_) _ _ s
 refine wpAny_bind ?_
 unfold dictGet
 refine wpAny_holding (wpAny_bind (wpAny_pyHash_int (wpAny_bind (wpAny_dictFind_int (s:={s with toks:=s.toks+1}) ho hd hk ?_))))
 rw[findBy_of_findIdx?] at hf
 cases hi:es.findIdx? fun e=>Value.isInt k e.key with
 |none=>rw[hi] at hf;contradiction
 |some i=>
  rw[hi] at hf
  refine wpAny_bind (wpAny_dictEntries (s:={s with toks:=s.toks+1}) ho hd (wpAny_pure ?_))
  dsimp only at hf
  rw[hf]
  exact wpAny_pure h
theorem rn (T:TabOk K d C tr)(X:K.In s.heap){c:Nat}(hc:c<128){Q:Str.Mapped→Shared→Prop}(hq:∀tk,Q (.char (tr c)) {s with toks:=tk}):wpAny (model prog w) A (Str.tableLookup (.ref d) c) Q no s:=by
 refine aA fun G9 back9=>?_;obtain⟨dd,es,ep,sl,hl,hk,hes⟩:=T.at_;refine back9 ?_
 obtain⟨t,hf,htr⟩:=hes c hc
 have ho:=X _ _ hl
 have ty:∀{M:Model},Looks M s.heap (typeOf (.ref d)) (.ref C):=(Looks.ld ho).andThen .now
 have inst:∀{M:Model},Looks M s.heap (isInstance (.ref d) (.type "dict")) true:=ty.andThen (looks_mroIn X T.sub)
 unfold Str.tableLookup
 refine wpAny_bind (wpAny_attempt (wpAny_bind (wpAny_mkInt ?_)))
 unfold getItem sequenceKey
 refine wpAny_holding (wpAny_bind (wpAny_bind (Looks.here (s:={s with toks:=s.toks+1}) ty ?_)))
 refine wpAny_bind (Looks.here (s:={s with toks:=s.toks+1}) (anyM_none X T.seq) ?_)
 rw[if_pos (show (!false)=true from rfl)]
 refine wpAny_pure (wpAny_bind ?_)
 unfold callSpecial? specialOf
 refine wpAny_bind (wpAny_bind (Looks.here (s:={s with toks:=s.toks+1}) ty (Looks.here (s:={s with toks:=s.toks+1}) (looks_findIn X T.item) ?_)))
 refine wpAny_holding ?_
 rw[slot_dict_getitem.bind]
 refine wpAny_bind (wpAny_pure (wpAny_bind (wpAny_call ?_)))
 refine codeAny_call_builtin slot_dict_getitem.plain entry_dict_getitem ?_
 refine mv (s:={s with toks:=s.toks+1}) (i:="dict.__getitem__") (owner:="dict") (n:="__getitem__") (self:=.ref d) (rest:=[.int (c:Int) s.toks]) (kw:=[]) qr pn inst (args_dict_getitem _ _) ?_
 refine sy (s:={s with toks:=s.toks+1}) ho rfl hk hf ?_
 refine wpAny_pure (wpAny_pure ?_)
 have h1:¬((tr c:Nat):Int)<0:=by exact Om.o17
 have h2:¬((tr c:Nat):Int) > 1114111:=by exact Om.o16 htr
 refine wpAny_bind (wpAny_of_eq (a:=some ((tr c:Nat):Int)) rfl ?_)
 show wpAny _ _ (if (decide (((tr c:Nat):Int)<0)||decide (((tr c:Nat):Int) > 1114111))=true then _ else pure (Str.Mapped.char ((tr c:Nat):Int).toNat)) _ _ _
 simp only[decide_eq_false h1,decide_eq_false h2]
 exact wpAny_pure (hq _)
theorem jq (T:TabOk K d C tr)(X:K.In s.heap){x:PySem.Str}{t:Tok}(hx:∀c∈x.cps.toList,c<128)(hl:x.length≤big){Q:Value→Shared→Prop}(hq:∀t' tk,Q (.str ⟨x.cps.map tr⟩ t') {s with toks:=tk}) :
  wpAny (model prog w) A (call (.builtin "str.translate") [.str x t,.ref d]) Q no s:=by
 refine wpAny_call_entry PySem.F.slot_str_translate (typeIs_str _ _ _) PySem.F.entry_str_translate ?_ (PySem.F.args_str_translate_2 _ _)
 unfold Builtin.«str.translate»
 refine wpAny_bind (wpAny_of_eq (a:=(.str x t,x,.ref d)) rfl ?_)
 dsimp only
 have hsz:∀n,n≤x.length→Str.tooLong n=false:=fun n hn=>by
  unfold Str.tooLong sizeLine
  unfold big at hl
  exact decide_eq_false (by omega)
 by_cases h0:x.length=0
 ·rw[if_pos (by simpa using h0)]
  have hx0:x.cps=#[]:=Array.eq_empty_of_size_eq_zero h0
  refine wpAny_bind (wpAny_rule (wpAny_bind ?_))
  have e:(⟨x.cps.map tr⟩:PySem.Str)=x:=by
   cases x with|mk cps=>simp only at hx0;subst hx0;simp
  refine wpAny_of_eq (a:=.str x t) rfl (wpAny_pure ⟨_,rfl,?_⟩)
  have:=hq t s.toks
  rw[e] at this;exact this
 ·rw[if_neg (by simpa using h0)]
  have hall:(x.cps.all fun c=>decide (c<128))=true:=by
   rw[←Array.all_toList,List.all_eq_true]
   intro c hc;exact decide_eq_true (hx c hc)
  simp only[hall]
  refine wpAny_bind ?_
  rw[←Array.forIn_toList]
  refine wpAny_forIn_list _ (fun rest b s'=>∃done tk,x.cps.toList=done++rest∧s'={s with toks:=tk}∧b.1=(done.map fun c=>(⟨#[tr c]⟩:PySem.Str)).reverse∧b.2.1=done.length∧b.2.2.1=true∧
   (∀c a,List.lookup c b.2.2.2.1=some a→a=some (tr c))∧b.2.2.2.2=false) _ ?_ ?_ _ _ ⟨[],s.toks,rfl,rfl,rfl,rfl,rfl,(fun c a e=>by simp at e),rfl⟩
  ·intro c rest b s' h
   refine aA fun G9 back9=>?_
   obtain⟨done,tk,hsp,hs',hp,ht,hf,hk,hd⟩:=h
   obtain⟨pieces,e1⟩:∃p,p=b.1:=⟨_,rfl⟩
   obtain⟨known,e2⟩:∃p,p=b.2.2.2.1:=⟨_,rfl⟩
   rw[←e1] at hp
   rw[←e2] at hk
   have hbe:b=(pieces,done.length,true,known,false):=by rw[e1,e2,←ht,←hf,←hd]
   clear e1 e2 ht hf hd
   refine back9 ?_
   clear back9
   rw[hbe,hs']
   clear hbe hs'
   have hc:c<128:=hx c (by rw[hsp];simp)
   have hlen:done.length≤x.length:=by
    have:x.cps.toList.length=(done++c::rest).length:=by rw[hsp]
    simp only[List.length_append] at this
    simp only[Array.length_toList] at this
    exact Om.o15 this
   dsimp only
   rw[hsz _ hlen]
   simp only[Bool.false_eq_true,if_false,if_true]
   have fin:∀tk' kn,(∀c' a,List.lookup c' kn=some a→a=some (tr c'))→∃done' tk'',x.cps.toList=done'++rest∧({s with toks:=tk'}:Shared)={s with toks:=tk''}∧
     (⟨#[tr c]⟩:PySem.Str)::pieces=(done'.map fun c=>(⟨#[tr c]⟩:PySem.Str)).reverse∧done.length+1=done'.length∧true=true∧(∀c' a,List.lookup c' kn=some a→a=some (tr c'))∧false=false:=by
    intro tk' kn hkn
    exact⟨done++[c],tk',by rw[hsp];simp,rfl,by rw[hp];simp,by simp,rfl,hkn,rfl⟩
   cases hlk:List.lookup c known with
   |some a=>
    have ha:=hk c a hlk
    subst ha
    exact wpAny_bind (wpAny_pure (wpAny_pure (fin tk known hk)))
   |none=>
    refine aA fun G9 back9=>?_;obtain⟨_,_,_,_,_,_,hes⟩:=T.at_;refine back9 ?_
    obtain⟨_,_,htr⟩:=hes c hc
    refine wpAny_bind (rn (s:={s with toks:=tk}) T X hc fun tk'=>?_)
    simp only[htr,if_true]
    refine wpAny_bind (wpAny_pure (wpAny_pure (fin tk' _ fun c' a e=>?_)))
    simp only[List.lookup_cons] at e
    cases hcc:c'==c with
    |true=>rw[hcc] at e;(injection e with e;subst e);rw[beq_iff_eq.mp hcc]
    |false=>rw[hcc] at e;exact hk c' a e
  ·intro b s' h
   refine aA fun G9 back9=>?_
   obtain⟨done,tk,hsp,hs',hp,ht,hf,hk,hd⟩:=h
   have hbe:b=((done.map fun c=>(⟨#[tr c]⟩:PySem.Str)).reverse,done.length,true,b.2.2.2.1,false):=by rw[←hp,←ht,←hf,←hd]
   simp only[List.append_nil] at hsp
   have hlen:done.length=x.length:=by rw[←hsp];rfl
   clear hp ht hf hd
   refine back9 ?_
   clear back9
   rw[hbe,hs']
   rw[hsz _ (by exact Om.o14 hlen)]
   dsimp only[Bool.false_eq_true,if_false]
   have e:((done.map fun c=>(⟨#[tr c]⟩:PySem.Str)).reverse.reverse.foldl (fun acc p=>acc++p.cps) #[])=x.cps.map tr:=by
    rw[List.reverse_reverse]
    have g:∀(l:List Nat) (acc:Array Nat),(l.map fun c=>(⟨#[tr c]⟩:PySem.Str)).foldl (fun acc p=>acc++p.cps) acc=acc++(l.map tr).toArray:=by
     intro l
     induction l with
     |nil=>intro acc;simp
     |cons c r ih=>intro acc;simp only[List.map_cons,List.foldl_cons,ih];apply Array.ext';simp
    simp only[g,←hsp];apply Array.ext';simp
   rw[e]
   unfold retStr
   refine wpAny_bind (wpAny_mkStr (wpAny_pure ⟨_,rfl,hq _ _⟩) ?_)
   show (x.cps.map tr).size≤sizeLine
   rw[Array.size_map];exact aJ hl
end
end Mine
end
section
namespace Mine
open PySem PyProof.Rows PySem.W PySem.Builtin PySem.Builtin.Str
inductive Mn where
 |find|rfind|end_|append|pop
noncomputable def Mn.nm:Mn→PySem.Str
 | .find=>"find"
 | .rfind=>"rfind"
 | .end_=>"end"
 | .append=>"append"
 | .pop=>"pop"
noncomputable def er (x y:PySem.Str)(i j:Nat):Int:=match occurrences x y i j 1 with
 |k::_=>(k:Int)
 | []=>-1
noncomputable def cP (x y:PySem.Str)(i j:Nat):Int:=match lastOccurrence x y i j with
 |some k=>(k:Int)
 |none=>-1
def uR (vs:List V)(f:PySem.Str→Int→Option Int→Prop):Prop:=match vs with
 | []=>False
 |u::r=>fL u fun y=>(match r with
  | []=>False
  |v::r=>fM v fun i=>(match r with
   | []=>f y i none
   |t::r=>fM t fun j=>(match r with
    | []=>f y i (some j)
    |_::_=>False)))
def mM (m:Mn)(x:PySem.Str)(vs:List V)(c:aa)(K:V→aa→Prop):Prop:=uR vs fun y i o=>match o with
 |none=>(match m with
  | .find=>K (.d (.int (Txt.find3 x y i))) c
  |_=>False)
 |some j=>(0≤i∧0≤j∧j≤x.length)∧(match m with
  | .find=>K (.d (.int (er x y i.toNat j.toNat))) c
  | .rfind=>K (.d (.int (cP x y i.toNat j.toNat))) c
  |_=>False)
def nJ (m:Mn)(k:Nat)(xs:List D)(vs:List V)(c:aa)(K:V→aa→Prop):Prop:=match m with
 | .append=>v1 vs fun v=>onD v fun d=>xs.length≤big∧K (.d .none) (cset c k (.list (xs++[d])))
 | .pop=>v1 vs fun v=>fM v fun i=>i=0∧xs.length≤big∧∃d r,xs=d::r∧K (.d d) (cset c k (.list r))
 |_=>False
section
variable {prog:Program}{w:World}{A:Around}{hb:Heap}{pr:List Nat}{env:Env}{l:Loc}{c:aa}{α:Al}{s:Shared}
theorem hF (x y:PySem.Str)(i j:Int)(t u v z:Tok)(hi:0≤i)(hj:0≤j)(hl:j≤x.length):Gives («str.find» ⟨[.str x t,.str y u,.int i v,.int j z],[]⟩) (.int (er x y i.toNat j.toNat)):=by
 show Gives (match occurrences x y (max 0 (if i<0 then i+x.length else i)).toNat (min (max 0 (if j<0 then j+x.length else j)).toNat x.length) 1 with|k::_=>retInt k | []=>(do rule "str.find.not-found";retInt (-1))) _
 rw[if_neg (by exact Om.o20 hi),if_neg (by exact Om.o20 hj),show max 0 i=i by exact Om.o19 hi,show max 0 j=j by exact Om.o19 hj,show min j.toNat x.length=j.toNat by exact Om.o18 hl]
 unfold er
 cases occurrences x y i.toNat j.toNat 1 with
 |nil=>exact .rule (.of_eq rfl)
 |cons k _=>exact .of_eq rfl
theorem gR (x y:PySem.Str)(i j:Int)(t u v z:Tok)(hi:0≤i)(hj:0≤j)(hl:j≤x.length):Gives («str.rfind» ⟨[.str x t,.str y u,.int i v,.int j z],[]⟩) (.int (cP x y i.toNat j.toNat)):=by
 show Gives (match lastOccurrence x y (max 0 (if i<0 then i+x.length else i)).toNat (min (max 0 (if j<0 then j+x.length else j)).toNat x.length) with|some k=>retInt k|none=>(do rule "str.rfind.not-found";retInt (-1))) _
 rw[if_neg (by exact Om.o20 hi),if_neg (by exact Om.o20 hj),show max 0 i=i by exact Om.o19 hi,show max 0 j=j by exact Om.o19 hj,show min j.toNat x.length=j.toNat by exact Om.o18 hl]
 unfold cP
 cases lastOccurrence x y i.toNat j.toNat with
 |none=>exact .rule (.of_eq rfl)
 |some k=>exact .of_eq rfl
theorem si {vs:List V}{f:PySem.Str→Int→Option Int→Prop}(h:uR vs f):∃y i,(∃j,f y i (some j)∧vs=[.d (.str y),.d (.int i),.d (.int j)])∨(f y i none∧vs=[.d (.str y),.d (.int i)]):=by
 cases vs with
 |nil=>exact h.elim
 |cons u r=>
  obtain⟨y,rfl,h1⟩:=cu h
  cases r with
  |nil=>exact h1.elim
  |cons v r=>
   obtain⟨i,rfl,h2⟩:=b8 h1
   cases r with
   |nil=>exact⟨y,i,.inr ⟨h2,rfl⟩⟩
   |cons t r=>
    obtain⟨j,rfl,h3⟩:=b8 h2
    cases r with
    |nil=>exact⟨y,i,.inl ⟨j,h3,rfl⟩⟩
    |cons _ _=>exact h3.elim
noncomputable def Mn.sid:Mn→String
 | .find=>"str.find"
 | .rfind=>"str.rfind"
 |_=>""
noncomputable def Mn.isS:Mn→Bool
 | .find | .rfind=>true
 |_=>false
theorem q7 {m:Mn}(hm:m.isS=true){x:PySem.Str}{t:Tok}{pl:Sem Bool}{Q:Value×List Value→Shared→Prop}{E:Value→Shared→Prop}(h:Q (.builtin m.sid,[.str x t]) s):wpAny (model prog w) A (getMethod (.str x t) m.nm pl) Q E s:=by
 cases m with
 |find=>exact GM.find h
 |rfind=>exact GM.rfind h
 |_=>contradiction
theorem IsVs.uncons {h:Heap}{v:V}{vs:List V}{ws:List Value}(i:IsVs c α h (v::vs) ws):∃w ws',ws=w::ws'∧IsV c α h v w∧IsVs c α h vs ws':=i.inv
theorem lL (F:Fst hb pr env l c α s.heap){m:Mn}{x:PySem.Str}{t:Tok}{vs:List V}{ws:List Value}{K:V→aa→Prop}(h:mM m x vs c K)(iv:IsVs c α s.heap vs ws){Q:Value→Shared→Prop}
  (hq:∀v c' α' g h' tk,K v c'→Fst hb pr env l c' α' h'→Le c α s.heap c' α' h'→IsV c' α' h' v g→Q g {s with heap:=h',toks:=tk}):wpAny (model prog w) A (call (.builtin m.sid) (.str x t::ws)) Q no s:=by
 have rf:=Le.refl c α s.heap
 obtain⟨y,i,⟨j,h,rfl⟩|⟨h,rfl⟩⟩:=si h
 ·obtain⟨⟨h1,h2,h3⟩,h⟩:=h
  obtain⟨u,us,rfl,i1,ir⟩:=iv.uncons
  obtain⟨v,v',rfl,i2,i3⟩:=ir.two
  obtain⟨_,rfl⟩:=IsD.inv i1
  obtain⟨_,rfl⟩:=IsD.inv i2
  obtain⟨_,rfl⟩:=IsD.inv i3
  cases m with
  |find=>exact call_gives PySem.F.slot_str_find (typeIs_str _ _ _) PySem.F.entry_str_find (PySem.F.args_str_find_4 _ _ _ _) (hF x y i j t _ _ _ h1 h2 h3) (hq _ c α _ s.heap _ h F rf (.int _ _))
  |rfind=>exact call_gives PySem.F.slot_str_rfind (typeIs_str _ _ _) PySem.F.entry_str_rfind (PySem.F.args_str_rfind_4 _ _ _ _) (gR x y i j t _ _ _ h1 h2 h3) (hq _ c α _ s.heap _ h F rf (.int _ _))
  |_=>exact h.elim
 ·obtain⟨w,w',rfl,i1,i2⟩:=iv.two
  obtain⟨_,rfl⟩:=IsD.inv i1
  obtain⟨_,rfl⟩:=IsD.inv i2
  cases m with
  |find=>exact SC.find3 (hq _ c α _ s.heap _ h F rf (.int _ _))
  |_=>exact h.elim
noncomputable def Mn.lid:Mn→String
 | .append=>"list.append"
 | .pop=>"list.pop"
 |_=>""
noncomputable def Mn.isLi:Mn→Bool
 | .append | .pop=>true
 |_=>false
theorem k0 {M:Model}{v:Value}{pl:Sem Bool}{Q:Value×List Value→Shared→Prop}{E:Value→Shared→Prop}(hT:s.TypeIs v "list") (hd:∀a,v=.ref a→∃o,s.heap.get? a=some o∧o.dict=none) (h:Q (.builtin "list.append",[v]) s) :
  wpAny M A (getMethod v "append" pl) Q E s:=by
 with_reducible exact getMethod_builtin hT PySem.F.plainAttrs_list PySem.F.slot_list_append PySem.F.type_list_append hd h
theorem pX {M:Model}{v:Value}{pl:Sem Bool}{Q:Value×List Value→Shared→Prop}{E:Value→Shared→Prop}(hT:s.TypeIs v "list") (hd:∀a,v=.ref a→∃o,s.heap.get? a=some o∧o.dict=none) (h:Q (.builtin "list.pop",[v]) s) :
  wpAny M A (getMethod v "pop" pl) Q E s:=by
 with_reducible exact getMethod_builtin hT PySem.F.plainAttrs_list PySem.F.slot_list_pop PySem.F.type_list_pop hd h
theorem qF {m:Mn}(hm:m.isLi=true){a:Addr}{ws:List Value}{ep:Nat}(ha:s.heap.get? a=some (bj "list" ws ep)) {pl:Sem Bool} {Q:Value×List Value→Shared→Prop} {E:Value→Shared→Prop} (h:Q (.builtin m.lid,[.ref a]) s) :
  wpAny (model prog w) A (getMethod (.ref a) m.nm pl) Q E s:=by
 have hT:s.TypeIs (.ref a) "list":=⟨_,ha,rfl⟩
 cases m with
 |append=>exact k0 hT (fun _ e=>by (injection e with e;subst e);exact⟨_,ha,rfl⟩) h
 |pop=>exact pX hT (fun _ e=>by (injection e with e;subst e);exact⟨_,ha,rfl⟩) h
 |_=>contradiction
theorem vk (F:Fst hb pr env l c α s.heap){k:Nat}(hkm:k∈dom c){d:D}{r:List D}{u0:Value}{us':List Value}{ep:Nat}(gk:s.heap.get? (α k)=some (bj "list" (u0::us') ep)) (hlen:(d::r).length≤big) (i0:IsD s.heap (aC c α) d u0) (r0:IsDs s.heap (aC c α) r us') {t:Tok} {Q:Value→Shared→Prop}
  (hq:∀{h'},Fst hb pr env l (cset c k (.list r)) α h'→Le c α s.heap (cset c k (.list r)) α h'→IsD h' (aC (cset c k (.list r)) α) d u0→Q u0 {s with heap:=h'}):wpAny (model prog w) A (call (.builtin "list.pop") [.ref (α k),.int 0 t]) Q no s:=by
 have hsz:(u0::us').toArray.size≤sizeLine:=aJ (Nat.le_trans (Nat.le_of_eq (congrArg Nat.succ r0.length.symm)) hlen)
 refine call_meets PySem.F.slot_list_pop ⟨_,gk,rfl⟩ PySem.F.entry_list_pop (PySem.F.args_list_pop_2 _ _) (PySem.MeetsSeq.list_pop_at (α k) (u0::us').toArray ep 0 _ 0 u0 (by decide) (by rw[List.size_toArray];simp[seqIndex?]) (by simp) hsz) ⟨gk,?_⟩
 have g8:(s.heap.update (α k) (Obj.mapSeq fun xs=>xs.eraseIdxIfInBounds 0)).get? (α k)=some (bj "list" us' (ep+1)):=by
  rw[Heap.get?_update_self _ gk (by rfl)]
  simp[Obj.mapSeq]
 obtain⟨F8,L8⟩:=F.set hkm (o:=.list r) (Heap.SameBut.update s.heap (α k) (Obj.mapSeq fun xs=>xs.eraseIdxIfInBounds 0)) (fun L=>⟨us',ep+1,g8,L.isDs r0⟩)
 exact hq F8 L8 (L8.isD i0)
theorem mx (F:Fst hb pr env l c α s.heap){m:Mn}{k:Nat}{xs:List D}(hk:ae c k=some (.list xs)){vs:List V}{ws:List Value}{K:V→aa→Prop}(h:nJ m k xs vs c K)(iv:IsVs c α s.heap vs ws){Q:Value→Shared→Prop}
  (hq:∀v c' α' g h' tk,K v c'→Fst hb pr env l c' α' h'→Le c α s.heap c' α' h'→IsV c' α' h' v g→Q g {s with heap:=h',toks:=tk}):wpAny (model prog w) A (call (.builtin m.lid) (.ref (α k)::ws)) Q no s:=by
 obtain⟨us,ep,gk,rk⟩:=F.toCst.cell k _ hk
 have hkm:=ai hk
 cases m with
 |append=>
  obtain⟨v,rfl,h1⟩:=f9 h
  obtain⟨d,rfl,h2⟩:=cH h1
  obtain⟨w,rfl,i⟩:=iv.one
  refine wpAny_list_append_plain (items:=us.toArray) ⟨ep,gk⟩ (fun h8 hl8 hs8=>?_) (by rw[List.size_toArray,←rk.length];exact aJ h2.1)
  obtain⟨F8,L8⟩:=F.set hkm (o:=.list _) hs8 (fun L=>by
   obtain⟨ep8,g8⟩:=hl8
   refine⟨us++[w],ep8,by rw[g8];simp,(IsDs.append (.cons (L.isD i) .nil) (L.isDs rk))⟩)
  exact hq _ _ _ _ _ s.toks h2.2 F8 L8 .none
 |pop=>
  obtain⟨v,rfl,h1⟩:=f9 h
  obtain⟨n,rfl,rfl,hlen,d,r,rfl,hK⟩:=b8 h1
  obtain⟨w,rfl,i⟩:=iv.one
  obtain⟨t,rfl⟩:=IsD.inv i
  obtain⟨u0,us',rfl,i0,r0⟩:=rk.inv
  exact vk F hkm gk hlen i0 r0 fun F8 L8 i=>hq _ _ _ _ _ s.toks hK F8 L8 i
 |_=>exact h.elim
theorem iL:Slot "re.Match" "end" "re.Match.end":=
 .of (owner:="re.Match") (n:="end") (by rw[typeLookup_type,builtinLookup_eq_fast];kernel_rfl) (by decide +kernel) (by decide +kernel) (by decide +kernel)
  (by first|exact .inl (by decide +kernel)|exact .inr (by decide +kernel)) (by rw[isSubtype_type];kernel_rfl)
theorem ol:typeOf (.builtin "re.Match.end")=pure (.type "method_descriptor"):=by show builtinType _=_;rw[builtinType_eq_fast];kernel_rfl
theorem l7:entryFor table "re.Match.end"=some Builtin.«re.Match.end»:=entryFor_of_tree (by kernel_rfl)
theorem ou (a:Value):argsOk "re.Match.end" ⟨[a],[]⟩:=by unfold argsOk;kernel_rfl
theorem kT:PlainAttrs "re.Match":=⟨⟨"object.__getattribute__",by rw[typeLookup_type,builtinLookup_eq_fast];kernel_rfl,by decide +kernel⟩,by rw[typeLookup_type,builtinLookup_eq_fast];kernel_rfl⟩
theorem sd {M:Model}{r:Addr}{e:Int}{own:Addr→Prop}(m:IsM s.heap own r e){pl:Sem Bool}{Q:Value×List Value→Shared→Prop}{E:Value→Shared→Prop}(h:Q (.builtin "re.Match.end",[.ref r]) s) :
  wpAny M A (getMethod (.ref r) "end" pl) Q E s:=by
 obtain⟨fs,tup,i,ep,g1,_⟩:=m.ob
 have hT:s.TypeIs (.ref r) "re.Match":=⟨_,g1,rfl⟩
 with_reducible exact getMethod_builtin hT kT iL ol (fun a q=>by (injection q with q;subst q);exact⟨_,g1,rfl⟩) h
theorem wj {r:Addr}{e:Int}{own:Addr→Prop}(m:IsM s.heap own r e){Q:Value→Shared→Prop}{E:Value→Shared→Prop}(h:∀t tk,Q (.int e t) {s with toks:=tk}):wpAny (model prog w) A (call (.builtin "re.Match.end") [.ref r]) Q E s:=by
 obtain⟨fs,tup,i,ep,g1,g2,g3,_⟩:=m.ob
 refine wpAny_call_entry iL ⟨_,g1,rfl⟩ l7 ?_ (ou _)
 unfold Builtin.«re.Match.end» Re.reOneGroup
 refine wpAny_bind (wpAny_bind (wpAny_of_eq (a:=(.ref r,[])) rfl ?_))
 unfold Re.reFound
 refine wpAny_bind (wpAny_bind (wpAny_fieldsOf g1 rfl ?_))
 rw[g2]
 refine wpAny_bind ?_
 show wpAny _ _ (seqItems? (.ref tup)>>=fun o=>pure ((o.getD #[]).map Re.reRawOf)) _ _ _
 refine wpAny_bind (wpAny_seqItems g3 rfl (wpAny_pure (wpAny_pure (wpAny_pure ?_))))
 have e1:(#[Value.int i 0,Value.int e 0].map Re.reRawOf).getD 1 (-1)=e:=by simp[Re.reRawOf]
 refine wpAny_bind (wpAny_mkInt (wpAny_pure ⟨_,rfl,?_⟩))
 show Q (.int ((#[Value.int i 0,Value.int e 0].map Re.reRawOf).getD 1 (-1)) s.toks) _
 rw[e1];exact h s.toks (s.toks+1)
end
end Mine
end
section
namespace Mine
open PySem PyProof.Rows PySem.W
inductive IE where
 |c (d:D)|v (i:Nat)|g (u:V)
 |bin (op:Operator) (a b:IE)
 |cmp (op:CmpOp) (a b:IE)
 |not (a:IE)
 |and (a b:IE)|or (a b:IE)
 |ite (t a b:IE)
 |item (a i:IE)
 |slice (a lo hi:IE)
 |attr (a:IE) (nm:Str)
 |bnd (a:IE) (k:Nat)
 |tup (es:List IE)|lst (es:List IE) (k:Option Nat)
 |call (f:IE) (es:List IE) (k:Option Nat)
 |meth (o:IE) (m:Mn) (es:List IE)
 |umeth (o:IE) (f:Addr) (nm:Str) (es:List IE)
 |make (C:Addr) (es:List IE) (k dk:Nat)
 |repl (o:IE) (y z:Str)
 |trans (o:IE) (d:Addr)
 |comp (elt iter:IE) (test:Option IE) (frees:List Nat) (kk:Nat)
inductive IS where
 |asg (i:Nat) (e:IE)
 |asg2 (i j:Nat) (e:IE)
 |asgA2 (o:IE) (nm:Str) (j:Nat) (e:IE)
 |asgA (o:IE) (nm:Str) (e:IE)
 |asgC (i:Nat) (e:IE)
 |unp2 (i j:Nat) (a b:IE)
 |unpT (i j:Nat) (e:IE)
 |unpA (o1:IE) (n1:Str) (o2:IE) (n2:Str) (a b:IE)
 |del_ (a:IE) (i:IE)
 |if_ (t:IE) (a b:List IS)
 |while_ (t:IE) (a b:List IS)
 |for_ (i:Nat) (it:IE) (a:List IS)
 |ret (e:Option IE)
 |assert (t:IE)
 |expr (e:IE)
 |cont|brk
structure Tb where
 names:List Str
 kinds:List (Str×NameKind)
 G:Str→Option V
 cell:Pos→Option Nat
 mak:Str→Pos→Option (Addr×Nat×Nat)
 meth:Str→Option Addr
noncomputable def aL:List Str→Str→Option Nat
 | [],_=>none
 |y::r,x=>if y=x then some 0 else (aL r x).map (·+1)
noncomputable def gw (x:Str):Bool:=!(x==("__debug__":Str))&&!(x==("__classdict__":Str))
noncomputable def gq (T:Tb)(x:Str):Option IE:=
 if gw x then (match aL T.names x with
  |some i=>some (.v i)
  |none=>if T.kinds.lookup x=some .globalImplicit then (T.G x).map .g else none) else none
noncomputable def wq (nm:Str):Option Mn:=[Mn.find,.rfind,.end_,.append,.pop].find? fun m=>nm==m.nm
noncomputable def bK (es:List Expr):Bool:=es.all fun e=>!cz e
noncomputable def eH (T:Tb)(x:Str)(scope:Scope):Option (List Str×List Nat):=
 let fs:=(scope.names.filter fun p=>p.2==.free).map (·.1)
 (fs.mapM (aL T.names)).map fun is=>(fs,is)
noncomputable def dX (T:Tb)(x:Str)(scope:Scope):Bool:=
 (scope.names.all fun p=>p.2 != .cell)&&scope.kind==.function&&(scope.names.all fun p=>p.2 != .local||scope.names.lookup p.1==some .local)&&scope.names.lookup x==some .local &&
 (scope.names.all fun p=>p.2 != .free||(T.kinds.lookup p.1==some .cell&&scope.names.lookup p.1==some .free)) &&
 decide ((x::(scope.names.filter fun p=>p.2==.free).map (·.1)).Nodup)
noncomputable def eg (e:Expr):Bool:=fg e
noncomputable def qS:Const→Option IE
 | .int i=>some (.c (.int i))
 | .str x=>some (.c (.str x))
 | .bool b=>some (.c (.bool b))
 | .none=>some (.c .none)
 |_=>none
noncomputable def w7 (a:Expr):Option IE:=match gz a with
 |some (.int i)=>some (.c (.int (-i)))
 |_=>none
noncomputable def unE (f:Expr→Option IE)(op:UnaryOp)(a:Expr):Option IE:=match op with
 | .Not=>do return .not (←f a)
 | .USub=>w7 a
 |_=>none
noncomputable def nQ (f:Expr→Option IE)(op:BoolOp):List Expr→Option IE
 | []=>none
 |a::r=>match r with
  | []=>f a
  |_::_=>match op with
   | .And=>do return .and (←f a) (←nQ f op r)
   | .Or=>do return .or (←f a) (←nQ f op r)
noncomputable def uN (f:Expr→Option IE)(op:BoolOp)(es:List Expr):Option IE:=match es with
 |_::_::_=>nQ f op es
 |_=>none
noncomputable def yN (f:Expr→Option IE)(T:Tb)(a:Expr)(ops:List CmpOp)(bs:List Expr):Option IE:=match ops,bs with
 | [op],[b]=>if fg b then do return .cmp op (←f a) (←f b) else none
 |_,_=>none
noncomputable def wW (f:Expr→Option IE):Option Expr→Option IE
 |none=>some (.c .none)
 |some e=>f e
noncomputable def wA (f:Expr→Option IE)(T:Tb)(a i:Expr):Option IE:=
 if cT i then (do return .item (←f a) (←f i))
 else match ms i with
  |some (lo,hi,none)=>do return .slice (←f a) (←wW f lo) (←wW f hi)
  |_=>none
noncomputable def rj (f:Expr→Option IE)(T:Tb)(a:Expr)(nm:Str)(pos:Pos):Option IE:=
 if be a then (if nm=Mn.append.nm then do return .bnd (←f a) (←T.cell pos) else do return .attr (←f a) nm) else none
noncomputable def ec (f:Expr→Option IE):List Expr→Option (List IE)
 | []=>some []
 |e::r=>do return (←f e)::(←ec f r)
noncomputable def two (args:List Expr):Option (Expr×Expr):=match args with
 | [a,b]=>some (a,b)
 |_=>none
noncomputable def one (args:List Expr):Option Expr:=match args with
 | [a]=>some a
 |_=>none
noncomputable def pA (a:Expr):Option Str:=match gz a with
 |some (.str x)=>some x
 |_=>none
noncomputable def yX (e:IE):Option Value:=match e with
 | .g u=>(match u with
  | .val w=>some w
  |_=>none)
 |_=>none
noncomputable def vH (e:IE):Option Addr:=yX e>>=vZ
theorem mV {e:IE}{a:Addr}(h:vH e=some a):e=.g (.val (.ref a)):=by
 cases e with
 |g u=>cases u with
  |val w=>exact congrArg (fun w=>IE.g (.val w)) (ja h)
  |_=>contradiction
 |_=>contradiction
noncomputable def qP (f:Expr→Option IE)(T:Tb)(o:Expr)(nm:Str)(args:List Expr):Option IE:=
 if nm=Str.ofString "replace" then (do
  let (a,b) ←two args
  let y ←pA a
  let z ←pA b
  return .repl (←f o) y z)
 else if nm=Str.ofString "translate" then (do
  let (t,_) ←b7 (←one args)
  let n ←gq T t
  let d ←vH n
  return .trans (←f o) d)
 else match wq nm with
  |some m=>do return .meth (←f o) m (←ec f args)
  |none=>do return .umeth (←f o) (←T.meth nm) nm (←ec f args)
noncomputable def fnE (f:Expr→Option IE)(T:Tb)(x:Str)(args:List Expr)(pos:Pos):Option IE:=match T.mak x pos with
 |some (C,k,dk)=>(do
  let n ←gq T x
  let C' ←vH n
  if C'=C then do return .make C (←ec f args) k dk else none)
 |none=>do return .call (←gq T x) (←ec f args) (T.cell pos)
noncomputable def qs (f:Expr→Option IE)(T:Tb)(g:Expr)(args:List Expr)(kws:List Keyword)(pos:Pos):Option IE:=
 if kws.isEmpty&&bK args then (match ea g with
  |some (o,nm,apos)=>if be o&&decide (args.length<30)&&(apos.endLine==pos.line) then qP f T o nm args else none
  |none=>match b7 g with
   |some (x,_)=>fnE f T x args pos
   |none=>none)
 else none
noncomputable def iz (T:Tb)(x:Str)(fs:List Str)(scope:Scope):Tb:={T with names:=x::fs,kinds:=scope.names}
noncomputable def lcE (f:Tb→Expr→Option IE)(T:Tb)(elt:Expr)(gs:List Comprehension)(scope:Scope)(pos:Pos):Option IE:=match gs with
 | [g]=>do
  let (x,_) ←b7 g.target
  if g.is_async==0&&dX T x scope&&eg g.iter&&gw x then do
   let (fs,is) ←eH T x scope
   let k ←T.cell pos
   let e ←f (iz T x fs scope) elt
   let it ←f T g.iter
   match g.ifs with
   | []=>some (.comp e it none is k)
   |t::r=>if r.isEmpty then do return .comp e it (some (←f (iz T x fs scope) t)) is k else none
  else none
 |_=>none
noncomputable def aG:Nat→Tb→Expr→Option IE
 |0,_,_=>none
 |n+1,T,e=>match e with
  | .Constant k _ _=>qS k
  | .Name x _=>gq T x
  | .BinOp a op b _=>do return .bin op (←aG n T a) (←aG n T b)
  | .UnaryOp op a _=>unE (aG n T) op a
  | .BoolOp op es _=>uN (aG n T) op es
  | .Compare a ops bs _=>yN (aG n T) T a ops bs
  | .Subscript a i _=>wA (aG n T) T a i
  | .Attribute a nm pos=>rj (aG n T) T a nm pos
  | .Tuple es _ _=>if bK es then do return .tup (←ec (aG n T) es) else none
  | .List es pos=>if bK es then do return .lst (←ec (aG n T) es) (T.cell pos) else none
  | .IfExp t a b _=>do return .ite (←aG n T t) (←aG n T a) (←aG n T b)
  | .Call g args kws pos=>qs (aG n T) T g args kws pos
  | .ListComp elt gs scope pos=>lcE (aG n) T elt gs scope pos
  |_=>none
noncomputable def m0 (T:Tb)(x:Str):Bool:=T.kinds.lookup x==some .local||T.kinds.lookup x==some .cell
noncomputable def bm (T:Tb)(x:Str):Option Nat:=if m0 T x then aL T.names x else none
noncomputable def io (T:Tb)(x:Str)(pos':Pos)(value:Expr):Bool:=match lcP value with
 |some k=>T.kinds.lookup x==some .local&&pos'.line==k.2.line&&!(k.1.names.any fun (n,k)=>n==x&&(k==.local||k==.cell))
 |none=>false
noncomputable def jX (T:Tb)(x:Str)(px:Pos)(y:Str)(py:Pos)(a b:Expr):Bool:=
 T.kinds.lookup x==some .local&&T.kinds.lookup y==some .local&&py.line==px.line&&!(x==y)&&!cz a&&!cz b&&!([a,b].all (foldedForSure 8))&&!([a,b].all (constantsAlone 8))
noncomputable def qD (f:Expr→Option IE)(T:Tb)(x:Str)(px:Pos)(y:Str)(py:Pos)(value:Expr):Option IS:=match oQ value with
 |some vs=>two vs>>=fun r=>if jX T x px y py r.1 r.2 then (do return .unp2 (←bm T x) (←bm T y) (←f r.1) (←f r.2)) else none
 |none=>if bu value then none else do return .unpT (←bm T x) (←bm T y) (←f value)
noncomputable def qv (f:Expr→Option IE)(o1:Expr)(n1:Str)(o2:Expr)(n2:Str)(value:Expr):Option IS:=
 oQ value>>=fun vs=>two vs>>=fun r=>if bK [r.1,r.2] then (do return .unpA (←f o1) n1 (←f o2) n2 (←f r.1) (←f r.2)) else none
noncomputable def vv (f:Expr→Option IE)(T:Tb)(t value:Expr):Option IS:=
 oQ t>>=fun es=>two es>>=fun q=>match b7 q.1 with
  |some q1=>b7 q.2>>=fun q2=>qD f T q1.1 q1.2 q2.1 q2.2 value
  |none=>ea q.1>>=fun q1=>ea q.2>>=fun q2=>qv f q1.1 q1.2.1 q2.1 q2.2.1 value
noncomputable def v8 (f:Expr→Option IE)(T:Tb)(t value:Expr):Option IS:=match b7 t with
 |some (x,p')=>if bu value then (if io T x p' value then do return .asgC (←bm T x) (←f value) else none) else do return .asg (←bm T x) (←f value)
 |none=>match ea t with
  |some (o,nm,_)=>if bu value then none else do return .asgA (←f o) nm (←f value)
  |none=>vv f T t value
noncomputable def asg2 (f:Expr→Option IE)(T:Tb)(t1 t2 value:Expr):Option IS:=do
 let (y,_) ←b7 t2
 if bu value then none else match b7 t1 with
  |some (x,_)=>do return .asg2 (←bm T x) (←bm T y) (←f value)
  |none=>do
   let (o,nm,_) ←ea t1
   return .asgA2 (←f o) nm (←bm T y) (←f value)
noncomputable def yg (f:Expr→Option IE)(T:Tb)(ts:List Expr)(value:Expr):Option IS:=match ts with
 | [t]=>v8 f T t value
 | [t1,t2]=>asg2 f T t1 t2 value
 |_=>none
noncomputable def xS (f:Expr→Option IE)(g:List Stmt→Option (List IS))(T:Tb)(t it:Expr)(a b:List Stmt):Option IS:=do
 let (x,_) ←b7 t
 if b.isEmpty&&eg it then do return .for_ (←bm T x) (←f it) (←g a) else none
noncomputable def wQ (f:Expr→Option IE)(ts:List Expr):Option IS:=
 one ts>>=fun t=>yM t>>=fun q=>do return .del_ (←f q.1) (←f q.2)
noncomputable def xM (f:Expr→Option IE):Option Expr→Option IS
 |none=>some (.ret none)
 |some e=>do return .ret (some (←f e))
mutual
noncomputable def vh:Nat→Tb→Stmt→Option IS
 |0,_,_=>none
 |n+1,T,st=>match st with
  | .Assign ts value _=>yg (aG n T) T ts value
  | .If t a b _=>do return .if_ (←aG n T t) (←bG n T a) (←bG n T b)
  | .While t a b _=>do return .while_ (←aG n T t) (←bG n T a) (←bG n T b)
  | .For t it a b _=>xS (aG n T) (bG n T) T t it a b
  | .Return e _=>xM (aG n T) e
  | .Delete ts _=>wQ (aG n T) ts
  | .Assert t m _=>if m.isNone then do return .assert (←aG n T t) else none
  | .Expr e _=>if bu e then none else do return .expr (←aG n T e)
  | .Continue _=>some .cont
  | .Break _=>some .brk
  |_=>none
noncomputable def bG:Nat→Tb→List Stmt→Option (List IS)
 |0,_,_=>none
 |_+1,_,[]=>some []
 |n+1,T,st::r=>do return (←vh n T st)::(←bG n T r)
end
noncomputable abbrev Sl:=List (Option V)
noncomputable def aI (l:Sl)(i:Nat):Option V:=match l[i]? with
 |some o=>o
 |none=>none
structure Pm where
 C:Addr
 attr:Str→Bool
 fn:Addr→Spec
 isFn:Addr→Bool
 init:Addr
 td:Addr
 tr:Nat→Nat
def eW (c c':aa):Prop:=∀k∈dom c,k∈dom c'
noncomputable def asD:V→Option D
 | .d x=>some x
 |_=>none
noncomputable def lu:List V→Option (List D)
 | []=>some []
 | .d x::r=>(lu r).map (x::·)
 |_::_=>none
def xw (P:Pm)(c:aa)(a:Addr)(vs:List V)(K:V→aa→Prop):Prop:=P.isFn a=true∧P.fn a vs c (fun v c'=>eW c c'∧K v c')
def yQ (c:aa)(j:Nat)(vs:List V)(K:V→aa→Prop):Prop:=e9 (ae c j) fun id g=>id="list.append"∧v1 vs fun v=>onD v fun d=>cy (ae c g) fun xs=>xs.length≤big∧K (.d .none) (cset c g (.list (xs++[d])))
def ef (P:Pm)(c:aa)(k:Option Nat)(u:V)(vs:List V)(K:V→aa→Prop):Prop:=match u with
 | .bi b=>biK c k b vs K
 | .val w=>aw (vZ w) fun a=>xw P c a vs K
 | .obj j=>yQ c j vs K
 |_=>False
def nx (c:aa)(u:V)(m:Mn)(vs:List V)(K:V→aa→Prop):Prop:=match u with
 | .d x=>sD x fun x=>m.isS=true∧mM m x vs c K
 | .obj k=>m.isLi=true∧cy (ae c k) fun xs=>nJ m k xs vs c K
 | .mt e=>m=.end_∧vs=[]∧K (.d (.int e)) c
 |_=>False
noncomputable def xu:Mn→Bool
 | .end_=>true
 |_=>false
def dz (c:aa)(u:V)(m:Mn):Prop:=match u with
 | .d x=>sD x fun _=>m.isS=true
 | .obj k=>m.isLi=true∧cy (ae c k) fun _=>True
 | .mt _=>xu m=true
 |_=>False
def gF (P:Pm)(c:aa)(u:V)(K:List (Str×V)→Prop):Prop:=gT u fun k=>ey (ae c k) fun C dk=>C=P.C∧wY (ae c dk) K
def xU (rE:IE→Sl→aa→(V→aa→Prop)→Prop)(rT:IE→Sl→aa→(Bool→aa→Prop)→Prop)(elt:IE)(l:Sl)(c:aa)(Y:V→aa→Prop)(N:aa→Prop):Option IE→Prop
 |none=>rE elt l c Y
 |some t=>rT t l c fun r c2=>(r=true→rE elt l c2 Y)∧(r=false→N c2)
def kF (rE:IE→Sl→aa→(V→aa→Prop)→Prop)(rT:IE→Sl→aa→(Bool→aa→Prop)→Prop)(elt:IE)(test:Option IE)(fr:Sl)(kk:Nat)(K:V→aa→Prop)(v:V)(c1:aa):Prop:=
 fe v∧∃xs,cs v=some xs∧xs.length≤big∧kk∉dom c1∧∃I:Nat→List D→aa→Prop,I 0 [] c1∧
  (∀i d acc c',xs[i]?=some d→I i acc c'→kk∉dom c'∧
   xU rE rT elt (some (.d d)::fr) (c'++[(kk,.list acc)]) (fun v c3=>∃d' c4,v=.d d'∧c3=c4++[(kk,.list acc)]∧kk∉dom c4∧I (i+1) (acc++[d']) c4) (fun c2=>∃c4,c2=c4++[(kk,.list acc)]∧kk∉dom c4∧I (i+1) acc c4) test)∧
  (∀acc c',I xs.length acc c'→kk∉dom c'∧b6 (c'++[(kk,.list acc)]) c' c'∧K (.d (.lst acc)) c')
theorem mG {rE:IE→Sl→aa→(V→aa→Prop)→Prop}{rT:IE→Sl→aa→(Bool→aa→Prop)→Prop}{elt:IE}{test:Option IE}{fr:Sl}{kk:Nat}{K K':V→aa→Prop}{v:V}{c1:aa}(h:kF rE rT elt test fr kk K v c1)(hK:∀v c,K v c→K' v c):kF rE rT elt test fr kk K' v c1:=by
 obtain⟨a1,xs,a2,a3,a4,I,a5,a6,a7⟩:=h
 exact⟨a1,xs,a2,a3,a4,I,a5,a6,fun acc c q=>⟨(a7 acc c q).1,(a7 acc c q).2.1,hK _ _ (a7 acc c q).2.2⟩⟩
def wE1 (P:Pm)(rE:IE→Sl→aa→(V→aa→Prop)→Prop)(rT:IE→Sl→aa→(Bool→aa→Prop)→Prop)(rEs:List IE→Sl→aa→(List V→aa→Prop)→Prop)(e:IE)(l:Sl)(c:aa)(K:V→aa→Prop):Prop:=
 match e with
  | .c d=>K (.d d) c
  | .v i=>aw (aI l i) fun v=>K v c
  | .g u=>K u c
  | .bin op a b=>rE a l c fun u c1=>rE b l c1 fun v c2=>hH c2 op u v fun d=>K (.d d) c2
  | .cmp op a b=>rE a l c fun u c1=>rE b l c1 fun v c2=>eJ c2 op u v fun r=>K (.d (.bool r)) c2
  | .not a=>rE a l c fun u c1=>bJ c1 u fun r=>K (.d (.bool !r)) c1
  | .and a b=>rE a l c fun u c1=>bJ c1 u fun r=>(r=false→K u c1)∧(r=true→rE b l c1 K)
  | .or a b=>rE a l c fun u c1=>bJ c1 u fun r=>(r=true→K u c1)∧(r=false→rE b l c1 K)
  | .item a i=>rE a l c fun u c1=>rE i l c1 fun v c2=>ee c2 u v fun d=>K (.d d) c2
  | .slice a lo hi=>rE a l c fun u c1=>rE lo l c1 fun v c2=>rE hi l c2 fun w c3=>jE c3 u v w fun d=>K (.d d) c3
  | .attr a nm=>rE a l c fun u c1=>P.attr nm=true∧gF P c1 u fun fs=>aw (look fs nm) fun v=>iI v=true∧K v c1
  | .bnd a k=>rE a l c fun u c1=>gT u fun j=>cy (ae c1 j) fun _=>k∉dom c1∧K (.obj k) (c1++[(k,.bound "list.append" j)])
  | .tup es=>rEs es l c fun vs c1=>aw (lu vs) fun ds=>ds.length≤big∧K (.d (.tup ds)) c1
  | .lst es k=>rEs es l c fun vs c1=>aw (lu vs) fun ds=>ds.length≤big∧ci c1 k ds K
  | .call f es k=>rE f l c fun u c1=>rEs es l c1 fun vs c2=>ef P c2 k u vs K
  | .meth o m es=>rE o l c fun u c1=>dz c1 u m∧rEs es l c1 fun vs c2=>nx c2 u m vs K
  | .umeth o f nm es=>rE o l c fun u c1=>(gF P c1 u fun fs=>look fs nm=none)∧rEs es l c1 fun vs c2=>P.isFn f=true∧P.fn f (u::vs) c2 (fun v c3=>eW c2 c3∧K v c3)
  | .make C es _ _=>C=P.C∧rEs es l c fun vs c1=>∃k dk,k∉dom c1∧dk∉dom c1∧k≠dk∧P.fn P.init (.obj k::vs) (c1++[(dk,.ns [])]++[(k,.inst C dk)]) (fun v c2=>v=.d .none∧eW (c1++[(dk,.ns [])]++[(k,.inst C dk)]) c2∧K (.obj k) c2)
  | .repl o y z=>rE o l c fun u c1=>fL u fun x=>x.length≤big∧z.length≤14∧(y==z)=false∧K (.d (.str (Txt.replace x y z))) c1
  | .trans o d=>rE o l c fun u c1=>fL u fun x=>d=P.td∧(∀ch∈x.cps.toList,ch<128)∧x.length≤big∧K (.d (.str ⟨x.cps.map P.tr⟩)) c1
  | .comp elt iter test frees kk=>rE iter l c (kF rE rT elt test (frees.map (aI l)) kk K)
  | .ite t a b=>rT t l c fun r c1=>(r=true→rE a l c1 K)∧(r=false→rE b l c1 K)
def wT1 (rE:IE→Sl→aa→(V→aa→Prop)→Prop)(rT:IE→Sl→aa→(Bool→aa→Prop)→Prop)(e:IE)(l:Sl)(c:aa)(K:Bool→aa→Prop):Prop:=
 match e with
  | .cmp op a b=>rE a l c fun u c1=>rE b l c1 fun v c2=>eJ c2 op u v fun r=>K r c2
  | .not a=>rT a l c fun r c1=>K (!r) c1
  | .and a b=>rT a l c fun r c1=>(r=false→K false c1)∧(r=true→rT b l c1 K)
  | .or a b=>rT a l c fun r c1=>(r=true→K true c1)∧(r=false→rT b l c1 K)
  | .c ..=>False
  | .ite ..=>False
  |e=>rE e l c fun u c1=>bJ c1 u fun r=>K r c1
mutual
def wpE (P:Pm):Nat→IE→Sl→aa→(V→aa→Prop)→Prop
 |0,_,_,_,_=>False
 |n+1,e,l,c,K=>wE1 P (wpE P n) (wpT P n) (gv P n) e l c K
def wpT (P:Pm):Nat→IE→Sl→aa→(Bool→aa→Prop)→Prop
 |0,_,_,_,_=>False
 |n+1,e,l,c,K=>wT1 (wpE P n) (wpT P n) e l c K
def gv (P:Pm):Nat→List IE→Sl→aa→(List V→aa→Prop)→Prop
 |0,_,_,c,K=>False
 |n+1,es,l,c,K=>match es with
  | []=>K [] c
  |e::r=>wpE P n e l c fun v c1=>gv P n r l c1 fun vs c2=>K (v::vs) c2
end
structure Sg' where
 l:Sl
 c:aa
def slW (l:Sl)(c c':aa):Nat→Sl→Prop
 |_,[]=>True
 |i,none::r=>slW l c c' (i+1) r
 |i,some v'::r=>(∃v,aI l i=some v∧vW c c' v v')∧slW l c c' (i+1) r
structure Wk (pr:List Nat)(σ τ:Sg'):Prop where
 l:slW σ.l σ.c τ.c 0 τ.l
 len:τ.l.length=σ.l.length
 c:b6 σ.c τ.c τ.c
 pr:∀k∈pr,k∈dom τ.c
def a8 (P:Pm)(c:aa)(u:V)(nm:Str)(v:V)(K:aa→Prop):Prop:=gT u fun k=>ey (ae c k) fun C dk=>C=P.C∧P.attr nm=true∧wY (ae c dk) fun fs=>fs.length≤1000∧K (cset c dk (.ns (put fs nm v)))
def l2 {α:Type}(xs:List α)(K:α→α→Prop):Prop:=match xs with
 | []=>False
 |x::r=>(match r with
  | []=>False
  |y::r=>(match r with
   | []=>K x y
   |_::_=>False))
theorem wz {α:Type}{xs:List α}{K:α→α→Prop}(h:l2 xs K):∃x y,xs=[x,y]∧K x y:=by
 cases xs with
 |nil=>exact h.elim
 |cons x r=>cases r with
  |nil=>exact h.elim
  |cons y r=>cases r with
   |nil=>exact⟨x,y,rfl,h⟩
   |cons _ _=>exact h.elim
def wU (u:V)(K:D→D→Prop):Prop:=onD u fun x=>match x with
 | .tup xs=>l2 xs K
 |_=>False
def uF (c:aa)(u v:V)(K:aa→Prop):Prop:=gT u fun k=>fM v fun i=>i=-1∧cy (ae c k) fun xs=>xs≠[]∧xs.length≤big∧K (cset c k (.list xs.dropLast))
def wS1 (P:Pm)(pr:List Nat)(rE:IE→Sl→aa→(V→aa→Prop)→Prop)(rT:IE→Sl→aa→(Bool→aa→Prop)→Prop)(rB:List IS→Sg'→(F→Sg'→Prop)→Prop)(st:IS)(σ:Sg')(K:F→Sg'→Prop):Prop:=
 match st with
  | .asg i e=>rE e σ.l σ.c fun v c1=>K .next ⟨σ.l.set i (some v),c1⟩
  | .asgC i e=>rE e σ.l σ.c fun v c1=>K .next ⟨σ.l.set i (some v),c1⟩
  | .asg2 i j e=>rE e σ.l σ.c fun v c1=>K .next ⟨(σ.l.set i (some v)).set j (some v),c1⟩
  | .asgA o nm e=>rE e σ.l σ.c fun v c1=>rE o σ.l c1 fun u c2=>a8 P c2 u nm v fun c3=>K .next ⟨σ.l,c3⟩
  | .asgA2 o nm j e=>rE e σ.l σ.c fun v c1=>rE o σ.l c1 fun u c2=>a8 P c2 u nm v fun c3=>K .next ⟨σ.l.set j (some v),c3⟩
  | .unp2 i j a b=>rE a σ.l σ.c fun u c1=>rE b σ.l c1 fun v c2=>(∃x y,u=.d x∧v=.d y)∧K .next ⟨(σ.l.set j (some v)).set i (some u),c2⟩
  | .unpT i j e=>rE e σ.l σ.c fun u c1=>wU u fun x y=>K .next ⟨(σ.l.set i (some (.d x))).set j (some (.d y)),c1⟩
  | .unpA o1 n1 o2 n2 a b=>rE a σ.l σ.c fun u c1=>rE b σ.l c1 fun v c2=>dd u v fun x y=>rE o1 σ.l c2 fun u1 c3=>a8 P c3 u1 n1 (.d x) fun c4=>rE o2 σ.l c4 fun u2 c5=>a8 P c5 u2 n2 (.d y) fun c6=>K .next ⟨σ.l,c6⟩
  | .del_ a i=>rE a σ.l σ.c fun u c1=>rE i σ.l c1 fun v c2=>uF c2 u v fun c3=>K .next ⟨σ.l,c3⟩
  | .if_ t a b=>rT t σ.l σ.c fun r c1=>(r=true→rB a ⟨σ.l,c1⟩ K)∧(r=false→rB b ⟨σ.l,c1⟩ K)
  | .while_ t a b=>∃(I:Nat→Sg'→Prop) (k:Nat),I k σ∧∀k τ,I k τ→rT t τ.l τ.c fun r c1=>
    (r=true→rB a ⟨τ.l,c1⟩ fun f υ=>match f with
     | .next | .cont=>∃k' υ',k'<k∧Wk pr υ υ'∧I k' υ'
     | .brk=>K .next υ
     | .ret v=>K (.ret v) υ)∧(r=false→rB b ⟨τ.l,c1⟩ K)
  | .for_ i it a=>rE it σ.l σ.c fun v c1=>fe v∧∃xs,cs v=some xs∧∃I:Nat→Sg'→Prop,I 0 ⟨σ.l,c1⟩∧
    (∀j d τ,xs[j]?=some d→I j τ→i<τ.l.length∧rB a ⟨τ.l.set i (some (.d d)),τ.c⟩ fun f υ=>match f with
     | .next | .cont=>∃υ',Wk pr υ υ'∧I (j+1) υ'
     | .brk=>K .next υ
     | .ret v=>K (.ret v) υ)∧∀τ,I xs.length τ→K .next τ
  | .ret none=>K (.ret (.d .none)) σ
  | .ret (some e)=>rE e σ.l σ.c fun v c1=>K (.ret v) ⟨σ.l,c1⟩
  | .assert t=>rT t σ.l σ.c fun r c1=>r=true∧K .next ⟨σ.l,c1⟩
  | .expr e=>rE e σ.l σ.c fun v c1=>K .next ⟨σ.l,c1⟩
  | .cont=>K .cont σ
  | .brk=>K .brk σ
mutual
def wpS (P:Pm)(pr:List Nat):Nat→IS→Sg'→(F→Sg'→Prop)→Prop
 |0,_,_,_=>False
 |n+1,st,σ,K=>wS1 P pr (wpE P n) (wpT P n) (wpB P pr n) st σ K
def wpB (P:Pm)(pr:List Nat):Nat→List IS→Sg'→(F→Sg'→Prop)→Prop
 |0,_,_,_=>False
 |n+1,b,σ,K=>match b with
  | []=>K .next σ
  |st::r=>wpS P pr n st σ fun f τ=>match f with | .next=>wpB P pr n r τ K|f=>K f τ
end
noncomputable def ad:List Str→Sl→Loc
 |x::xs,some v::l=>(x,v)::ad xs l
 |_::xs,none::l=>ad xs l
 |_,_=>[]
theorem dR {names:List Str}:∀(l:Sl) (x:Str),x∉names→look (ad names l) x=none:=by
 induction names with
 |nil=>intro l x _;cases l<;>rfl
 |cons y ys ih=>
  intro l x h
  have h1:y≠x:=fun e=>h (e▸.head _)
  have h2:x∉ys:=fun e=>h (.tail _ e)
  cases l with
  |nil=>rfl
  |cons o l=>
   cases o with
   |none=>exact ih l x h2
   |some v=>show (if y=x then _ else _)=_;rw[if_neg h1];exact ih l x h2
theorem mB {names:List Str}:∀{x:Str} {i:Nat},aL names x=some i→x∈names∧i<names.length:=by
 induction names with
 |nil=>intro x i h;contradiction
 |cons y ys ih=>
  intro x i h
  dsimp only[aL] at h
  by_cases e:y=x
  ·rw[if_pos e] at h;(injection h with h;subst h);exact⟨e▸.head _,by simp⟩
  ·rw[if_neg e] at h
   obtain⟨j,hj,rfl⟩:=Option.map_eq_some_iff.mp h
   obtain⟨h1,h2⟩:=ih hj
   exact⟨.tail _ h1,by simp;exact h2⟩
theorem fF {names:List Str}:∀{x:Str},aL names x=none→x∉names:=by
 induction names with
 |nil=>intro x _ h;simp at h
 |cons y ys ih=>
  intro x h hm
  dsimp only[aL] at h
  by_cases e:y=x
  ·rw[if_pos e] at h;contradiction
  ·rw[if_neg e] at h
   rcases List.mem_cons.mp hm with q|q
   ·exact e q.symm
   ·exact ih (Option.map_eq_none_iff.mp h) q
theorem cq {names:List Str}(nd:names.Nodup):∀(l:Sl) {x:Str} {i:Nat},aL names x=some i→look (ad names l) x=aI l i:=by
 induction names with
 |nil=>intro l x i h;contradiction
 |cons y ys ih=>
  intro l x i h
  obtain⟨hn,nd'⟩:=List.nodup_cons.mp nd
  dsimp only[aL] at h
  by_cases e:y=x
  ·rw[if_pos e] at h;(injection h with h;subst h)
   cases l with
   |nil=>rfl
   |cons o l=>
    cases o with
    |none=>show look (ad ys l) x=none;exact dR l x (e▸hn)
    |some v=>show (if y=x then _ else _)=_;rw[if_pos e];rfl
  ·rw[if_neg e] at h
   obtain⟨j,hj,rfl⟩:=Option.map_eq_some_iff.mp h
   cases l with
   |nil=>rfl
   |cons o l=>
    have:=ih nd' l hj
    cases o with
    |none=>exact this
    |some v=>show (if y=x then _ else _)=_;rw[if_neg e];exact this
theorem rS (l:Sl)(i j:Nat)(v:Option V)(h:i<l.length):aI (l.set i v) j=if j=i then v else aI l j:=by
 unfold aI
 rw[List.getElem?_set]
 by_cases e:i=j
 ·subst e;simp[h]
 ·rw[if_neg e,if_neg (fun q=>e q.symm)]
theorem lR {names:List Str}:∀{x y:Str} {i:Nat},aL names x=some i→aL names y=some i→x=y:=by
 induction names with
 |nil=>intro x y i h;contradiction
 |cons z zs ih=>
  intro x y i h1 h2
  dsimp only[aL] at h1 h2
  by_cases e1:z=x<;>by_cases e2:z=y
  ·exact e1.symm.trans e2
  ·rw[if_pos e1] at h1;rw[if_neg e2] at h2;(injection h1 with h1;subst h1)
   obtain⟨j,_,q⟩:=Option.map_eq_some_iff.mp h2;contradiction
  ·rw[if_neg e1] at h1;rw[if_pos e2] at h2;(injection h2 with h2;subst h2)
   obtain⟨j,_,q⟩:=Option.map_eq_some_iff.mp h1;contradiction
  ·rw[if_neg e1] at h1;rw[if_neg e2] at h2
   obtain⟨j,hj,rfl⟩:=Option.map_eq_some_iff.mp h1
   obtain⟨j',hj',q⟩:=Option.map_eq_some_iff.mp h2
   (injection q with q;subst q);exact ih hj hj'
theorem gx {names:List Str}(nd:names.Nodup){l:Sl}(hl:l.length=names.length){x:Str}{i:Nat}(h:aL names x=some i)(v:V)(y:Str) :
  look (ad names (l.set i (some v))) y=look (put (ad names l) x v) y:=by
 rw[am]
 obtain⟨hx,hi⟩:=mB h
 cases hy:aL names y with
 |none=>
  have hn:=fF hy
  rw[dR _ _ hn,dR _ _ hn,if_neg (fun (e:y=x)=>hn (e▸hx))]
 |some j=>
  rw[cq nd _ hy,cq nd _ hy,rS _ _ _ _ (by rw[hl];exact hi)]
  by_cases e:y=x
  ·subst e;rw[hy] at h;(injection h with h;subst h);rw[if_pos rfl,if_pos rfl]
  ·rw[if_neg e,if_neg (fun (q:j=i)=>e (lR (q▸hy) h))]
theorem Fst.look {hb h:Heap}{pr:List Nat}{env:Env}{l l':Loc}{c:aa}{α:Al}(F:Fst hb pr env l c α h)(e:∀x v,look l' x=some v→Mine.look l x=some v):Fst hb pr env l' c α h:=
 ⟨F.toCst,F.ns,F.cel,fun x v q=>F.loc x v (e x v q),F.fr⟩
theorem OkE.look {M:Model}{A:Around}{hb:Heap}{pr:List Nat}{env:Env}{l l':Loc}{c:aa}{β γ:Type}{I:aa→Al→Heap→β→γ→Prop}{t:Sem γ}{K:β→aa→Prop}(e:∀x,Mine.look l' x=Mine.look l x)
  (h:OkE M A hb pr env I l c t K):OkE M A hb pr env I l' c t K:=
 fun α s Q hs F hq=>h α s Q hs (F.look fun x v q=>by rw[e];exact q) fun b c' α' g h' tk ht k f le i=>hq b c' α' g h' tk ht k (f.look fun x v q=>by rw[←e];exact q) le i
theorem OkE.mono {M:Model}{A:Around}{hb:Heap}{pr:List Nat}{env:Env}{l:Loc}{c:aa}{β γ:Type}{I:aa→Al→Heap→β→γ→Prop}{t:Sem γ}{K K':β→aa→Prop}
  (h:OkE M A hb pr env I l c t K) (hK:∀b c',K b c'→K' b c'):OkE M A hb pr env I l c t K':=
 fun α s Q hs F hq=>h α s Q hs F fun b c' α' g h' tk ht k f le i=>hq b c' α' g h' tk ht (hK b c' k) f le i
def dJ (prog:Program)(w:World)(hb:Heap)(x:Str)(v:V):Prop:=
 ∃g,(∀c α h,IsV c α h v g)∧∀(env:Env) (A:Around) (s:Shared) (Q:Value→Shared→Prop),EnvOk env→env.globals=mainGlobals→env.builtins=builtinsNs→env.kindOf x=some .globalImplicit→
  (∀b o,hb.get? b=some o→s.heap.get? b=some o)→Q g s→wpAny (model prog w) A (loadName env x) Q no s
structure Cx0 (prog:Program)(w:World)(hb:Heap)(K:Frag)(T:Tb)(P:Pm)(dep:Nat):Prop where
 kin:K.In hb
 glob:∀x v,T.G x=some v→dJ prog w hb x v
 cls:ClsOk K P.C
 attr:∀nm,P.attr nm=true→findIn K (.ref P.C) nm=some none
 meth:∀nm f,T.meth nm=some f→findIn K (.ref P.C) nm=some (some (.ref f))∧typeIn K (.ref f)=some (.type "function")
 fn:∀a,P.isFn a=true→(∃k,Looks (model prog w) hb (keeperOf (.ref a)) k)∧FnOk prog w hb dep a (P.fn a)
 makes:makesIn K P.C=true
 ini:findIn K (.ref P.C) "__init__"=some (some (.ref P.init))∧typeIn K (.ref P.init)=some (.type "function")
 inif:FnOk prog w hb dep P.init (P.fn P.init)
 keep:keepIn K (.ref P.C)=true
 tab:∃C',TabOk K P.td C' P.tr
structure CxE (env:Env)(T:Tb):Prop where
 eo:EnvOk env
 gl:env.globals=mainGlobals
 bl:env.builtins=builtinsNs
 kg:∀x,T.kinds.lookup x=some .globalImplicit→env.kindOf x=some .globalImplicit
 kl:∀x,T.kinds.lookup x=some .local→env.kindOf x=some .local
 kc:∀x,T.kinds.lookup x=some .cell→env.kindOf x=some .cell∧∃b,env.cells.lookup x=some b
 nd:T.names.Nodup
section
variable {prog:Program}{w:World}{A:Around}{hb:Heap}{pr:List Nat}{env:Env}{T:Tb}{P:Pm}{K₀:Frag}{dep:Nat}
theorem jB {x:Str}(h:gw x=true):(x==("__debug__":Str))=false∧(x==("__classdict__":Str))=false:=by
 unfold gw at h
 simp only[Bool.and_eq_true,Bool.not_eq_true'] at h
 exact h
theorem iM {T:Tb}{x:Str}{e:IE}(h:gq T x=some e):gw x=true∧((∃i,aL T.names x=some i∧e=.v i)∨∃v,T.kinds.lookup x=some .globalImplicit∧T.G x=some v∧e=.g v):=by
 obtain⟨hn,h⟩:=ifO h
 refine⟨hn,?_⟩
 cases q:aL T.names x with
 |some i=>rw[q] at h;exact .inl ⟨i,rfl,(Option.some.inj h).symm⟩
 |none=>
  rw[q] at h
  obtain⟨hk,h⟩:=ifO h
  obtain⟨v,hv,e⟩:=Option.map_eq_some_iff.mp h
  exact .inr ⟨v,hk,hv,e.symm⟩
theorem fW (X:Cx0 prog w hb K₀ T P dep)(E:CxE env T){x:Str}{p:Pos}{e:IE}(h:gq T x=some e){n:Nat}{l:Sl}{c:aa}{K:V→aa→Prop}(hw:wpE P n e l c K) :
  OkE (model prog w) A hb pr env IsV (ad T.names l) c (eval (.Name x p) env) K:=by
 obtain⟨hn,h⟩:=iM h
 obtain⟨n1,n2⟩:=jB hn
 cases n with
 |zero=>exact False.elim hw
 |succ n=>
  rcases h with ⟨i,hi,rfl⟩|⟨v,hk,hv,rfl⟩
  ·obtain⟨v,hv,hw⟩:=ax (f:=fun v=>K v c) (o:=aI l i) hw
   exact fun α s Q hs F hq=>wpAny_Name (th E.eo F (by rw[cq E.nd _ hi];exact hv) n2 fun g i=>hq v c α g s.heap s.toks hs hw F (.refl ..) i) n1
  ·obtain⟨g,ig,ld⟩:=X.glob x v hv
   exact fun α s Q hs F hq=>wpAny_Name (ld env A s Q E.eo E.gl E.bl (E.kg x hk) F.base (hq v c α g s.heap s.toks hs hw F (.refl ..) (ig _ _ _))) n1
theorem nM {c:aa}{α:Al}{h:Heap}{vs:List V}{ds:List D}{ws:List Value}(e:lu vs=some ds)(i:IsVs c α h vs ws):IsDs h (aC c α) ds ws:=by
 induction i generalizing ds with
 |nil=>exact Option.some.inj e▸.nil
 | @cons v w vs ws i r ih=>
  cases v with
  |d x=>
   obtain⟨ds',h1,rfl⟩:=Option.map_eq_some_iff.mp e
   exact .cons i (ih h1)
  |_=>contradiction
theorem cO {α β γ:Type}{a:Option α}{b:Option β}{f:α→β→γ}{r:γ}(h:(do return f (←a) (←b))=some r):∃x y,a=some x∧b=some y∧r=f x y:=by
 cases a with
 |none=>contradiction
 |some x=>cases b with
  |none=>contradiction
  |some y=>(injection h with h;subst h);exact⟨x,y,rfl,rfl,rfl⟩
theorem dC {α γ:Type}{a:Option α}{f:α→γ}{r:γ}(h:(do return f (←a))=some r):∃x,a=some x∧r=f x:=by
 cases a with
 |none=>contradiction
 |some x=>(injection h with h;subst h);exact⟨x,rfl,rfl⟩
theorem eR {α β δ γ:Type}{a:Option α}{b:Option β}{d:Option δ}{f:α→β→δ→γ}{r:γ}(h:(do return f (←a) (←b) (←d))=some r):∃x y z,a=some x∧b=some y∧d=some z∧r=f x y z:=by
 cases a with
 |none=>contradiction
 |some x=>cases b with
  |none=>contradiction
  |some y=>cases d with
   |none=>contradiction
   |some z=>(injection h with h;subst h);exact⟨x,y,z,rfl,rfl,rfl,rfl⟩
end
section
variable {prog:Program}{w:World}{A:Around}{hb:Heap}{pr:List Nat}{env:Env}{T:Tb}{P:Pm}{K₀:Frag}{dep:Nat}
theorem rl {l:Loc}{c:aa}{K:V→aa→Prop}{d:D}{k:Const}{n:Nat}{p:Pos}(hd:(match k with | .int i=>d=.int i | .str x=>d=.str x | .bool b=>d=.bool b | .none=>d=.none|_=>False))(h:K (.d d) c) :
  OkE (model prog w) A hb pr env IsV l c (eval (.Constant k n p) env) K:=by
 refine OkE.mk fun α s Q hs F hq=>?_
 cases k with
 |int i=>(subst hd);exact wpAny_Constant_int (hq _ c α _ s.heap _ h F (.refl ..) (.int _ _))
 |str x=>(subst hd);exact wpAny_Constant_str (hq _ c α _ s.heap _ h F (.refl ..) (.str _ _))
 |bool b=>(subst hd);exact wpAny_pure (hq _ c α _ s.heap s.toks h F (.refl ..) (.bool _))
 |none=>(subst hd);exact wpAny_pure (hq _ c α _ s.heap s.toks h F (.refl ..) .none)
 |_=>exact hd.elim
theorem kh (X:Cx0 prog w hb K₀ T P dep)(R:Room (dep+1) A){l:Loc}{c:aa}{k:Option Nat}{u:V}{vs:List V}{K:V→aa→Prop}(h:ef P c k u vs K){f:Value}{ws:List Value}{α:Al}{s:Shared}(hs:1≤s.toks)
  (F:Fst hb pr env l c α s.heap) (hf:IsV c α s.heap u f) (iv:IsVs c α s.heap vs ws) {Q:Value→Shared→Prop}
  (hq:∀v c'' α'' g h'' tk,1≤tk→K v c''→Fst hb pr env l c'' α'' h''→Le c α s.heap c'' α'' h''→IsV c'' α'' h'' v g→Q g {s with heap:=h'',toks:=tk}):wpAny (model prog w) A (call f ws) Q no s:=by
 refine av hs ?_
 cases u with
 |bi b=>
  obtain rfl:f=_:=hf
  exact xo R.handled F h iv fun v c' α' g h' tk hK F' L' i ht=>hq v c' α' g h' tk ht hK F' L' i
 |val w'=>
  obtain⟨a,ha,hfn,hP⟩:=ax h
  obtain rfl:=ja ha
  obtain rfl:f=_:=hf
  obtain⟨_,FO⟩:=X.fn a hfn
  refine wpAny_call ?_
  refine FO A (R.less (Nat.le_succ _)) vs ws c α s _ _ hs ⟨F.base,F.cell,F.fresh,F.inj,fun _ hk=>by cases hk⟩ iv hP fun v c' α' g h' tk hK C' L' i=>?_
  intro ht
  have C'':Cst hb pr c' α' h':=⟨C'.base,C'.cell,C'.fresh,C'.inj,fun k hk=>hK.1 k (F.prs k hk)⟩
  exact hq v c' α' g h' tk ht hK.2 (F.le L' C'') L' i
 |obj j=>
  obtain⟨id,g,hj,rfl,p1⟩:=fA h
  obtain⟨v,rfl,p2⟩:=f9 p1
  obtain⟨d,rfl,p3⟩:=cH p2
  obtain⟨xs,hg,h1,h2⟩:=cB p3
  obtain⟨w',rfl,i⟩:=iv.one
  obtain⟨rfl,hjm⟩:=hf
  obtain⟨hb',hgm⟩:=F.toCst.cell j _ hj
  obtain⟨us,ep,gk,rk⟩:=F.toCst.cell g _ hg
  refine lC (xs:=us.toArray) hb' gk (by rw[List.size_toArray,←rk.length];exact aJ h1) fun h8 hl8 hs8=>?_
  intro ht
  obtain⟨F8,L8⟩:=F.set hgm (o:=.list (xs++[d])) hs8 (fun L=>by
   obtain⟨ep8,g8⟩:=hl8
   exact⟨us++[w'],ep8,by rw[g8];simp,(IsDs.append (.cons (L.isD i) .nil) (L.isDs rk))⟩)
  exact hq _ _ _ _ _ s.toks ht h2 F8 L8 .none
 |_=>exact h.elim
theorem iE (X:Cx0 prog w hb K₀ T P dep){c:aa}{u:V}{f:Value}{α:Al}{h:Heap}(C:Cst hb pr c α h)(hf:IsV c α h u f)(hu:(∃b,u=.bi b)∨(∃a,u=.val (.ref a)∧P.isFn a=true)∨∃j g,u=.obj j∧ae c j=some (.bound "list.append" g)) :
  ∃k,Looks (model prog w) h (keeperOf f) k:=by
 rcases hu with ⟨b,rfl⟩|⟨a,rfl,ha⟩|⟨j,g,rfl,hj⟩
 ·(subst hf);exact⟨.machine,by cases b<;>exact Looks.of_pure rfl⟩
 ·(subst hf)
  obtain⟨⟨k,hk⟩,_⟩:=X.fn a ha
  exact⟨k,hk.keeps C.base⟩
 ·obtain⟨rfl,_⟩:=hf
  obtain⟨hb',_⟩:=C.cell j _ hj
  exact⟨.machine,jg hb'⟩
def qk (P:Pm)(c:aa)(u:V):Prop:=(∃b,u=.bi b)∨(∃a,u=.val (.ref a)∧P.isFn a=true)∨∃j g,u=.obj j∧ae c j=some (.bound "list.append" g)
theorem gy {c:aa}{k:Option Nat}{u:V}{vs:List V}{K:V→aa→Prop}(h:ef P c k u vs K):qk P c u:=by
 cases u with
 |bi b=>exact .inl ⟨_,rfl⟩
 |val w=>
  obtain⟨a,ha,h⟩:=ax h
  exact .inr (.inl ⟨a,congrArg V.val (ja ha),h.1⟩)
 |obj j=>
  obtain⟨id,g,hj,rfl,h⟩:=fA h
  exact .inr (.inr ⟨_,_,rfl,hj⟩)
 |_=>exact h.elim
end
section
variable {prog:Program}{w:World}{A:Around}{hb:Heap}{pr:List Nat}{env:Env}{T:Tb}{P:Pm}{K₀:Frag}{dep:Nat}{l:Loc}{c:aa}
abbrev Ev (prog:Program) (w:World) (A:Around) (hb:Heap) (pr:List Nat) (env:Env) (l:Loc) (c:aa) (e:Expr) (K:V→aa→Prop):Prop:=OkE (model prog w) A hb pr env IsV l c (eval e env) K
abbrev Tst (prog:Program) (w:World) (A:Around) (hb:Heap) (pr:List Nat) (env:Env) (l:Loc) (c:aa) (e:Expr) (K:Bool→aa→Prop):Prop:=OkE (model prog w) A hb pr env okB l c (isTrue e env (eval e env)) K
theorem xY {a b:Expr}{op:Operator}{p:Pos}{K:V→aa→Prop}(h:Ev prog w A hb pr env l c a fun u c1=>Ev prog w A hb pr env l c1 b fun v c2=>hH c2 op u v fun d=>K (.d d) c2):Ev prog w A hb pr env l c (.BinOp a op b p) K:=by
 intro α s Q hs F hq
 refine wpAny_BinOp (h α s _ hs F fun u c1 α1 g1 h1 t1 ht1 k1 F1 L1 i1=>?_)
 refine k1 α1 _ _ ht1 F1 fun v c2 α2 g2 h2 t2 ht2 k2 F2 L2 i2=>?_
 refine av (s:={s with heap:=h2,toks:=t2}) ht2 (xa (s:={s with heap:=h2,toks:=t2}) F2 k2 (L2.isV i1) i2 fun d g h' tk hK F' L' i ht=>?_)
 exact hq _ c2 α2 g h' tk ht hK F' ((L1.trans L2).trans L') i
theorem fb {op:CmpOp}{e:Expr}(h:fg e=true):behindInMarks op e=false:=by
 cases e<;>first|rfl|exact absurd h Bool.false_ne_true
theorem xZ (R:Room (dep+1) A){a b:Expr}{op:CmpOp}{p:Pos}(hb':fg b=true){K:V→aa→Prop}(h:Ev prog w A hb pr env l c a fun u c1=>Ev prog w A hb pr env l c1 b fun v c2=>eJ c2 op u v fun r=>K (.d (.bool r)) c2) :
  Ev prog w A hb pr env l c (.Compare a [op] [b] p) K:=by
 intro α s Q hs F hq
 refine wpAny_Compare1 (h α s _ hs F fun u c1 α1 g1 h1 t1 ht1 k1 F1 L1 i1=>?_) (fb hb')
 refine k1 α1 _ _ ht1 F1 fun v c2 α2 g2 h2 t2 ht2 k2 F2 L2 i2=>?_
 exact qa (s:={s with heap:=h2,toks:=t2}) F2.toCst R.hu k2 (L2.isV i1) i2 fun r hK=>hq _ c2 α2 _ h2 t2 ht2 hK F2 (L1.trans L2) (.bool _)
theorem wd (R:Room (dep+1) A){a b:Expr}{op:CmpOp}{p:Pos}(hb':fg b=true){K:Bool→aa→Prop}(h:Ev prog w A hb pr env l c a fun u c1=>Ev prog w A hb pr env l c1 b fun v c2=>eJ c2 op u v fun r=>K r c2) :
  Tst prog w A hb pr env l c (.Compare a [op] [b] p) K:=by
 intro α s Q hs F hq
 refine wpAny_isTrue_Compare1 (h α s _ hs F fun u c1 α1 g1 h1 t1 ht1 k1 F1 L1 i1=>?_) (fb hb')
 refine k1 α1 _ _ ht1 F1 fun v c2 α2 g2 h2 t2 ht2 k2 F2 L2 i2=>?_
 exact qa (s:={s with heap:=h2,toks:=t2}) F2.toCst R.hu k2 (L2.isV i1) i2 fun r hK=>wpAny_truthy_bool (hq _ c2 α2 _ h2 t2 ht2 hK F2 (L1.trans L2) rfl)
theorem yO {a:Expr}{p:Pos}{K:V→aa→Prop}(h:Ev prog w A hb pr env l c a fun u c1=>bJ c1 u fun r=>K (.d (.bool !r)) c1):Ev prog w A hb pr env l c (.UnaryOp .Not a p) K:=by
 intro α s Q hs F hq
 refine PyProof.Rows.UnaryOp_ (h α s _ hs F fun u c1 α1 g1 h1 t1 ht1 k1 F1 L1 i1=>?_)
 refine not_of (av (s:={s with heap:=h1,toks:=t1}) ht1 (eZ (s:={s with heap:=h1,toks:=t1}) F1.toCst k1 i1 fun r tk hK ht=>?_))
 exact hq _ c1 α1 _ h1 tk ht hK F1 L1 (.bool _)
theorem wc {a:Expr}{p:Pos}{K:Bool→aa→Prop}(h:Tst prog w A hb pr env l c a fun r c1=>K (!r) c1):Tst prog w A hb pr env l c (.UnaryOp .Not a p) K:=by
 intro α s Q hs F hq
 refine isTrue_not (h α s _ hs F fun r c1 α1 g1 h1 t1 ht1 k1 F1 L1 i1=>?_)
 (subst i1)
 exact hq _ c1 α1 _ h1 t1 ht1 k1 F1 L1 rfl
theorem yq {i:Int}{k:Nat}{p q:Pos}{K:V→aa→Prop}(h:K (.d (.int (-i))) c):Ev prog w A hb pr env l c (.UnaryOp .USub (.Constant (.int i) k q) p) K:=by
 refine OkE.mk fun α s Q hs F hq=>?_
 refine PyProof.Rows.UnaryOp_ (wpAny_Constant_int ?_)
 exact PySem.P.neg_int (hq _ c α _ s.heap _ h F (.refl ..) (.int _ _))
theorem m5 {M:Model}{E:Value→Shared→Prop}{s:Shared}{op:BoolOp}{a b:Expr}{r:List Expr}{p:Pos}{Q:Value→Shared→Prop}
  (h:wpAny M A (eval a env) (fun v s₁=>wpAny M A (truthy v) (fun t s₂=>match op,t with | .And,false | .Or,true=>Q v s₂|_,_=>wpAny M A (boolOp p op (evalEach (b::r) env)) Q E s₂) E s₁) E s):wpAny M A (eval (.BoolOp op (a::b::r) p) env) Q E s:=by
 show wpAny M A (do let v ←eval a env;standAt p;let t ←holding [v] (truthy v);match op,t with | .And,false | .Or,true=>pure v|_,_=>boolOp p op (evalEach (b::r) env)) Q E s
 refine wpAny_bind (wpAny_mono h (fun v s₁ h₁=>wpAny_bind (wpAny_standAt (wpAny_bind (wpAny_holding (wpAny_mono h₁ (fun t s₂ h₂=>?_) fun _ _ x=>x))))) fun _ _ x=>x)
 cases op<;>cases t<;>first|exact wpAny_pure h₂|exact h₂
theorem xB {a b:Expr}{r:List Expr}{p:Pos}{K:V→aa→Prop}(h:Ev prog w A hb pr env l c a fun u c1=>bJ c1 u fun t=>(t=false→K u c1)∧(t=true→OkE (model prog w) A hb pr env IsV l c1 (boolOp p .And (evalEach (b::r) env)) K)) :
  Ev prog w A hb pr env l c (.BoolOp .And (a::b::r) p) K:=by
 intro α s Q hs F hq
 refine m5 (h α s _ hs F fun u c1 α1 g1 h1 t1 ht1 k1 F1 L1 i1=>?_)
 refine av (s:={s with heap:=h1,toks:=t1}) ht1 (eZ (s:={s with heap:=h1,toks:=t1}) F1.toCst k1 i1 fun t tk hK ht=>?_)
 cases t with
 |false=>exact hq u c1 α1 g1 h1 tk ht (hK.1 rfl) F1 L1 i1
 |true=>exact hK.2 rfl α1 {s with heap:=h1,toks:=tk} Q ht F1 fun v c2 α2 g2 h2 t2 ht2 k2 F2 L2 i2=>hq v c2 α2 g2 h2 t2 ht2 k2 F2 (L1.trans L2) i2
theorem ze {a b:Expr}{r:List Expr}{p:Pos}{K:V→aa→Prop}(h:Ev prog w A hb pr env l c a fun u c1=>bJ c1 u fun t=>(t=true→K u c1)∧(t=false→OkE (model prog w) A hb pr env IsV l c1 (boolOp p .Or (evalEach (b::r) env)) K)) :
  Ev prog w A hb pr env l c (.BoolOp .Or (a::b::r) p) K:=by
 intro α s Q hs F hq
 refine m5 (h α s _ hs F fun u c1 α1 g1 h1 t1 ht1 k1 F1 L1 i1=>?_)
 refine av (s:={s with heap:=h1,toks:=t1}) ht1 (eZ (s:={s with heap:=h1,toks:=t1}) F1.toCst k1 i1 fun t tk hK ht=>?_)
 cases t with
 |true=>exact hq u c1 α1 g1 h1 tk ht (hK.1 rfl) F1 L1 i1
 |false=>exact hK.2 rfl α1 {s with heap:=h1,toks:=tk} Q ht F1 fun v c2 α2 g2 h2 t2 ht2 k2 F2 L2 i2=>hq v c2 α2 g2 h2 t2 ht2 k2 F2 (L1.trans L2) i2
theorem rV {a:Expr}{r:List Expr}{p:Pos}{whole:Sem Value}{K:Bool→aa→Prop}(h:Tst prog w A hb pr env l c a fun t c1=>(t=false→K false c1)∧(t=true→OkE (model prog w) A hb pr env okB l c1 (isTrue (.BoolOp .And r p) env whole) K)) :
  OkE (model prog w) A hb pr env okB l c (isTrue (.BoolOp .And (a::r) p) env whole) K:=by
 intro α s Q hs F hq
 refine isTrue_and (h α s _ hs F fun t c1 α1 g1 h1 t1 ht1 k1 F1 L1 i1=>?_)
 cases i1
 cases t with
 |false=>exact hq false c1 α1 _ h1 t1 ht1 (k1.1 rfl) F1 L1 rfl
 |true=>exact k1.2 rfl α1 _ Q ht1 F1 fun v c2 α2 g2 h2 t2 ht2 k2 F2 L2 i2=>hq v c2 α2 g2 h2 t2 ht2 k2 F2 (L1.trans L2) i2
theorem u7 {a:Expr}{r:List Expr}{p:Pos}{whole:Sem Value}{K:Bool→aa→Prop}(h:Tst prog w A hb pr env l c a fun t c1=>(t=true→K true c1)∧(t=false→OkE (model prog w) A hb pr env okB l c1 (isTrue (.BoolOp .Or r p) env whole) K)) :
  OkE (model prog w) A hb pr env okB l c (isTrue (.BoolOp .Or (a::r) p) env whole) K:=by
 intro α s Q hs F hq
 refine isTrue_or (h α s _ hs F fun t c1 α1 g1 h1 t1 ht1 k1 F1 L1 i1=>?_)
 cases i1
 cases t with
 |true=>exact hq true c1 α1 _ h1 t1 ht1 (k1.1 rfl) F1 L1 rfl
 |false=>exact k1.2 rfl α1 _ Q ht1 F1 fun v c2 α2 g2 h2 t2 ht2 k2 F2 L2 i2=>hq v c2 α2 g2 h2 t2 ht2 k2 F2 (L1.trans L2) i2
theorem pV {p:Pos}{whole:Sem Value}{K:Bool→aa→Prop}(h:K true c):OkE (model prog w) A hb pr env okB l c (isTrue (.BoolOp .And [] p) env whole) K:=
 fun α s Q hs F hq=>isTrue_and_nil (hq true c α true s.heap s.toks hs h F (.refl ..) rfl)
theorem uB {p:Pos}{whole:Sem Value}{K:Bool→aa→Prop}(h:K false c):OkE (model prog w) A hb pr env okB l c (isTrue (.BoolOp .Or [] p) env whole) K:=
 fun α s Q hs F hq=>isTrue_or_nil (hq false c α false s.heap s.toks hs h F (.refl ..) rfl)
theorem qO {e:Expr}{K:Bool→aa→Prop}(he:isTrue e env (eval e env)=(do let v ←eval e env;standAt e.pos;holding [v] (truthy v)))(h:Ev prog w A hb pr env l c e fun u c1=>bJ c1 u fun r=>K r c1):Tst prog w A hb pr env l c e K:=by
 intro α s Q hs F hq
 refine isTrue_plain (h α s _ hs F fun u c1 α1 g1 h1 t1 ht1 k1 F1 L1 i1=>?_) he
 refine av (s:={s with heap:=h1,toks:=t1}) ht1 (eZ (s:={s with heap:=h1,toks:=t1}) F1.toCst k1 i1 fun t tk hK ht=>?_)
 exact hq _ c1 α1 _ h1 tk ht hK F1 L1 rfl
theorem xe {a i:Expr}{p:Pos}(hi:cT i=true){K:V→aa→Prop}(h:Ev prog w A hb pr env l c a fun u c1=>Ev prog w A hb pr env l c1 i fun v c2=>ee c2 u v fun d=>K (.d d) c2):Ev prog w A hb pr env l c (.Subscript a i p) K:=by
 intro α s Q hs F hq
 refine Subscript_ (h α s _ hs F fun u c1 α1 g1 h1 t1 ht1 k1 F1 L1 i1=>?_)
 refine k1 α1 _ _ ht1 F1 fun v c2 α2 g2 h2 t2 ht2 k2 F2 L2 i2=>?_
 refine av (s:={s with heap:=h2,toks:=t2}) ht2 (sx (s:={s with heap:=h2,toks:=t2}) F2.toCst hi k2 (L2.isV i1) i2 fun d g tk hK id ht=>?_)
 exact hq _ c2 α2 g h2 tk ht hK F2 (L1.trans L2) id
theorem uG {a:Expr}{lo hi:Option Expr}{p q:Pos}{K:V→aa→Prop}(h:Ev prog w A hb pr env l c a fun u c1=>OkE (model prog w) A hb pr env IsV l c1 (evalPart lo env) fun v c2=>OkE (model prog w) A hb pr env IsV l c2 (evalPart hi env) fun x c3=>jE c3 u v x fun d=>K (.d d) c3) :
  Ev prog w A hb pr env l c (.Subscript a (.Slice lo hi none q) p) K:=by
 intro α s Q hs F hq
 refine Subscript_ (h α s _ hs F fun u c1 α1 g1 h1 t1 ht1 k1 F1 L1 i1=>?_)
 refine wpAny_Slice (k1 α1 _ _ ht1 F1 fun v c2 α2 g2 h2 t2 ht2 k2 F2 L2 i2=>?_)
 refine k2 α2 _ _ ht2 F2 fun x c3 α3 g3 h3 t3 ht3 k3 F3 L3 i3=>?_
 refine evalPart_none_step ?_
 refine av (s:={s with heap:=h3.push _,toks:=t3}) ht3 (qI (s:={s with heap:=h3,toks:=t3}) (lo:=a) (hi:=a) F3 k3 (L3.isV (L2.isV i1)) (L3.isV i2) i3 fun d g h' tk hK F' L' id ht=>?_)
 exact hq _ c3 α3 g h' tk ht hK F' (((L1.trans L2).trans L3).trans L') id
theorem qY {es:List Expr}{k:Nat}{p:Pos}(hst:bK es=true){K:V→aa→Prop}(h:OkArgs prog w A hb pr env l es c fun vs c1=>aw (lu vs) fun ds=>ds.length≤big∧K (.d (.tup ds)) c1):Ev prog w A hb pr env l c (.Tuple es k p) K:=by
 intro α s Q hs F hq
 refine Tuple_ ?_
 rw[cx env p hst]
 refine fY h α s _ hs F fun vs c1 α1 ws h1 t1 ht1 k1 F1 L1 i1=>?_
 obtain⟨ds,e,k1⟩:=ax k1
 have id:=nM e i1
 refine wpAny_newObj_type ?_ (by show ws.toArray.size≤sizeLine;rw[List.size_toArray,←id.length];exact aJ k1.1)
 obtain⟨F',L'⟩:=F1.push (bj "tuple" ws 0)
 exact hq _ c1 α1 _ _ t1 ht1 k1.2 F' (L1.trans L') (.tup (Heap.get?_push_size _ rfl) (a9 F1.toCst) (L'.isDs id))
theorem x9 {es:List Expr}{k:Option Nat}{p:Pos}(hst:bK es=true){K:V→aa→Prop}(h:OkArgs prog w A hb pr env l es c fun vs c1=>aw (lu vs) fun ds=>ds.length≤big∧ci c1 k ds K):Ev prog w A hb pr env l c (.List es p) K:=by
 intro α s Q hs F hq
 refine List_ ?_
 rw[cx env p hst]
 refine fY h α s _ hs F fun vs c1 α1 ws h1 t1 ht1 k1 F1 L1 i1=>?_
 obtain⟨ds,e,k1⟩:=ax k1
 have id:=nM e i1
 refine wpAny_newObj_type ?_ (by show ws.toArray.size≤sizeLine;rw[List.size_toArray,←id.length];exact aJ k1.1)
 refine gD (s:={s with heap:=h1,toks:=t1}) (ep:=0) (K:=fun v c'=>K v c') (Q:=fun g s'=>1≤s'.toks→Q g s') F1 k1.2 id (fun _ _ e=>Heap.get?_push_of_some _ e) (Heap.get?_push_size _ rfl) (fun v c' α' g h' tk hK F' L' i ht=>?_) t1 ht1
 exact hq v c' α' g h' tk ht hK F' (L1.trans L') i
theorem uV {M:Model}{E:Value→Shared→Prop}{s:Shared}{a:Expr}{nm:Str}{p:Pos}(ha:be a=true){Q:Value→Shared→Prop}(h:wpAny (model prog w) A (eval a env) (fun o s₁=>wpAny (model prog w) A (getAttr o nm true) Q E s₁) E s):wpAny (model prog w) A (eval (.Attribute a nm p) env) Q E s:=by
 have e:eval (.Attribute a nm p) env=(do
   let o ←attributeBase a nm env (eval a env)
   standAt p.atName
   let r ←holding [o] (getAttr o nm true)
   letTemporaryGo a o r
   pure r):=rfl
 rw[e]
 exact wpAny_bind (nT ha (wpAny_mono h (fun o s₁ h₁=>wpAny_bind (wpAny_standAt (wpAny_bind (wpAny_holding (wpAny_mono h₁ (fun r s₂ h₂=>wpAny_bind (wpAny_letTemporaryGo (wpAny_pure h₂))) fun _ _ x=>x))))) fun _ _ x=>x))
theorem ka {u:V}{Kf:List (Str×V)→Prop}(h:gF P c u Kf):∃k dk fs,u=.obj k∧ae c k=some (.inst P.C dk)∧ae c dk=some (.ns fs)∧Kf fs:=by
 obtain⟨k,e,h⟩:=dO h
 obtain⟨C,dk,hk,rfl,h⟩:=gC h
 obtain⟨fs,hd,h⟩:=kr h
 exact⟨k,dk,fs,e,hk,hd,h⟩
theorem vK (X:Cx0 prog w hb K₀ T P dep){a:Expr}{nm:Str}{p:Pos}(ha:be a=true){K:V→aa→Prop}(h:Ev prog w A hb pr env l c a fun u c1=>P.attr nm=true∧gF P c1 u fun fs=>aw (look fs nm) fun v=>iI v=true∧K v c1) :
  Ev prog w A hb pr env l c (.Attribute a nm p) K:=by
 intro α s Q hs F hq
 refine uV (M:=model prog w) ha (h α s _ hs F fun u c1 α1 g1 h1 t1 ht1 k1 F1 L1 i1=>?_)
 obtain⟨hn,k1⟩:=k1
 obtain⟨k,dk,fs,rfl,hk,hdk,hv⟩:=ka k1
 obtain⟨v,e,hv⟩:=ax hv
 ·obtain⟨rfl,_⟩:=i1
  refine av (s:={s with heap:=h1,toks:=t1}) ht1 (tz (s:={s with heap:=h1,toks:=t1}) F1 X.kin hk hdk X.cls (X.attr nm hn) e hv.1 fun g tk i ht=>?_)
  exact hq v c1 α1 g h1 tk ht hv.2 F1 L1 i
theorem yH {a:Expr}{k:Nat}{p:Pos}(ha:be a=true){K:V→aa→Prop}(h:Ev prog w A hb pr env l c a fun u c1=>gT u fun j=>cy (ae c1 j) fun _=>k∉dom c1∧K (.obj k) (c1++[(k,.bound "list.append" j)])):Ev prog w A hb pr env l c (.Attribute a Mn.append.nm p) K:=by
 intro α s Q hs F hq
 refine uV (M:=model prog w) ha (h α s _ hs F fun u c1 α1 g1 h1 t1 ht1 k1 F1 L1 i1=>?_)
 obtain⟨j,rfl,k1⟩:=dO k1
 obtain⟨xs,hj,k1⟩:=cB k1
 obtain⟨rfl,hjm⟩:=i1
 obtain⟨us,ep,gk,rk⟩:=F1.toCst.cell j _ hj
 refine jT gk ?_
 obtain⟨F2,L2⟩:=F1.new k1.1 (kJ "list.append" (α1 j)) (o:=.bound "list.append" j) (fun L=>⟨by rw[Heap.get?_push_size _ rfl,L.agree j hjm],L.dom j hjm⟩)
 exact hq _ _ _ _ _ (t1+1) (Nat.le_succ_of_le ht1) k1.2 F2 (L1.trans L2) ⟨by rw[show upd α1 k h1.objs.size k=h1.objs.size from if_pos rfl],by rw[af];simp⟩
end
section
variable {prog:Program}{w:World}{A:Around}{hb:Heap}{pr:List Nat}{env:Env}{T:Tb}{P:Pm}{K₀:Frag}{dep:Nat}{l:Loc}{c:aa}
theorem OkArgs.mono:∀{args:List Expr} {c:aa} {K K':List V→aa→Prop},OkArgs prog w A hb pr env l args c K→(∀vs c',K vs c'→K' vs c')→OkArgs prog w A hb pr env l args c K'
 | [],_,_,_,h,hK=>hK _ _ h
 |e::r,_,_,_,h,hK=>OkE.mono h fun v c' q=>OkArgs.mono q fun vs c'' k=>hK _ _ k
theorem wN (X:Cx0 prog w hb K₀ T P dep)(R:Room (dep+1) A){x:Str}{p pos:Pos}{args:List Expr}{k:Option Nat}(hst:bK args=true){K:V→aa→Prop}
  (h:Ev prog w A hb pr env l c (.Name x p) fun u c1=>OkArgs prog w A hb pr env l args c1 fun vs c2=>ef P c2 k u vs K):Ev prog w A hb pr env l c (.Call (.Name x p) args [] pos) K:=by
 intro α s Q hs F hq
 refine Call_Name (cx env pos hst) (h α s _ hs F fun u c1 α1 g1 h1 t1 ht1 k1 F1 L1 i1=>?_)
 refine bT (s:={s with heap:=h1,toks:=t1}) (fs:=[]) ht1 F1 .nil (k1.mono fun vs c2 hk α2 s2 ws ht2 F2 L2 iv=>?_) fun v c' α' g h' tk ht hK F' L' i=>hq v c' α' g h' tk ht hK F' (L1.trans L') i
 refine⟨iE X F2.toCst (L2.isV i1) (gy hk),fun Q hq'=>?_⟩
 exact kh X R hk ht2 F2 (L2.isV i1) iv hq'
theorem bw {M:Model}{h:Heap}(id:String):∃k,Looks M h (keeperOf (.builtin id)) k:=⟨.machine,Looks.of_pure rfl⟩
theorem wZ {o:Expr}{m:Mn}{apos pos:Pos}{args:List Expr}(hsup:be o=true)(hst:bK args=true)(hfew:args.length<30)(hline:(apos.endLine==pos.line)=true){K:V→aa→Prop}
  (h:Ev prog w A hb pr env l c o fun u c1=>dz c1 u m∧OkArgs prog w A hb pr env l args c1 fun vs c2=>nx c2 u m vs K):Ev prog w A hb pr env l c (.Call (.Attribute o m.nm apos) args [] pos) K:=by
 intro α s Q hs F hq
 refine d0 hsup hst hfew hline (h α s _ hs F fun u c1 α1 g1 h1 t1 ht1 k1 F1 L1 i1=>?_)
 obtain⟨hm,k1⟩:=k1
 cases u with
 |d x=>
  obtain⟨x,e,hm⟩:=cu (u:=.d x) hm
  rw[e] at i1 k1
  have i1':=i1
  obtain⟨t,rfl⟩:=IsD.inv i1'
  refine q7 hm ?_
  refine bT (s:={s with heap:=h1,toks:=t1}) (fs:=[.d (.str x)]) ht1 F1 (.cons i1 .nil) (k1.mono fun vs c2 hk α2 s2 ws ht2 F2 L2 iv=>?_) fun v c' α' g h' tk ht hK F' L' i=>hq v c' α' g h' tk ht hK F' (L1.trans L') i
  refine⟨bw _,fun Q hq'=>?_⟩
  obtain⟨w0,ws',rfl,i0,ir⟩:=iv.inv
  obtain⟨t',rfl⟩:=IsD.inv i0
  exact av ht2 (lL F2 hk.2 ir fun v c' α' g h' tk hK F' L' i ht=>hq' v c' α' g h' tk ht hK F' L' i)
 |obj k=>
  obtain⟨hm,hk⟩:=hm
  obtain⟨xs,hx,_⟩:=cB hk
  obtain⟨rfl,hkm⟩:=i1
  obtain⟨us,ep,gk,rk⟩:=F1.toCst.cell k _ hx
  refine qF hm gk ?_
  refine bT (s:={s with heap:=h1,toks:=t1}) (fs:=[.obj k]) ht1 F1 (.cons ⟨rfl,hkm⟩ .nil) (k1.mono fun vs c2 hk2 α2 s2 ws ht2 F2 L2 iv=>?_) fun v c' α' g h' tk ht hK F' L' i=>hq v c' α' g h' tk ht hK F' (L1.trans L') i
  refine⟨bw _,fun Q hq'=>?_⟩
  obtain⟨w0,ws',rfl,i0,ir⟩:=iv.inv
  obtain⟨rfl,_⟩:=i0
  obtain⟨ys,hy,hk2⟩:=cB hk2.2
  exact av ht2 (mx F2 hy hk2 ir fun v c' α' g h' tk hK F' L' i ht=>hq' v c' α' g h' tk ht hK F' L' i)
 |mt e=>
  obtain⟨r,rfl,im⟩:=i1
  have em:m=.end_:=by cases m<;>first|rfl|exact absurd hm Bool.false_ne_true
  subst em
  refine sd im ?_
  refine bT (s:={s with heap:=h1,toks:=t1}) (fs:=[.mt e]) ht1 F1 (.cons ⟨r,rfl,im⟩ .nil) (k1.mono fun vs c2 hk α2 s2 ws ht2 F2 L2 iv=>?_) fun v c' α' g h' tk ht hK F' L' i=>hq v c' α' g h' tk ht hK F' (L1.trans L') i
  refine⟨bw _,fun Q hq'=>?_⟩
  obtain⟨_,rfl,hk⟩:=hk
  obtain⟨w',rfl,i0⟩:=iv.one
  obtain⟨r2,rfl,im2⟩:=i0
  exact av ht2 (wj im2 fun t tk ht=>hq' _ c2 α2 _ s2.heap tk ht hk F2 (Le.refl ..) (.int _ _))
 |_=>exact hm.elim
theorem uk (X:Cx0 prog w hb K₀ T P dep)(R:Room (dep+1) A){o:Expr}{nm:Str}{f:Addr}(hf:T.meth nm=some f){apos pos:Pos}{args:List Expr}(hsup:be o=true)(hst:bK args=true)(hfew:args.length<30)(hline:(apos.endLine==pos.line)=true){K:V→aa→Prop}
  (h:Ev prog w A hb pr env l c o fun u c1=>(gF P c1 u fun fs=>look fs nm=none)∧OkArgs prog w A hb pr env l args c1 fun vs c2=>P.isFn f=true∧P.fn f (u::vs) c2 (fun v c3=>eW c2 c3∧K v c3)):Ev prog w A hb pr env l c (.Call (.Attribute o nm apos) args [] pos) K:=by
 intro α s Q hs F hq
 refine d0 hsup hst hfew hline (h α s _ hs F fun u c1 α1 g1 h1 t1 ht1 k1 F1 L1 i1=>?_)
 obtain⟨hi,k1⟩:=k1
 obtain⟨k,dk,fs,rfl,hk,hdk,hv⟩:=ka hi
 obtain⟨rfl,hkm⟩:=i1
 obtain⟨m1,m2⟩:=X.meth nm f hf
 refine uc (s:={s with heap:=h1,toks:=t1}) F1 X.kin hk hdk X.cls m1 m2 hv ?_
 refine bT (s:={s with heap:=h1,toks:=t1}) (fs:=[.obj k]) ht1 F1 (.cons ⟨rfl,hkm⟩ .nil) (k1.mono fun vs c2 hk2 α2 s2 ws ht2 F2 L2 iv=>?_) fun v c' α' g h' tk ht hK F' L' i=>hq v c' α' g h' tk ht hK F' (L1.trans L') i
 refine⟨iE X (u:=.val (.ref f)) F2.toCst rfl (.inr (.inl ⟨f,rfl,hk2.1⟩)),fun Q hq'=>?_⟩
 exact kh X R (u:=.val (.ref f)) (k:=none) (vs:=.obj k::vs) hk2 ht2 F2 rfl iv hq'
theorem wu {o:Expr}{y z:Str}{apos pos:Pos}{ky kz:Nat}{py pz:Pos}(hsup:be o=true)(hline:(apos.endLine==pos.line)=true){K:V→aa→Prop}
  (h:Ev prog w A hb pr env l c o fun u c1=>fL u fun x=>x.length≤big∧z.length≤14∧(y==z)=false∧K (.d (.str (Txt.replace x y z))) c1):Ev prog w A hb pr env l c (.Call (.Attribute o (Str.ofString "replace") apos) [.Constant (.str y) ky py,.Constant (.str z) kz pz] [] pos) K:=by
 intro α s Q hs F hq
 refine d0 hsup rfl (by simp) hline (h α s _ hs F fun u c1 α1 g1 h1 t1 ht1 k1 F1 L1 i1=>?_)
 obtain⟨x,rfl,hx,hz,hyz,hK⟩:=cu k1
 ·obtain⟨t,rfl⟩:=IsD.inv i1
  refine GM.replace ?_
  refine dn rfl (Calls.evalArgs_plain (Calls.spliced_cons (wpAny_mkText (Calls.spliced_cons (wpAny_mkText (Calls.spliced_nil ?_))))))
  refine⟨bw _,?_⟩
  refine av (s:={s with heap:=h1,toks:=t1+1+1}) (by show 1≤t1+1+1;exact Om.o21) ?_
  refine SC.replaceW (u:=t1) (v:=t1+1) (Nat.ne_of_gt ht1) (Nat.succ_ne_zero t1) (Nat.ne_of_lt (Nat.lt_succ_self t1)) hyz hx hz (fun t' k ht=>?_)
  exact hq _ c1 α1 _ h1 k ht hK F1 L1 (.str _ _)
theorem jp {M:Model}{E:Value→Shared→Prop}{s:Shared}{x:Str}{t:Tok}{pl:Sem Bool}{Q:Value×List Value→Shared→Prop}(h:Q (.builtin "str.translate",[.str x t]) s):wpAny M A (getMethod (.str x t) "translate" pl) Q E s:=by
 with_reducible exact GM.of (.str x t) (typeIs_str _ _ _) PySem.F.slot_str_translate PySem.F.type_str_translate GM.noRef h
theorem uy (X:Cx0 prog w hb K₀ T P dep){o:Expr}{d:Addr}{x:Str}{p apos pos:Pos}(hsup:be o=true)(hline:(apos.endLine==pos.line)=true){K:V→aa→Prop}
  (hd:∀c1 (K':V→aa→Prop),K' (.val (.ref d)) c1→Ev prog w A hb pr env l c1 (.Name x p) K')
  (h:Ev prog w A hb pr env l c o fun u c1=>fL u fun x=>d=P.td∧(∀ch∈x.cps.toList,ch<128)∧x.length≤big∧K (.d (.str ⟨x.cps.map P.tr⟩)) c1):Ev prog w A hb pr env l c (.Call (.Attribute o (Str.ofString "translate") apos) [.Name x p] [] pos) K:=by
 intro α s Q hs F hq
 refine d0 hsup rfl (by simp) hline (h α s _ hs F fun u c1 α1 g1 h1 t1 ht1 k1 F1 L1 i1=>?_)
 obtain⟨x',rfl,rfl,hch,hx,hK⟩:=cu k1
 ·obtain⟨t,rfl⟩:=IsD.inv i1
  refine jp ?_
  refine dn rfl (Calls.evalArgs_plain (Calls.spliced_cons (hd c1 (fun v c'=>v=.val (.ref P.td)∧c'=c1) ⟨rfl,rfl⟩ α1 _ _ ht1 F1 fun v c2 α2 g2 h2 t2 ht2 k2 F2 L2 i2=>Calls.spliced_nil ?_)))
  obtain⟨rfl,rfl⟩:=k2
  (subst i2)
  refine⟨bw _,?_⟩
  obtain⟨C',TO⟩:=X.tab
  refine av (s:={s with heap:=h2,toks:=t2}) ht2 ?_
  refine jq (s:={s with heap:=h2,toks:=t2}) TO (X.kin.keeps F2.base) hch hx (fun t' tk ht=>?_)
  exact hq _ c2 α2 _ h2 tk ht hK F2 (L1.trans L2) (.str _ _)
end
theorem jH {it:Expr}{env:Env}(h:eg it=true)(v:Value):foldedSetIterable it env v=pure v:=by
 cases it<;>first|rfl|exact absurd h Bool.false_ne_true
section
variable {prog:Program}{w:World}{A:Around}{hb:Heap}{pr:List Nat}{env:Env}{T:Tb}{P:Pm}{K₀:Frag}{dep:Nat}{l:Loc}{c:aa}
theorem Room.under {C:Addr}{vals:List Value}(R:Room (dep+1) A):Room dep (A.under (.builtin "type.__call__" ⟨.ref C::vals,[]⟩)):=by
 refine⟨R.handled,?_,?_⟩
 ·have h1:(A.under (.builtin "type.__call__" ⟨.ref C::vals,[]⟩)).depth=A.depth+1:=rfl
  have:=R.depth;rw[h1];exact Om.o8 this
 ·have h1:(A.under (.builtin "type.__call__" ⟨.ref C::vals,[]⟩)).units=A.units+1:=rfl
  have:=R.units;rw[h1];exact Om.o22 this
theorem ww (X:Cx0 prog w hb K₀ T P dep)(R:Room (dep+1) A){x:Str}{p pos:Pos}{args:List Expr}(hst:bK args=true){K:V→aa→Prop}
  (hx:∀c1 (K':V→aa→Prop),K' (.val (.ref P.C)) c1→Ev prog w A hb pr env l c1 (.Name x p) K')
  (h:OkArgs prog w A hb pr env l args c fun vs c1=>∃k dk,k∉dom c1∧dk∉dom c1∧k≠dk∧P.fn P.init (.obj k::vs) (c1++[(dk,.ns [])]++[(k,.inst P.C dk)]) (fun v c2=>v=.d .none∧eW (c1++[(dk,.ns [])]++[(k,.inst P.C dk)]) c2∧K (.obj k) c2)) :
  Ev prog w A hb pr env l c (.Call (.Name x p) args [] pos) K:=by
 intro α s Q hs F hq
 refine Call_Name (cx env pos hst) (hx c (fun v c'=>v=.val (.ref P.C)∧c'=c) ⟨rfl,rfl⟩ α s _ hs F fun u c1 α1 g1 h1 t1 ht1 k1 F1 L1 i1=>?_)
 obtain⟨rfl,rfl⟩:=k1
 (subst i1)
 refine bT (s:={s with heap:=h1,toks:=t1}) (fs:=[]) ht1 F1 .nil (h.mono fun vs c2 hk α2 s2 ws ht2 F2 L2 iv=>?_) fun v c' α' g h' tk ht hK F' L' i=>hq v c' α' g h' tk ht hK F' (L1.trans L') i
 obtain⟨kk,_,hkk⟩:=looks_keep (M:=model prog w) X.keep (X.kin.keeps F2.base)
 refine⟨⟨kk,hkk⟩,fun Q hq'=>?_⟩
 obtain⟨k,dk,hk1,hk2,hne,hfn⟩:=hk
 obtain⟨F3,L3⟩:=F2.new hk2 emptyDict (o:=.ns []) (fun L=>⟨emptyDict,#[],0,Heap.get?_push_size _ rfl,rfl,fun e he=>by simp at he,rfl,fun x=>rfl⟩)
 have hk1':k∉dom (c2++[(dk,.ns [])]):=by rw[af];simp[hk1,hne]
 have hdk:dk∈dom (c2++[(dk,O.ns [])]):=by rw[af];simp
 have adk:upd α2 dk s2.heap.objs.size dk=s2.heap.objs.size:=if_pos rfl
 obtain⟨F4,L4⟩:=F3.new hk1' (instObj P.C s2.heap.objs.size) (o:=.inst P.C dk) (fun L=>⟨by rw[L.agree dk hdk,adk,Heap.get?_push_size _ rfl],L.dom dk hdk⟩)
 have ak:upd (upd α2 dk s2.heap.objs.size) k (s2.heap.push emptyDict).objs.size k=s2.heap.objs.size+1:=by rw[show upd (upd α2 dk s2.heap.objs.size) k (s2.heap.push emptyDict).objs.size k=(s2.heap.push emptyDict).objs.size from if_pos rfl,Heap.size_push]
 refine av ht2 (wpAny_call ?_)
 have R':=R.under (C:=P.C) (vals:=ws)
 have ik:IsV (c2++[(dk,.ns [])]++[(k,.inst P.C dk)]) (upd (upd α2 dk s2.heap.objs.size) k (s2.heap.push emptyDict).objs.size) ((s2.heap.push emptyDict).push (instObj P.C s2.heap.objs.size)) (.obj k) (.ref (s2.heap.objs.size+1)):=⟨by rw[ak],by rw[af];simp⟩
 obtain⟨hp,g,d,tk,os⟩:=s2
 refine make_core (makes_of (X.kin.keeps F2.base) X.makes) (looks_findIn (X.kin.keeps F2.base) X.ini.1) (fun self=>bind_fn (X.kin.keeps F2.base) self X.ini.2) (.inl rfl) ?_
 refine X.inif _ R' (.obj k::vs) (.ref (hp.objs.size+1)::ws) _ _ ⟨(hp.push emptyDict).push (instObj P.C hp.objs.size),g,d,tk,os⟩ _ _ ht2 ⟨F4.base,F4.cell,F4.fresh,F4.inj,fun _ q=>by cases q⟩ (.cons ik ((L3.trans L4).isVs iv)) hfn fun v c' α' gg h' tk' hK C' L' i=>?_
 obtain⟨rfl,hdom,hK⟩:=hK
 cases i
 refine⟨rfl,fun ht=>?_⟩
 have C'':Cst hb pr c' α' h':=⟨C'.base,C'.cell,C'.fresh,C'.inj,fun j hj=>hdom j (F4.prs j hj)⟩
 exact hq' (.obj k) c' α' _ h' tk' ht hK (F4.le L' C'') ((L3.trans L4).trans L') (L'.isV ik)
theorem vI (E:CxE env T)(R:Room (dep+1) A){elt iter:Expr}{ifs:List Expr}{x:Str}{px pos:Pos}{scope:Scope}{kk:Nat}(SO:ScopeOk scope x env)(hfold:eg iter=true){K:V→aa→Prop}
  (hi:Ev prog w A hb pr env l c iter fun v c1=>nk prog w A hb pr env l x elt ifs scope kk v c1 K):Ev prog w A hb pr env l c (.ListComp elt [⟨.Name x px,iter,ifs,0⟩] scope pos) K:=by
 intro α s Q hs F hq
 have hf:∀v,foldedSetIterable iter env v=pure v:=jH hfold
 show wpAny _ _ (comprehension _ scope env _ (newList []) false (eval iter env) none) _ _ _
 refine iJ E.eo R.handled SO hs F hf hi fun v c' α' g h' tk C ht hK F' L' i nf no nb hC hm=>?_
 obtain⟨m,hm⟩:=hm
 refine⟨m,hm,fun h'' hs''=>?_⟩
 have nz:∀o,du o=true→h'.get? C≠some o:=fun o hz e=>by
  obtain⟨o',es,ep,ho,hd,_⟩:=hm
  rw[ho] at e;cases e;unfold du at hz;rw[hd] at hz;cases hz
 exact hq v c' α' g h'' tk ht hK (F'.but nz (bB hs'') no nf nb) ⟨L'.dom,L'.agree,fun b o e n=>bB hs'' b o (fun q=>by rw[q,hC] at e;contradiction) (L'.kept b o e n),L'.grow⟩ (fU nz (bB hs'') i)
theorem oV (E:CxE env T)(R:Room (dep+1) A){elt iter:Expr}{ifs:List Expr}{x y:Str}{px py pos spos:Pos}{scope:Scope}{kk:Nat}(SO:ScopeOk scope x env)(hfold:eg iter=true)(hy:env.kindOf y=some .local)
  (hsw:swapsWith (.ListComp elt [⟨.Name x px,iter,ifs,0⟩] scope pos) (some (.Name y py)) spos.line env=pure true) {K:F→Sg→Prop}
  (hi:Ev prog w A hb pr env l c iter fun v c1=>nk prog w A hb pr env l x elt ifs scope kk v c1 (fun v c'=>K .next ⟨put l y v,c'⟩)) :
  OkS (model prog w) A hb pr env ⟨l,c⟩ (exec (.Assign [.Name y py] (.ListComp elt [⟨.Name x px,iter,ifs,0⟩] scope pos) spos) env) K:=by
 intro α s Q hs F hq
 have hf:∀v,foldedSetIterable iter env v=pure v:=jH hfold
 rw[exec_Assign_Name_used _ _ _ _ hsw]
 refine wpAny_bind (wpAny_standAt (wpAny_bind ?_))
 show wpAny _ A (do let _ ←comprehension (.ListComp elt [⟨.Name x px,iter,ifs,0⟩] scope pos) scope env _ (newList []) false (eval iter env) (some (assign (.Name y py) env))) _ _ s
 refine wpAny_bind (wpAny_mono (iJ (Q':=fun _ s'=>Q .next s') E.eo R.handled SO hs F hf hi fun v c' α' g h' tk C ht hK F' L' i nf no nb hC hm=>?_) (fun _ s' hq=>wpAny_pure (wpAny_pure hq)) fun _ _ e=>e)
 show wpAny _ A (assign (.Name y py) env g) _ _ _
 refine wpAny_assign_Name (av (s:={s with heap:=h',toks:=tk}) ht (dp (s:={s with heap:=h',toks:=tk}) E.eo F' hy i fun h2 tk2 F2 hs2 ht2=>?_))
 obtain⟨m,hm⟩:=hm
 have hCL:C≠env.locals:=fun q=>nf (.inl q)
 have hm2:h2.Ns C m:=hm.sameBut hs2 hCL
 refine⟨m,hm2,fun h3 hs3=>?_⟩
 have nz:∀o,du o=true→h2.get? C≠some o:=fun o hz e=>by
  obtain⟨o',es,ep,ho,hd,_⟩:=hm2
  rw[ho] at e;cases e;unfold du at hz;rw[hd] at hz;cases hz
 refine hq .next ⟨put l y v,c'⟩ α' .next h3 tk2 ht2 hK (F2.but nz (bB hs3) no nf nb) ?_ rfl
 have LS:LeS pr env c α s.heap c' α' h':=L'.leS F.toCst
 refine⟨LS.agree,fun b o e nfr n=>bB hs3 b o (fun q=>by rw[q,hC] at e;contradiction) (bB hs2 b o (fun q=>nfr (.inl q)) (LS.kept b o e nfr n)),LS.grow⟩
end
theorem cK {env:Env}{k₀:NameKind}(hk₀:k₀≠.free):∀{names:List (Str×NameKind)} {x:Str},names.lookup x=some k₀→
  (names.map fun (n,k)=>if (k==NameKind.free&&env.scope.kind==.function&&env.kindOf n==some .cell) then (n,NameKind.cell) else (n,k)).lookup x=some k₀
 | [],_,h=>by simp at h
 | (n,k)::r,x,h=>by
  have ih:=@cK env k₀ hk₀ r x
  show List.lookup x ((if (k==NameKind.free&&env.scope.kind==.function&&env.kindOf n==some .cell)=true then (n,NameKind.cell) else (n,k))::_)=_
  cases hx:x==n with
  |true=>
   simp only[List.lookup_cons,hx] at h
   cases h
   have:(k₀==NameKind.free)=false:=by cases k₀<;>first|rfl|exact absurd rfl hk₀
   simp[List.lookup_cons,hx,this]
  |false=>
   simp only[List.lookup_cons,hx] at h
   by_cases hc:(k==NameKind.free&&env.scope.kind==.function&&env.kindOf n==some .cell)=true
   ·rw[if_pos hc];simp only[List.lookup_cons,hx];exact ih h
   ·rw[if_neg hc];simp only[List.lookup_cons,hx];exact ih h
theorem gV {names:List Str}:∀{fs:List Str} {is:List Nat},fs.mapM (aL names)=some is→fs.length=is.length∧∀(j:Nat) y,fs[j]?=some y→∃i,is[j]?=some i∧aL names y=some i
 | [],is,h=>by simp at h;subst h;exact⟨rfl,fun j y e=>by simp at e⟩
 |f::fs,is,h=>by
  rw[List.mapM_cons] at h
  cases hf:aL names f with
  |none=>rw[hf] at h;cases h
  |some i=>
   cases hr:fs.mapM (aL names) with
   |none=>rw[hf,hr] at h;cases h
   |some is'=>
    rw[hf,hr] at h;cases h
    obtain⟨h1,h2⟩:=gV hr
    refine⟨by simp[h1],fun j y e=>?_⟩
    cases j with
    |zero=>(injection e with e;subst e);exact⟨i,rfl,hf⟩
    |succ j=>exact h2 j y e
section
variable {prog:Program}{w:World}{hb:Heap}{P:Pm}{K₀:Frag}{dep:Nat}
theorem gu {env:Env}{T:Tb}(E:CxE env T){x:Str}{scope:Scope}(hs:dX T x scope=true){fs:List Str}(hfs:fs=(scope.names.filter fun p=>p.2==.free).map (·.1)) :
  ScopeOk scope x env∧(x::fs).Nodup∧(∀y∈fs,scope.names.lookup y=some .free)∧∀cl C,EnvOk (compEnvC scope cl C env)→CxE (compEnvC scope cl C env) {T with names:=x::fs,kinds:=scope.names}:=by
 unfold dX at hs
 simp only[Bool.and_eq_true,List.all_eq_true] at hs
 obtain⟨⟨⟨⟨⟨h1,h2⟩,h3⟩,h4⟩,h5⟩,h6⟩:=hs
 have hnd:(x::fs).Nodup:=by rw[hfs];exact of_decide_eq_true h6
 have hk:scope.kind=.function:=beq_iff_eq.mp h2
 refine⟨⟨fun y hy=>by simpa using h1 y hy,hk,fun y hy e=>?_,beq_iff_eq.mp h4,fun y hy=>?_⟩,hnd,fun y hy=>?_,fun cl C EO=>⟨EO,E.gl,E.bl,fun y e=>cK (by decide) e,fun y e=>lookup_relabel_local e,fun y e=>?_,hnd⟩⟩
 ·have:=h3 y hy
  simpa [e] using this
 ·have:=h5 (y,.free) hy
  simp only[bne_self_eq_false,Bool.false_or,Bool.and_eq_true] at this
  exact E.kc y (beq_iff_eq.mp this.1)
 ·rw[hfs] at hy
  obtain⟨p,hp,rfl⟩:=List.mem_map.mp hy
  obtain⟨hp,hq⟩:=List.mem_filter.mp hp
  have:=h5 p hp
  rw[beq_iff_eq.mp hq] at this
  simp only[bne_self_eq_false,Bool.false_or,Bool.and_eq_true] at this
  exact beq_iff_eq.mp this.2
 ·have:=h1 _ (mem_of_lookup e)
  contradiction
def SE (prog:Program)(w:World)(hb:Heap)(P:Pm)(T:Tb)(env:Env)(A:Around)(pr:List Nat)(e:Expr)(ie:IE):Prop:=
 (∀n l c K,wpE P n ie l c K→Ev prog w A hb pr env (ad T.names l) c e K)∧(∀n l c K,wpT P n ie l c K→Tst prog w A hb pr env (ad T.names l) c e K)
def pL (prog:Program)(w:World)(hb:Heap)(P:Pm)(K₀:Frag)(dep m:Nat):Prop:=
 ∀(T:Tb) (env:Env) (A:Around) (pr:List Nat),Cx0 prog w hb K₀ T P dep→CxE env T→Room (dep+1) A→∀e ie,aG m T e=some ie→SE prog w hb P T env A pr e ie
section
variable {T:Tb}{env:Env}{A:Around}{pr:List Nat}{f:Expr→Option IE}(hf:∀a ia,f a=some ia→SE prog w hb P T env A pr a ia)
include hf
theorem dW:∀{es:List Expr} {ies:List IE},ec f es=some ies→∀n l c K,gv P n ies l c K→OkArgs prog w A hb pr env (ad T.names l) es c K:=by
 intro es
 induction es with
 |nil=>
  intro ies h n l c K hw
  (injection h with h;subst h)
  cases n with
  |zero=>exact hw.elim
  |succ n=>exact hw
 |cons e r ih=>
  intro ies h n l c K hw
  obtain⟨x,y,h1,h2,rfl⟩:=cO h
  cases n with
  |zero=>exact hw.elim
  |succ n=>
   exact OkE.mono ((hf e x h1).1 n l c _ hw) fun v c1 k=>ih h2 n l c1 _ k
theorem pP {o:Option Expr}{ie:IE}(h:wW f o=some ie)(n:Nat)(l:Sl)(c:aa)(K:V→aa→Prop)(hw:wpE P n ie l c K):OkE (model prog w) A hb pr env IsV (ad T.names l) c (evalPart o env) K:=by
 cases o with
 |none=>
  (injection h with h;subst h)
  cases n with
  |zero=>exact hw.elim
  |succ n=>
   exact fun α s Q hs F hq=>evalPart_none_step (hq _ c α _ s.heap s.toks hs hw F (.refl ..) .none)
 |some e=>
  have:=(hf e ie h).1 n l c K hw
  exact fun α s Q hs F hq=>evalPart_some_step (this α s Q hs F hq)
end
end
theorem fh {β:Type}{q:Str×β→Bool}:∀(l:List (Str×β)) (x:Str),(∀v,q (x,v)=true)→look (l.filter q) x=look l x
 | [],_,_=>rfl
 | (y,u)::r,x,h=>by
  rw[List.filter_cons]
  by_cases e:y=x
  ·subst e;rw[if_pos (h u)];dsimp only[look];simp
  ·by_cases hy:q (y,u)=true
   ·rw[if_pos hy];dsimp only[look];rw[if_neg e,if_neg e];exact fh r x h
   ·rw[if_neg hy];dsimp only[look];rw[if_neg e];exact fh r x h
theorem lU {names:List Str}:∀{x:Str} {i:Nat},aL names x=some i→names[i]?=some x:=by
 induction names with
 |nil=>intro x i h;contradiction
 |cons y ys ih=>
  intro x i h
  dsimp only[aL] at h
  by_cases e:y=x
  ·rw[if_pos e] at h;(injection h with h;subst h);rw[e];rfl
  ·rw[if_neg e] at h
   cases hs:aL ys x with
   |none=>rw[hs] at h;contradiction
   |some j=>rw[hs] at h;(injection h with h;subst h);exact ih hs
theorem pF {names:List Str}{y:Str}(h:y∈names):∃i,aL names y=some i:=by
 cases e:aL names y with
 |none=>exact absurd h (fF e)
 |some i=>exact⟨i,rfl⟩
theorem oa {T:Tb}(nd:T.names.Nodup){x:Str}{scope:Scope}{fs:List Str}{is:List Nat}(hfs:fs=(scope.names.filter fun p=>p.2==.free).map (·.1))(his:fs.mapM (aL T.names)=some is)(hnd:(x::fs).Nodup)(hfree:∀y∈fs,scope.names.lookup y=some .free)(l:Sl)(d:D)(y:Str) :
  look (ad (x::fs) (some (.d d)::is.map (aI l))) y=look (put (ce scope (ad T.names l)) x (.d d)) y:=by
 simp only[am]
 show look ((x,V.d d)::ad fs (is.map (aI l))) y=_
 dsimp only[look]
 by_cases e:x=y
 ·subst e;simp
 rw[if_neg e,if_neg (fun q=>e q.symm)]
 by_cases hy:y∈fs
 ·obtain⟨j,hj⟩:=pF hy
  rw[cq (List.nodup_cons.mp hnd).2 _ hj]
  obtain⟨hlen,hm⟩:=gV his
  obtain⟨i,h1,h2⟩:=hm j y (lU hj)
  unfold ce
  rw[fh _ _ (fun v=>by rw[hfree y hy];rfl),cq nd l h2]
  show (match (is.map (aI l))[j]? with|some o=>o|none=>none)=_
  rw[List.getElem?_map,h1]
  rfl
 ·rw[dR _ _ hy]
  cases e':look (ce scope (ad T.names l)) y with
  |none=>rfl
  |some v=>
   obtain⟨_,h2⟩:=eK e'
   exact absurd (by rw[hfs];exact List.mem_map.mpr ⟨(y,.free),List.mem_filter.mpr ⟨mem_of_lookup h2,rfl⟩,rfl⟩) hy
section
variable {prog:Program}{w:World}{hb:Heap}{P:Pm}{K₀:Frag}{dep:Nat}
theorem Cx0.names {T:Tb}(X:Cx0 prog w hb K₀ T P dep)(ns:List Str)(ks:List (Str×NameKind)):Cx0 prog w hb K₀ {T with names:=ns,kinds:=ks} P dep:=
 ⟨X.kin,X.glob,X.cls,X.attr,X.meth,X.fn,X.makes,X.ini,X.inif,X.keep,X.tab⟩
theorem forIn_nil {M:Model}{A:Around}{pr:List Nat}{env:Env}{l:Loc}{c:aa}{f:Expr→Bool→Sem (ForInStep Bool)}{K:Bool→aa→Prop}(h:K true c) :
  OkE M A hb pr env okB l c (forIn ([]:List Expr) true f) K:=
 fun α s Q hs F hq=>wpAny_pure (hq true c α true s.heap s.toks hs h F (.refl ..) rfl)
theorem pi {M:Model}{A:Around}{pr:List Nat}{env env':Env}{l:Loc}{c:aa}{t:Expr}{K:Bool→aa→Prop}(h:OkE M A hb pr env okB l c (isTrue t env' (eval t env')) K) :
  OkE M A hb pr env okB l c (forIn [t] true fun c r=>if r=true then do let ok ←isTrue c env' (eval c env');pure (ForInStep.yield ok) else pure (ForInStep.yield r)) K:=by
 have e:(forIn [t] true fun c r=>if r=true then do let ok ←isTrue c env' (eval c env');pure (ForInStep.yield ok) else pure (ForInStep.yield r):Sem Bool)=(do let ok ←isTrue t env' (eval t env');pure ok):=by
  simp
 simp only[e]
 intro α s Q hs F hq
 exact h α s Q hs F hq
theorem fE {m:Nat}(ihE:pL prog w hb P K₀ dep m){T:Tb}{env:Env}{A:Around}{pr:List Nat}(X:Cx0 prog w hb K₀ T P dep)(E:CxE env T)(R:Room (dep+1) A)
  {x:Str} {scope:Scope} (hs:dX T x scope=true) {fs:List Str} {is:List Nat} (hf:eH T x scope=some (fs,is)) {elt:Expr} {ifs:List Expr} {ie:IE} {it:Option IE}
  (he:aG m {T with names:=x::fs,kinds:=scope.names} elt=some ie) (ht:(ifs=[]∧it=none)∨∃t jt,ifs=[t]∧aG m {T with names:=x::fs,kinds:=scope.names} t=some jt∧it=some jt)
  {n:Nat} {l:Sl} {kk:Nat} {v:V} {c1:aa} {K:V→aa→Prop}
  (hw:kF (wpE P n) (wpT P n) ie it (is.map (aI l)) kk K v c1) :
  nk prog w A hb pr env (ad T.names l) x elt ifs scope kk v c1 K:=by
 have hfs:fs=(scope.names.filter fun p=>p.2==.free).map (·.1)∧fs.mapM (aL T.names)=some is:=by
  unfold eH at hf
  dsimp only at hf
  cases q:((scope.names.filter fun p=>p.2==.free).map (·.1)).mapM (aL T.names) with
  |none=>rw[q] at hf;contradiction
  |some is'=>rw[q] at hf;(injection hf with hf;injection hf with hf hf_;subst hf hf_);exact⟨rfl,q⟩
 obtain⟨SO,hnd,hfree,hE⟩:=gu E hs hfs.1
 obtain⟨h1,xs,h2,h3,h4,I,h5,h6,h7⟩:=hw
 refine⟨h1,xs,h2,h3,h4,I,h5,fun i d acc c' hd hI=>?_,h7⟩
 obtain⟨h8,h9⟩:=h6 i d acc c' hd hI
 refine⟨h8,fun cl C EO=>?_⟩
 have X':=X.names (x::fs) scope.names
 have E':=hE cl C EO
 have lk:=fun y=>(oa E.nd hfs.1 hfs.2 hnd hfree l d y).symm
 have hel:=fun c2 K' h=>OkE.look lk ((ihE _ _ A pr X' E' R elt ie he).1 n (some (.d d)::is.map (aI l)) c2 K' h)
 rcases ht with ⟨rfl,rfl⟩|⟨t,jt,rfl,ht,rfl⟩
 ·refine forIn_nil ⟨fun _=>?_,fun q=>by cases q⟩
  exact hel _ _ h9
 ·refine pi (OkE.look lk (OkE.mono ((ihE _ _ A pr X' E' R t jt ht).2 n _ _ _ h9) fun r c2 k=>⟨fun q=>hel _ _ (k.1 q),k.2⟩))
end
section
variable {prog:Program}{w:World}{hb:Heap}{P:Pm}{K₀:Frag}{dep:Nat}
theorem od {e:IE}(he:(match e with | .cmp .. | .not .. | .and .. | .or .. | .c .. | .ite ..=>false|_=>true)=true){n:Nat}{l:Sl}{c:aa}{K:Bool→aa→Prop}(h:wpT P n e l c K) :
  ∃n,wpE P n e l c fun u c1=>bJ c1 u fun r=>K r c1:=by
 cases n with
 |zero=>exact False.elim h
 |succ n=>cases e<;>first | (simp at he;done) | (exact⟨n,h⟩)
theorem eA {T:Tb}{env:Env}{A:Around}{pr:List Nat}{e:Expr}{ie:IE}(he:∀env',isTrue e env' (eval e env')=(do let v ←eval e env';standAt e.pos;holding [v] (truthy v)))
  (hi:(match ie with | .cmp .. | .not .. | .and .. | .or .. | .c .. | .ite ..=>false|_=>true)=true)
  (h:∀n l c K,wpE P (n+1) ie l c K→Ev prog w A hb pr env (ad T.names l) c e K) :
  SE prog w hb P T env A pr e ie:=by
 have h':∀n l c K,wpE P n ie l c K→Ev prog w A hb pr env (ad T.names l) c e K:=fun n l c K k=>by
  cases n with
  |zero=>exact False.elim k
  |succ n=>exact h n l c K k
 refine⟨h',fun n l c K k=>?_⟩
 obtain⟨m,k⟩:=od hi k
 exact qO (he env) (h' m l c _ k)
theorem u3 {T:Tb}{env:Env}{A:Around}{pr:List Nat}{e:Expr}{d:D}
  (h:∀l c (K:V→aa→Prop),K (.d d) c→Ev prog w A hb pr env l c e K) :
  SE prog w hb P T env A pr e (.c d):=by
 refine⟨fun n l c K k=>?_,fun n l c K k=>?_⟩
 ·cases n with
  |zero=>exact False.elim k
  |succ n=>exact h _ c K k
 ·cases n with
  |zero=>exact False.elim k
  |succ n=>exact False.elim k
theorem aW {α β:Type}{a:Option α}{f:α→Option β}{r:β}(h:(a>>=f)=some r):∃x,a=some x∧f x=some r:=by
 cases a with
 |none=>contradiction
 |some x=>exact⟨x,rfl,h⟩
theorem u4 {α β δ ε γ:Type}{a:Option α}{b:Option β}{d:Option δ}{e:Option ε}{f:α→β→δ→ε→γ}{r:γ}(h:(do return f (←a) (←b) (←d) (←e))=some r):∃x y z u,a=some x∧b=some y∧d=some z∧e=some u∧r=f x y z u:=by
 obtain⟨x,hx,h⟩:=aW h
 obtain⟨y,hy,h⟩:=aW h
 obtain⟨z,hz,h⟩:=aW h
 obtain⟨u,hu,h⟩:=aW h
 exact⟨x,y,z,u,hx,hy,hz,hu,(Option.some.inj h).symm⟩
theorem tt {nm:Str}{m:Mn}(h:wq nm=some m):nm=m.nm:=eq_of_beq (List.find?_some (p:=fun m:Mn=>nm==m.nm) h)
theorem fj {c:aa}{v:V}{K K':Bool→Prop}(h:pe c v K)(hK:∀r,K r→K' r):pe c v K':=by
 unfold pe at h ⊢
 cases q:bX c v with
 |none=>rw[q] at h;exact h.elim
 |some p=>rw[q] at h;exact⟨h.1,hK _ h.2⟩
theorem fO {c:aa}{v:V}{K K':Bool→Prop}(h:bJ c v K)(hK:∀r,K r→K' r):bJ c v K':=by
 cases v with
 |d x=>cases x with
  |str x=>exact⟨h.1,hK _ h.2⟩
  |tup xs=>exact fj (c:=c) (v:=.d (.tup xs)) (K:=K) h hK
  |lst xs=>exact fj (c:=c) (v:=.d (.lst xs)) (K:=K) h hK
  |_=>exact hK _ h
 |mt e=>exact hK _ h
 |obj k=>exact fj (c:=c) (v:=.obj k) (K:=K) h hK
 |_=>exact h.elim
section
variable {A:Around}{pr:List Nat}{env:Env}{names:List Str}
theorem yV {a b:Expr}{r:List Expr}{p:Pos}{ia ib:IE}(ha:∀n l c K,wpE P n ia l c K→Ev prog w A hb pr env (ad names l) c a K)
  (hb':∀n l c K,wpE P n ib l c K→OkE (model prog w) A hb pr env IsV (ad names l) c (boolOp p .And (evalEach (b::r) env)) K) (n:Nat) (l:Sl) (c:aa) (K:V→aa→Prop) (k:wpE P n (.and ia ib) l c K) :
  Ev prog w A hb pr env (ad names l) c (.BoolOp .And (a::b::r) p) K:=by
 cases n with
 |zero=>exact False.elim k
 |succ n=>
  exact xB (OkE.mono (ha _ _ _ _ k) fun u c1 k1=>fO k1 fun r k2=>⟨k2.1,fun q=>hb' _ _ _ _ (k2.2 q)⟩)
theorem orV {a b:Expr}{r:List Expr}{p:Pos}{ia ib:IE}(ha:∀n l c K,wpE P n ia l c K→Ev prog w A hb pr env (ad names l) c a K)
  (hb':∀n l c K,wpE P n ib l c K→OkE (model prog w) A hb pr env IsV (ad names l) c (boolOp p .Or (evalEach (b::r) env)) K) (n:Nat) (l:Sl) (c:aa) (K:V→aa→Prop) (k:wpE P n (.or ia ib) l c K) :
  Ev prog w A hb pr env (ad names l) c (.BoolOp .Or (a::b::r) p) K:=by
 cases n with
 |zero=>exact False.elim k
 |succ n=>
  exact ze (OkE.mono (ha _ _ _ _ k) fun u c1 k1=>fO k1 fun r k2=>⟨k2.1,fun q=>hb' _ _ _ _ (k2.2 q)⟩)
theorem zb {a b:Expr}{r:List Expr}{p:Pos}{ia ib:IE}(ha:∀n l c K,wpT P n ia l c K→Tst prog w A hb pr env (ad names l) c a K)
  (hb':∀whole n l c K,wpT P n ib l c K→OkE (model prog w) A hb pr env okB (ad names l) c (isTrue (.BoolOp .And (b::r) p) env whole) K) (whole:Sem Value) (n:Nat) (l:Sl) (c:aa) (K:Bool→aa→Prop) (k:wpT P n (.and ia ib) l c K) :
  OkE (model prog w) A hb pr env okB (ad names l) c (isTrue (.BoolOp .And (a::b::r) p) env whole) K:=by
 cases n with
 |zero=>exact False.elim k
 |succ n=>
  exact rV (OkE.mono (ha _ _ _ _ k) fun r c1 k1=>⟨k1.1,fun q=>hb' _ _ _ _ _ (k1.2 q)⟩)
theorem orT {a b:Expr}{r:List Expr}{p:Pos}{ia ib:IE}(ha:∀n l c K,wpT P n ia l c K→Tst prog w A hb pr env (ad names l) c a K)
  (hb':∀whole n l c K,wpT P n ib l c K→OkE (model prog w) A hb pr env okB (ad names l) c (isTrue (.BoolOp .Or (b::r) p) env whole) K) (whole:Sem Value) (n:Nat) (l:Sl) (c:aa) (K:Bool→aa→Prop) (k:wpT P n (.or ia ib) l c K) :
  OkE (model prog w) A hb pr env okB (ad names l) c (isTrue (.BoolOp .Or (a::b::r) p) env whole) K:=by
 cases n with
 |zero=>exact False.elim k
 |succ n=>
  exact u7 (OkE.mono (ha _ _ _ _ k) fun r c1 k1=>⟨k1.1,fun q=>hb' _ _ _ _ _ (k1.2 q)⟩)
theorem zi {a:Expr}{p:Pos}{ia:IE}(ha:∀n l c K,wpT P n ia l c K→Tst prog w A hb pr env (ad names l) c a K)(whole:Sem Value)(n:Nat)(l:Sl)(c:aa)(K:Bool→aa→Prop)(k:wpT P n ia l c K) :
  OkE (model prog w) A hb pr env okB (ad names l) c (isTrue (.BoolOp .And [a] p) env whole) K:=
 rV (OkE.mono (ha _ _ _ _ k) fun r c2 k2=>⟨fun q=>by rw[q] at k2;exact k2,fun q=>pV (by rw[q] at k2;exact k2)⟩)
theorem orL {a:Expr}{p:Pos}{ia:IE}(ha:∀n l c K,wpT P n ia l c K→Tst prog w A hb pr env (ad names l) c a K)(whole:Sem Value)(n:Nat)(l:Sl)(c:aa)(K:Bool→aa→Prop)(k:wpT P n ia l c K) :
  OkE (model prog w) A hb pr env okB (ad names l) c (isTrue (.BoolOp .Or [a] p) env whole) K:=
 u7 (OkE.mono (ha _ _ _ _ k) fun r c2 k2=>⟨fun q=>by rw[q] at k2;exact k2,fun q=>uB (by rw[q] at k2;exact k2)⟩)
end
theorem jd {es:List Expr}{q:Expr×Expr}(h:two es=some q):es=[q.1,q.2]:=by
 match es,h with
 | [a,b],h=>cases h;rfl
theorem qo {es:List Expr}{q:Expr}(h:one es=some q):es=[q]:=by
 match es,h with
 | [a],h=>cases h;rfl
theorem nP {e:Expr}{x:Str}(h:pA e=some x):∃n p,e=.Constant (.str x) n p:=by
 unfold pA at h
 cases q:gz e with
 |none=>rw[q] at h;cases h
 |some k=>
  rw[q] at h
  obtain⟨n,p,rfl⟩:=iR q
  cases k<;>first | (cases h;exact⟨n,p,rfl⟩)|cases h
section
variable {T:Tb}{env:Env}{A:Around}{pr:List Nat}{f:Expr→Option IE}(hf:∀a ia,f a=some ia→SE prog w hb P T env A pr a ia)
theorem rG {k:Const}{n:Nat}{p:Pos}{ie:IE}(h:qS k=some ie):SE prog w hb P T env A pr (.Constant k n p) ie:=by
 cases k<;>first | (cases h;exact u3 fun l c K k=>rl rfl k)|cases h
theorem tN (X:Cx0 prog w hb K₀ T P dep)(E:CxE env T){x:Str}{p:Pos}{ie:IE}(h:gq T x=some ie):SE prog w hb P T env A pr (.Name x p) ie:=by
 refine eA (T:=T) (fun _=>rfl) ?_ fun n l c K k=>fW X E h k
 rcases (iM h).2 with ⟨i,_,rfl⟩|⟨v,_,_,rfl⟩<;>rfl
theorem xm {a:Expr}{p:Pos}{ie:IE}(h:w7 a=some ie):SE prog w hb P T env A pr (.UnaryOp .USub a p) ie:=by
 unfold w7 at h
 cases q:gz a with
 |none=>rw[q] at h;cases h
 |some k=>
  rw[q] at h
  obtain⟨n,p,rfl⟩:=iR q
  cases k<;>first | (cases h;exact u3 fun l c K k=>yq k)|cases h
include hf
theorem xc {a b:Expr}{op:Operator}{p:Pos}{ie:IE}(h:(do return IE.bin op (←f a) (←f b))=some ie):SE prog w hb P T env A pr (.BinOp a op b p) ie:=by
 obtain⟨x,y,h1,h2,rfl⟩:=cO h
 refine eA (T:=T) (fun _=>rfl) rfl fun n l c K k=>?_
 exact xY (OkE.mono ((hf _ _ h1).1 _ _ _ _ k) fun u c1 k1=>(hf _ _ h2).1 _ _ _ _ k1)
theorem ye {op:UnaryOp}{a:Expr}{p:Pos}{ie:IE}(h:unE f op a=some ie):SE prog w hb P T env A pr (.UnaryOp op a p) ie:=by
 cases op with
 |Not=>
  obtain⟨x,h1,rfl⟩:=dC h
  refine⟨fun n l c K k=>?_,fun n l c K k=>?_⟩
  ·cases n with
   |zero=>exact False.elim k
   |succ n=>exact yO ((hf _ _ h1).1 _ _ _ _ k)
  ·cases n with
   |zero=>exact False.elim k
   |succ n=>exact wc ((hf _ _ h1).2 _ _ _ _ k)
 |USub=>exact xm h
 |_=>contradiction
theorem yo {p:Pos}(op:BoolOp):∀(r:List Expr) (a:Expr) {ie:IE},nQ f op (a::r)=some ie→
  (∀n l c K,wpE P n ie l c K→OkE (model prog w) A hb pr env IsV (ad T.names l) c (boolOp p op (evalEach (a::r) env)) K)∧
  (∀whole n l c K,wpT P n ie l c K→OkE (model prog w) A hb pr env okB (ad T.names l) c (isTrue (.BoolOp op (a::r) p) env whole) K):=by
 intro r
 induction r with
 |nil=>
  intro a ie h
  have h:f a=some ie:=h
  cases op with
  |And=>exact⟨(hf _ _ h).1,zi (hf _ _ h).2⟩
  |Or=>exact⟨(hf _ _ h).1,orL (hf _ _ h).2⟩
 |cons b r ih=>
  intro a ie h
  cases op with
  |And=>
   obtain⟨x,y,h1,h2,rfl⟩:=cO (f:=fun x y=>IE.and x y) h
   exact⟨yV (p:=p) (hf _ _ h1).1 (ih b h2).1,zb (hf _ _ h1).2 (ih b h2).2⟩
  |Or=>
   obtain⟨x,y,h1,h2,rfl⟩:=cO (f:=fun x y=>IE.or x y) h
   exact⟨orV (p:=p) (hf _ _ h1).1 (ih b h2).1,orT (hf _ _ h1).2 (ih b h2).2⟩
theorem tx {op:BoolOp}{es:List Expr}{p:Pos}{ie:IE}(h:uN f op es=some ie):SE prog w hb P T env A pr (.BoolOp op es p) ie:=by
 match es,h with
 |a::b::r,h=>
  have q:=yo (p:=p) hf op (b::r) a h
  exact⟨q.1,q.2 _⟩
theorem vj (X:Cx0 prog w hb K₀ T P dep)(R:Room (dep+1) A){a:Expr}{ops:List CmpOp}{bs:List Expr}{p:Pos}{ie:IE}(h:yN f T a ops bs=some ie):SE prog w hb P T env A pr (.Compare a ops bs p) ie:=by
 match ops,bs,h with
 | [op],[b],h=>
  have h:(if fg b then (do return .cmp op (←f a) (←f b)) else none)=some ie:=h
  obtain⟨hset,h⟩:=ifO h
  obtain⟨x,y,h1,h2,rfl⟩:=cO h
  refine⟨fun n l c K k=>?_,fun n l c K k=>?_⟩
  ·cases n with
   |zero=>exact False.elim k
   |succ n=>exact xZ R hset (OkE.mono ((hf _ _ h1).1 _ _ _ _ k) fun u c1 k1=>(hf _ _ h2).1 _ _ _ _ k1)
  ·cases n with
   |zero=>exact False.elim k
   |succ n=>exact wd R hset (OkE.mono ((hf _ _ h1).1 _ _ _ _ k) fun u c1 k1=>(hf _ _ h2).1 _ _ _ _ k1)
theorem vB (X:Cx0 prog w hb K₀ T P dep){a i:Expr}{p:Pos}{ie:IE}(h:wA f T a i=some ie):SE prog w hb P T env A pr (.Subscript a i p) ie:=by
 unfold wA at h
 by_cases hn:cT i=true
 ·rw[if_pos hn] at h
  obtain⟨x,y,h1,h2,rfl⟩:=cO h
  refine eA (T:=T) (fun _=>rfl) rfl fun n l c K k=>?_
  exact xe hn (OkE.mono ((hf _ _ h1).1 _ _ _ _ k) fun u c1 k1=>(hf _ _ h2).1 _ _ _ _ k1)
 ·rw[if_neg hn] at h
  cases hs:ms i with
  |none=>rw[hs] at h;contradiction
  |some q=>
   obtain⟨lo,hi,st⟩:=q
   rw[hs] at h
   obtain⟨p,rfl⟩:=pu hs
   cases st with
   |some e=>contradiction
   |none=>
    obtain⟨x,y,z,h1,h2,h3,rfl⟩:=eR h
    refine eA (T:=T) (fun _=>rfl) rfl fun n l c K k=>?_
    exact uG (OkE.mono ((hf _ _ h1).1 _ _ _ _ k) fun u c1 k1=>OkE.mono (pP hf h2 _ _ _ _ k1) fun v c2 k2=>pP hf h3 _ _ _ _ k2)
theorem tP (X:Cx0 prog w hb K₀ T P dep){a:Expr}{nm:Str}{p:Pos}{ie:IE}(h:rj f T a nm p=some ie):SE prog w hb P T env A pr (.Attribute a nm p) ie:=by
 unfold rj at h
 obtain⟨hsup,h⟩:=ifO h
 by_cases hnm:nm=Mn.append.nm
 ·rw[if_pos hnm] at h
  obtain⟨x,y,h1,h2,rfl⟩:=cO h
  refine eA (T:=T) (fun _=>rfl) rfl fun n l c K k=>?_
  rw[hnm]
  exact yH hsup ((hf _ _ h1).1 _ _ _ _ k)
 ·rw[if_neg hnm] at h
  obtain⟨x,h1,rfl⟩:=dC h
  refine eA (T:=T) (fun _=>rfl) rfl fun n l c K k=>?_
  exact vK X hsup ((hf _ _ h1).1 _ _ _ _ k)
theorem vN {es:List Expr}{k:Nat}{p:Pos}{ie:IE}(h:(if bK es then (do return IE.tup (←ec f es)) else none)=some ie):SE prog w hb P T env A pr (.Tuple es k p) ie:=by
 obtain⟨hst,h⟩:=ifO h
 obtain⟨x,h1,rfl⟩:=dC h
 refine eA (T:=T) (fun _=>rfl) rfl fun n l c K k=>?_
 exact qY hst (dW hf h1 _ _ _ _ k)
theorem w9 {es:List Expr}{p:Pos}{ie:IE}(h:(if bK es then (do return IE.lst (←ec f es) (T.cell p)) else none)=some ie):SE prog w hb P T env A pr (.List es p) ie:=by
 obtain⟨hst,h⟩:=ifO h
 obtain⟨x,h1,rfl⟩:=dC h
 refine eA (T:=T) (fun _=>rfl) rfl fun n l c K k=>?_
 exact x9 hst (dW hf h1 _ _ _ _ k)
theorem tc {o a b:Expr}{y z:Str}{apos pos:Pos}(hsup:be o=true)(hline:(apos.endLine==pos.line)=true)(ha:pA a=some y)(hb':pA b=some z){x:IE}(h1:f o=some x):SE prog w hb P T env A pr (.Call (.Attribute o (Str.ofString "replace") apos) [a,b] [] pos) (.repl x y z):=by
 obtain⟨n1,p1,rfl⟩:=nP ha
 obtain⟨n2,p2,rfl⟩:=nP hb'
 refine eA (T:=T) (fun _=>rfl) rfl fun n l c K k=>?_
 exact wu hsup hline ((hf _ _ h1).1 _ _ _ _ k)
theorem tV (X:Cx0 prog w hb K₀ T P dep)(E:CxE env T)(R:Room (dep+1) A){o:Expr}{nm:Str}{args:List Expr}{apos pos:Pos}(hsup:be o=true)(hst:bK args=true)(hfew:args.length<30)(hline:(apos.endLine==pos.line)=true){ie:IE}(h:qP f T o nm args=some ie) :
  SE prog w hb P T env A pr (.Call (.Attribute o nm apos) args [] pos) ie:=by
 unfold qP at h
 by_cases hr:nm=Str.ofString "replace"
 ·rw[if_pos hr] at h
  subst hr
  obtain⟨q,hq,h⟩:=aW h
  obtain⟨y,hy,h⟩:=aW h
  obtain⟨z,hz,h⟩:=aW h
  obtain⟨x,h1,rfl⟩:=dC h
  rw[jd hq]
  exact tc hf hsup hline hy hz h1
 rw[if_neg hr] at h
 by_cases ht:nm=Str.ofString "translate"
 ·rw[if_pos ht] at h
  subst ht
  obtain⟨a,ha,h⟩:=aW h
  obtain⟨q,hq,h⟩:=aW h
  rw[qo ha,bA hq]
  obtain⟨n',hname,h⟩:=aW h
  obtain⟨d,hd,h⟩:=aW h
  obtain⟨x,h1,rfl⟩:=dC h
  rw[mV hd] at hname
  exact eA (T:=T) (fun _=>rfl) rfl fun n l c K k=>uy X hsup hline (fun c1 K' k'=>fW X E hname (n:=1) k') ((hf _ _ h1).1 _ _ _ _ k)
 rw[if_neg ht] at h
 cases hm:wq nm with
 |some m=>
  rw[hm] at h
  obtain⟨x,y,h1,h2,rfl⟩:=cO (f:=fun a b=>IE.meth a m b) h
  refine eA (T:=T) (fun _=>rfl) rfl fun n l c K k=>?_
  rw[tt hm]
  exact wZ hsup hst hfew hline (OkE.mono ((hf _ _ h1).1 _ _ _ _ k) fun u c1 k1=>⟨k1.1,dW hf h2 _ _ _ _ k1.2⟩)
 |none=>
  rw[hm] at h
  obtain⟨x,y,z,h1,h2,h3,rfl⟩:=eR (f:=fun a b d=>IE.umeth a b nm d) h
  refine eA (T:=T) (fun _=>rfl) rfl fun n l c K k=>?_
  exact uk X R h2 hsup hst hfew hline (OkE.mono ((hf _ _ h1).1 _ _ _ _ k) fun u c1 k1=>⟨k1.1,dW hf h3 _ _ _ _ k1.2⟩)
theorem xx (X:Cx0 prog w hb K₀ T P dep)(E:CxE env T)(R:Room (dep+1) A){x:Str}{p pos:Pos}{args:List Expr}(hst:bK args=true){ie:IE}(h:fnE f T x args pos=some ie):SE prog w hb P T env A pr (.Call (.Name x p) args [] pos) ie:=by
 unfold fnE at h
 cases hm:T.mak x pos with
 |some q=>
  obtain⟨C,k,dk⟩:=q
  rw[hm] at h
  obtain⟨n',hname,h⟩:=aW h
  obtain⟨C',hd,h⟩:=aW h
  obtain⟨rfl,h⟩:=ifO h
  obtain⟨y,h1,rfl⟩:=dC h
  rw[mV hd] at hname
  refine eA (T:=T) (fun _=>rfl) rfl fun n l c K k=>?_
  obtain⟨rfl,k⟩:=(k:C'=P.C∧_)
  exact ww X R hst (fun c1 K' k'=>fW X E hname (n:=1) k') (dW hf h1 _ _ _ _ k)
 |none=>
  rw[hm] at h
  obtain⟨y,z,h1,h2,rfl⟩:=cO (f:=fun a b=>IE.call a b (T.cell pos)) h
  refine eA (T:=T) (fun _=>rfl) rfl fun n l c K k=>?_
  exact wN X R hst (OkE.mono (fW X E h1 k) fun u c1 k1=>dW hf h2 _ _ _ _ k1)
theorem su (X:Cx0 prog w hb K₀ T P dep)(E:CxE env T)(R:Room (dep+1) A){g:Expr}{args:List Expr}{kws:List Keyword}{pos:Pos}{ie:IE}(h:qs f T g args kws pos=some ie):SE prog w hb P T env A pr (.Call g args kws pos) ie:=by
 unfold qs at h
 obtain⟨hc,h⟩:=ifO h
 obtain⟨hk,hst⟩:=Bool.and_eq_true_iff.mp hc
 rw[List.isEmpty_iff.mp hk]
 cases hq:ea g with
 |some q=>
  obtain⟨o,nm,apos⟩:=q
  rw[hq] at h
  rw[dB hq]
  obtain⟨hc,h⟩:=ifO h
  obtain⟨hc,hline⟩:=Bool.and_eq_true_iff.mp hc
  obtain⟨hsup,hfew⟩:=Bool.and_eq_true_iff.mp hc
  exact tV hf X E R hsup hst (of_decide_eq_true hfew) hline h
 |none=>
  rw[hq] at h
  cases hn:b7 g with
  |none=>rw[hn] at h;contradiction
  |some q=>
   rw[hn] at h
   rw[bA hn]
   exact xx hf X E R hst h
end
inductive LcO (f:Tb→Expr→Option IE)(T:Tb)(elt:Expr)(gs:List Comprehension)(scope:Scope)(ie:IE):Prop
 |mk (x:Str) (px:Pos) (iter:Expr) (ifs:List Expr) (fs:List Str) (is:List Nat) (k:Nat) (e it:IE) (jt:Option IE) (g:gs=[⟨.Name x px,iter,ifs,0⟩]) (s:dX T x scope=true) (o:eg iter=true) (r:eH T x scope=some (fs,is)) (e1:f (iz T x fs scope) elt=some e) (e2:f T iter=some it)
   (j:(ifs=[]∧jt=none)∨∃t j,ifs=[t]∧f (iz T x fs scope) t=some j∧jt=some j) (z:ie=.comp e it jt is k)
theorem vL {f:Tb→Expr→Option IE}{T:Tb}{elt iter:Expr}{ifs:List Expr}{scope:Scope}{ie:IE}{q:Str×Pos}{r:List Str×List Nat}{k:Nat}{e it:IE}(hs:dX T q.1 scope=true)(hfold:eg iter=true)(hr:eH T q.1 scope=some r)(he:f (iz T q.1 r.1 scope) elt=some e)(hit:f T iter=some it)
  (h:(match ifs with | []=>some (IE.comp e it none r.2 k)|t::ts=>if ts.isEmpty then (do return IE.comp e it (some (←f (iz T q.1 r.1 scope) t)) r.2 k) else none)=some ie):LcO f T elt [⟨.Name q.1 q.2,iter,ifs,0⟩] scope ie:=by
 cases ifs with
 |nil=>exact⟨q.1,q.2,iter,[],r.1,r.2,k,e,it,none,rfl,hs,hfold,hr,he,hit,.inl ⟨rfl,rfl⟩,(Option.some.inj h).symm⟩
 |cons t ts=>
  obtain⟨hte,h⟩:=ifO h
  obtain⟨j,hj,rfl⟩:=dC h
  have:ts=[]:=List.isEmpty_iff.mp hte
  subst this
  exact⟨q.1,q.2,iter,[t],r.1,r.2,k,e,it,some j,rfl,hs,hfold,hr,he,hit,.inr ⟨t,j,rfl,hj,rfl⟩,rfl⟩
theorem m6 {f:Tb→Expr→Option IE}{T:Tb}{elt:Expr}{gs:List Comprehension}{scope:Scope}{pos:Pos}{ie:IE}(h:lcE f T elt gs scope pos=some ie):LcO f T elt gs scope ie:=by
 match gs,h with
 | [g],h=>
  obtain⟨tg,iter,ifs,asy⟩:=g
  obtain⟨q,hq,h⟩:=aW h
  obtain⟨hc,h⟩:=ifO h
  obtain⟨hc,_⟩:=Bool.and_eq_true_iff.mp hc
  obtain⟨hc,hfold⟩:=Bool.and_eq_true_iff.mp hc
  obtain⟨hasy,hs⟩:=Bool.and_eq_true_iff.mp hc
  obtain⟨r,hr,h⟩:=aW h
  obtain⟨k,hk,h⟩:=aW h
  obtain⟨e,he,h⟩:=aW h
  obtain⟨it,hit,h⟩:=aW h
  rw[(beq_iff_eq.mp hasy:asy=0),(bA hq:tg=_)]
  exact vL hs hfold hr he hit h
theorem x7 {m:Nat}(ihE:pL prog w hb P K₀ dep m){T:Tb}{env:Env}{A:Around}{pr:List Nat}(X:Cx0 prog w hb K₀ T P dep)(E:CxE env T)(R:Room (dep+1) A){elt:Expr}{gs:List Comprehension}{scope:Scope}{pos:Pos}{ie:IE}(h:lcE (aG m) T elt gs scope pos=some ie) :
  SE prog w hb P T env A pr (.ListComp elt gs scope pos) ie:=by
 obtain⟨x,px,iter,ifs,fs,is,k,e,it,jt,rfl,hs,hfold,hr,he,hit,hj,rfl⟩:=m6 h
 obtain⟨SO,_⟩:=gu E hs rfl
 exact eA (T:=T) (fun _=>rfl) rfl fun n l c K kk=>vI E R SO hfold (OkE.mono ((ihE T env A pr X E R iter it hit).1 _ _ _ _ kk) fun v c1 k1=>fE ihE X E R hs hr he hj k1)
theorem wn {T:Tb}{env:Env}{A:Around}{pr:List Nat}{f:Expr→Option IE}(hf:∀a ia,f a=some ia→SE prog w hb P T env A pr a ia){t a b:Expr}{p:Pos}{ie:IE}(h:(do return IE.ite (←f t) (←f a) (←f b))=some ie):SE prog w hb P T env A pr (.IfExp t a b p) ie:=by
 obtain⟨x,y,z,h1,h2,h3,rfl⟩:=eR (f:=fun a b d=>IE.ite a b d) h
 refine⟨fun n l c K k=>?_,fun n l c K k=>?_⟩
 ·cases n with
  |zero=>exact False.elim k
  |succ n=>
   intro α s Q hs F hq
   refine wpAny_IfExp ((hf _ _ h1).2 _ _ _ _ k α s _ hs F fun r c1 α1 g h1' t1 ht1 k1 F1 L1 i1=>?_)
   cases i1
   cases r with
   |true=>exact (hf _ _ h2).1 _ _ _ _ (k1.1 rfl) α1 _ Q ht1 F1 fun v c2 α2 g h' tk ht k2 F2 L2 i=>hq v c2 α2 g h' tk ht k2 F2 (L1.trans L2) i
   |false=>exact (hf _ _ h3).1 _ _ _ _ (k1.2 rfl) α1 _ Q ht1 F1 fun v c2 α2 g h' tk ht k2 F2 L2 i=>hq v c2 α2 g h' tk ht k2 F2 (L1.trans L2) i
 ·cases n with
  |zero=>exact False.elim k
  |succ n=>exact False.elim k
theorem ow {m:Nat}(ihE:pL prog w hb P K₀ dep m):pL prog w hb P K₀ dep (m+1):=by
 intro T env A pr X E R e ie h
 have hf:=fun a ia (ha:aG m T a=some ia)=>ihE T env A pr X E R a ia ha
 cases e with
 |Constant k n p=>exact rG h
 |Name x p=>exact tN X E h
 |BinOp a op b p=>exact xc hf h
 |UnaryOp op a p=>exact ye hf h
 |BoolOp op es p=>exact tx hf h
 |Compare a ops bs p=>exact vj hf X R h
 |Subscript a i p=>exact vB hf X h
 |Attribute a nm p=>exact tP hf X h
 |Tuple es k p=>exact vN hf h
 |List es p=>exact w9 hf h
 |IfExp t a b p=>exact wn hf h
 |Call g args kws p=>exact su hf X E R h
 |ListComp elt gs scope p=>exact x7 ihE X E R h
 |_=>contradiction
theorem snd (m:Nat):pL prog w hb P K₀ dep m:=by
 induction m with
 |zero=>exact fun T env A pr X E R e ie h=>nomatch h
 |succ m ih=>exact ow ih
end
section
variable {M:Model}{A:Around}{hb:Heap}{pr:List Nat}{env:Env}
theorem OkS.look {l l':Loc}{c:aa}{t:Sem Flow}{K:F→Sg→Prop}(e:∀x,Mine.look l' x=Mine.look l x)(h:OkS M A hb pr env ⟨l',c⟩ t K):OkS M A hb pr env ⟨l,c⟩ t K:=
 fun α s Q hs F hq=>h α s Q hs (F.look fun x v q=>by rw[←e];exact q) hq
theorem OkS.mono {σ:Sg}{t:Sem Flow}{K K':F→Sg→Prop}(h:OkS M A hb pr env σ t K)(hK:∀f τ,K f τ→K' f τ):OkS M A hb pr env σ t K':=
 fun α s Q hs F hq=>h α s Q hs F fun f τ α' g h' tk ht k=>hq f τ α' g h' tk ht (hK f τ k)
end
def KS (names:List Str)(K:F→Sg'→Prop):F→Sg→Prop:=fun f τ=>∃σ:Sg',σ.l.length=names.length∧τ=⟨ad names σ.l,σ.c⟩∧K f σ
theorem lY {names:List Str}(nd:names.Nodup):∀{j:Nat} {x:Str},names[j]?=some x→aL names x=some j:=by
 induction names with
 |nil=>intro j x h;simp at h
 |cons y ys ih=>
  intro j x h
  obtain⟨h1,h2⟩:=List.nodup_cons.mp nd
  dsimp only[aL]
  cases j with
  |zero=>simp at h;rw[if_pos h]
  |succ j=>
   simp at h
   have:y≠x:=fun e=>h1 (e▸List.mem_of_getElem? h)
   rw[if_neg this,ih h2 h];rfl
theorem js {names:List Str}(nd:names.Nodup){l:Sl}{c c':aa}:∀(ns:List Str) (r:Sl) (i:Nat),(∀j x,ns[j]?=some x→names[i+j]?=some x)→slW l c c' i r→mn (ad names l) c c' (ad ns r)
 | [],r,i,_,_=>by cases r<;>trivial
 |n::ns,[],i,_,_=>by show mn _ _ _ [];trivial
 |n::ns,none::r,i,h,hw=>by
  show mn _ _ _ (ad ns r)
  exact js nd ns r (i+1) (fun j x e=>by have:=h (j+1) x e;rw[show i+1+j=i+(j+1) by exact Om.o23];exact this) hw
 |n::ns,some v::r,i,h,hw=>by
  show (∃v',look (ad names l) n=some v'∧vW c c' v' v)∧mn _ _ _ (ad ns r)
  refine⟨?_,js nd ns r (i+1) (fun j x e=>by have:=h (j+1) x e;rw[show i+1+j=i+(j+1) by exact Om.o23];exact this) hw.2⟩
  obtain⟨v',h1,h2⟩:=hw.1
  exact⟨v',by rw[cq nd l (lY nd (h 0 n rfl))];exact h1,h2⟩
theorem Wk.weak {names:List Str}(nd:names.Nodup){pr:List Nat}{σ τ:Sg'}(h:Wk pr σ τ):Weak pr ⟨ad names σ.l,σ.c⟩ ⟨ad names τ.l,τ.c⟩:=
 ⟨js nd names τ.l 0 (fun j x e=>by rw[Nat.zero_add];exact e) h.l,h.c,h.pr⟩
section
variable {prog:Program}{w:World}{hb:Heap}{P:Pm}{K₀:Frag}{dep:Nat}
def tT (prog:Program)(w:World)(hb:Heap)(P:Pm)(K₀:Frag)(dep m:Nat):Prop:=
 ∀(T:Tb) (env:Env) (A:Around) (pr:List Nat),Cx0 prog w hb K₀ T P dep→CxE env T→Room (dep+1) A→
  ∀st ist,vh m T st=some ist→∀n (σ:Sg') K,σ.l.length=T.names.length→wpS P pr n ist σ K→OkS (model prog w) A hb pr env ⟨ad T.names σ.l,σ.c⟩ (exec st env) (KS T.names K)
def mu (prog:Program)(w:World)(hb:Heap)(P:Pm)(K₀:Frag)(dep m:Nat):Prop:=
 ∀(T:Tb) (env:Env) (A:Around) (pr:List Nat),Cx0 prog w hb K₀ T P dep→CxE env T→Room (dep+1) A→
  ∀b ib,bG m T b=some ib→∀n (σ:Sg') K,σ.l.length=T.names.length→wpB P pr n ib σ K→OkS (model prog w) A hb pr env ⟨ad T.names σ.l,σ.c⟩ (execs b env) (KS T.names K)
theorem on {m:Nat}(ihS:tT prog w hb P K₀ dep m)(ihB:mu prog w hb P K₀ dep m):mu prog w hb P K₀ dep (m+1):=by
 intro T env A pr X E R b ib h n σ K hl hw
 cases b with
 |nil=>
  (injection h with h;subst h)
  cases n with
  |zero=>exact False.elim hw
  |succ n=>
   exact fun α s Q hs F hq=>wpAny_execs_nil (hq .next _ α _ s.heap s.toks hs ⟨σ,hl,rfl,hw⟩ F (.refl ..) rfl)
 |cons st r=>
  obtain⟨x,y,h1,h2,rfl⟩:=cO h
  cases n with
  |zero=>exact False.elim hw
  |succ n=>
   intro α s Q hs F hq
   refine wpAny_execs_cons (ihS T env A pr X E R st x h1 n σ _ hl hw α s _ hs F fun f τ α1 g h1' tk ht k F1 L1 i=>?_)
   obtain⟨σ',hl',rfl,k⟩:=k
   cases f with
   |next=>
    (subst i)
    exact ihB T env A pr X E R r y h2 n σ' K hl' k α1 _ Q ht F1 fun f υ α2 g h2 tk2 ht2 k2 F2 L2 i2=>hq f υ α2 g h2 tk2 ht2 k2 F2 (L1.trans L2 fun b hf=>(F2.fr b hf).2) i2
   |brk=>(subst i);exact hq .brk _ α1 _ h1' tk ht ⟨σ',hl',rfl,k⟩ F1 L1 rfl
   |cont=>(subst i);exact hq .cont _ α1 _ h1' tk ht ⟨σ',hl',rfl,k⟩ F1 L1 rfl
   |ret v=>obtain⟨g',rfl,i⟩:=i;exact hq (.ret v) _ α1 _ h1' tk ht ⟨σ',hl',rfl,k⟩ F1 L1 ⟨g',rfl,i⟩
theorem LeS.isV {env:Env}{pr:List Nat}{l:Loc}{c:aa}{α:Al}{h h':Heap}(L:LeS pr env c α h c α h')(F:Fst hb pr env l c α h){v:V}{g:Value}(i:IsV c α h v g):IsV c α h' v g:=by
 cases v with
 |d x=>exact L.isD F i
 |obj k=>exact i
 |val u=>exact i
 |rng p q=>obtain⟨r,t,u,v,e,g,n⟩:=i;exact⟨r,t,u,v,e,L.kept r _ g (fun f=>aV F f _ rfl g) n,n⟩
 |bi b=>exact i
 |mt e=>obtain⟨r,e,m⟩:=i;exact⟨r,e,m.step (fun b o hz g n=>L.kept b o g (fun f=>aV F f _ hz g) n) (fun _ e=>.inl e)⟩
theorem gE {env:Env}{value:Expr}{t:Option Expr}{n:Nat}(h:bu value=false):swapsWith value t n env=pure false:=by
 cases value<;>first|rfl|exact absurd h (nofun:¬(true=false))
theorem gI {env:Env}{T:Tb}(E:CxE env T){x:Str}{i:Nat}(h:bm T x=some i):kL env x∧aL T.names x=some i:=by
 unfold bm at h
 split at h
 ·rename_i q
  refine⟨?_,h⟩
  unfold m0 at q
  simp only[Bool.or_eq_true] at q
  rcases q with q|q
  ·exact .inl (E.kl x (beq_iff_eq.mp q))
  ·exact .inr (E.kc x (beq_iff_eq.mp q))
 ·contradiction
theorem bx {env:Env}{A:Around}{pr:List Nat}{T:Tb}(E:CxE env T){x:Str}{i:Nat}(h:bm T x=some i){l:Sl}(hl:l.length=T.names.length){c:aa}{α:Al}{s:Shared}(hs:1≤s.toks){v:V}{g:Value}(F:Fst hb pr env (ad T.names l) c α s.heap)(iv:IsV c α s.heap v g)
  {Q:Unit→Shared→Prop} (hq:∀h' tk,1≤tk→Fst hb pr env (ad T.names (l.set i (some v))) c α h'→LeS pr env c α s.heap c α h'→IsV c α h' v g→Q () {s with heap:=h',toks:=tk}):wpAny (model prog w) A (storeName env x g) Q no s:=by
 obtain⟨h1,h2⟩:=gI E h
 refine av hs (lq E.eo F h1 iv fun h' tk F' L' ht=>?_)
 have F'':Fst hb pr env (ad T.names (l.set i (some v))) c α h':=F'.look fun y u q=>by rw[←gx E.nd hl h2 v y];exact q
 exact hq h' tk ht F'' L' (L'.isV F iv)
end
section
variable {prog:Program}{w:World}{hb:Heap}{P:Pm}{K₀:Frag}{dep:Nat}{env:Env}{A:Around}{pr:List Nat}{T:Tb}
theorem x6 (E:CxE env T){x:Str}{i:Nat}(hi:bm T x=some i){σ:Sg'}(hl:σ.l.length=T.names.length){p pos:Pos}{value:Expr}(hv:bu value=false){K:F→Sg'→Prop}
  (h:Ev prog w A hb pr env (ad T.names σ.l) σ.c value fun v c1=>K .next ⟨σ.l.set i (some v),c1⟩) :
  OkS (model prog w) A hb pr env ⟨ad T.names σ.l,σ.c⟩ (exec (.Assign [.Name x p] value pos) env) (KS T.names K):=by
 intro α s Q hs F hq
 refine wpAny_Assign_Name (h α s _ hs F fun v c1 α1 g h1 t1 ht1 k1 F1 L1 i1=>?_) (gE hv)
 refine bx (s:={s with heap:=h1,toks:=t1}) E hi hl ht1 F1 i1 fun h2 t2 ht2 F2 L2 i2=>?_
 exact hq .next ⟨_,c1⟩ α1 _ h2 t2 ht2 ⟨⟨_,c1⟩,by rw[List.length_set];exact hl,rfl,k1⟩ F2 ((L1.leS F.toCst).trans L2 fun b hf=>(F2.fr b hf).2) rfl
theorem vU (E:CxE env T){x y:Str}{i j:Nat}(hi:bm T x=some i)(hj:bm T y=some j){σ:Sg'}(hl:σ.l.length=T.names.length){p q pos:Pos}{value:Expr}(hv:bu value=false){K:F→Sg'→Prop}
  (h:Ev prog w A hb pr env (ad T.names σ.l) σ.c value fun v c1=>K .next ⟨(σ.l.set i (some v)).set j (some v),c1⟩) :
  OkS (model prog w) A hb pr env ⟨ad T.names σ.l,σ.c⟩ (exec (.Assign [.Name x p,.Name y q] value pos) env) (KS T.names K):=by
 intro α s Q hs F hq
 refine wpAny_Assign_two (h α s _ hs F fun v c1 α1 g h1 t1 ht1 k1 F1 L1 i1=>?_)
 refine wpAny_assign_Name (bx (s:={s with heap:=h1,toks:=t1}) E hi hl ht1 F1 i1 fun h2 t2 ht2 F2 L2 i2=>?_)
 refine wpAny_assign_Name (bx (s:={s with heap:=h2,toks:=t2}) E hj (by rw[List.length_set];exact hl) ht2 F2 i2 fun h3 t3 ht3 F3 L3 i3=>?_)
 exact hq .next ⟨_,c1⟩ α1 _ h3 t3 ht3 ⟨⟨_,c1⟩,by rw[List.length_set,List.length_set];exact hl,rfl,k1⟩ F3 (((L1.leS F.toCst).trans L2 fun b hf=>(F2.fr b hf).2).trans L3 fun b hf=>(F3.fr b hf).2) rfl
theorem cL {c:aa}{u:V}{nm:Str}{v:V}{K:aa→Prop}(h:a8 P c u nm v K):∃k dk fs,u=.obj k∧ae c k=some (.inst P.C dk)∧ae c dk=some (.ns fs)∧P.attr nm=true∧fs.length≤1000∧K (cset c dk (.ns (put fs nm v))):=by
 obtain⟨k,e,h⟩:=dO h
 obtain⟨C,dk,hk,rfl,h1,h⟩:=gC h
 obtain⟨fs,hd,h⟩:=kr h
 exact⟨k,dk,fs,e,hk,hd,h1,h⟩
theorem kR {c:aa}{k dk:Nat}{fs:List (Str×V)}{nm:Str}{v:V}{K:aa→Prop}(g1:ae c k=some (.inst P.C dk))(g2:ae c dk=some (.ns fs))(g3:P.attr nm=true)(g4:fs.length≤1000)(h:K (cset c dk (.ns (put fs nm v)))):a8 P c (.obj k) nm v K:=by
 show ey (ae c k) _
 rw[g1]
 refine⟨rfl,g3,?_⟩
 rw[g2]
 exact⟨g4,h⟩
theorem xi (X:Cx0 prog w hb K₀ T P dep)(E:CxE env T){o:Expr}{nm:Str}{σ:Sg'}(hl:σ.l.length=T.names.length){p pos:Pos}{value:Expr}(hv:bu value=false){K:F→Sg'→Prop}
  (h:Ev prog w A hb pr env (ad T.names σ.l) σ.c value fun v c1=>Ev prog w A hb pr env (ad T.names σ.l) c1 o fun u c2=>a8 P c2 u nm v fun c3=>K .next ⟨σ.l,c3⟩) :
  OkS (model prog w) A hb pr env ⟨ad T.names σ.l,σ.c⟩ (exec (.Assign [.Attribute o nm p] value pos) env) (KS T.names K):=by
 intro α s Q hs F hq
 refine plainObj_wpAny_Assign_Attribute (h α s _ hs F fun v c1 α1 g h1 t1 ht1 k1 F1 L1 i1=>?_) (gE hv)
 refine k1 α1 _ _ ht1 F1 fun u c2 α2 g2 h2 t2 ht2 k2 F2 L2 i2=>?_
 obtain⟨k,dk,fs,rfl,hk,hdk,hat,hsz,hK⟩:=cL k2
 obtain⟨rfl,_⟩:=i2
 refine av (s:={s with heap:=h2,toks:=t2}) ht2 (ew (s:={s with heap:=h2,toks:=t2}) F2 X.kin hk hdk X.cls (X.attr nm hat) hsz (L2.isV i1) fun h3 t3 F3 L3 ht3=>?_)
 exact hq .next ⟨ad T.names σ.l,cset c2 dk (.ns (put fs nm v))⟩ α2 _ h3 t3 ht3 ⟨⟨σ.l,cset c2 dk (.ns (put fs nm v))⟩,hl,rfl,hK⟩ F3 (((L1.trans L2).trans L3).leS F.toCst) rfl
theorem ul (X:Cx0 prog w hb K₀ T P dep)(E:CxE env T){o:Expr}{nm y:Str}{j:Nat}(hj:bm T y=some j){σ:Sg'}(hl:σ.l.length=T.names.length){p q pos:Pos}{value:Expr}(hv:bu value=false){K:F→Sg'→Prop}
  (h:Ev prog w A hb pr env (ad T.names σ.l) σ.c value fun v c1=>Ev prog w A hb pr env (ad T.names σ.l) c1 o fun u c2=>a8 P c2 u nm v fun c3=>K .next ⟨σ.l.set j (some v),c3⟩) :
  OkS (model prog w) A hb pr env ⟨ad T.names σ.l,σ.c⟩ (exec (.Assign [.Attribute o nm p,.Name y q] value pos) env) (KS T.names K):=by
 intro α s Q hs F hq
 refine wpAny_Assign_two (h α s _ hs F fun v c1 α1 g h1 t1 ht1 k1 F1 L1 i1=>?_)
 show wpAny _ A (do let ov ←holding [g] (eval o env);standAt p.atName;holding [g,ov] (setAttr ov nm g);release [g,ov] []) _ _ _
 refine wpAny_bind (wpAny_holding (k1 α1 _ _ ht1 F1 fun u c2 α2 g2 h2 t2 ht2 k2 F2 L2 i2=>?_))
 obtain⟨k,dk,fs,rfl,hk,hdk,hat,hsz,hK⟩:=cL k2
 obtain⟨rfl,_⟩:=i2
 refine wpAny_bind (wpAny_standAt (wpAny_bind (wpAny_holding (av (s:={s with heap:=h2,toks:=t2}) ht2 (ew (s:={s with heap:=h2,toks:=t2}) F2 X.kin hk hdk X.cls (X.attr nm hat) hsz (L2.isV i1) fun h3 t3 F3 L3 ht3=>?_)))))
 refine wpAny_release ?_
 refine wpAny_assign_Name (bx (s:={s with heap:=h3,toks:=t3}) E hj hl ht3 F3 (L3.isV (L2.isV i1)) fun h4 t4 ht4 F4 L4 i4=>?_)
 exact hq .next ⟨ad T.names (σ.l.set j (some v)),cset c2 dk (.ns (put fs nm v))⟩ α2 _ h4 t4 ht4 ⟨⟨σ.l.set j (some v),cset c2 dk (.ns (put fs nm v))⟩,by rw[List.length_set];exact hl,rfl,hK⟩ F4 ((((L1.trans L2).trans L3).leS F.toCst).trans L4 fun b hf=>(F4.fr b hf).2) rfl
theorem wt (E:CxE env T){σ:Sg'}(hl:σ.l.length=T.names.length){pos:Pos}{e:Expr}(hv:bu e=false){K:F→Sg'→Prop}
  (h:Ev prog w A hb pr env (ad T.names σ.l) σ.c e fun v c1=>K .next ⟨σ.l,c1⟩) :
  OkS (model prog w) A hb pr env ⟨ad T.names σ.l,σ.c⟩ (exec (.Expr e pos) env) (KS T.names K):=by
 intro α s Q hs F hq
 refine wpAny_Expr_any (h α s _ hs F fun v c1 α1 g h1 t1 ht1 k1 F1 L1 i1=>?_) E.eo.inter (gE hv)
 exact hq .next ⟨_,c1⟩ α1 _ h1 t1 ht1 ⟨⟨_,c1⟩,hl,rfl,k1⟩ F1 (L1.leS F.toCst) rfl
theorem y7 {σ:Sg'}{t:Expr}{a b:List Stmt}{pos:Pos}{K:F→Sg→Prop}(h:Tst prog w A hb pr env (ad T.names σ.l) σ.c t fun r c1=>(r=true→OkS (model prog w) A hb pr env ⟨ad T.names σ.l,c1⟩ (execs a env) K)∧(r=false→OkS (model prog w) A hb pr env ⟨ad T.names σ.l,c1⟩ (execs b env) K)) :
  OkS (model prog w) A hb pr env ⟨ad T.names σ.l,σ.c⟩ (exec (.If t a b pos) env) K:=by
 intro α s Q hs F hq
 refine wpAny_If (h α s _ hs F fun r c1 α1 g h1 t1 ht1 k1 F1 L1 i1=>?_)
 cases i1
 cases r with
 |true=>
  rw[if_pos rfl]
  exact k1.1 rfl α1 _ Q ht1 F1 fun f τ α2 g2 h2 t2 ht2 k2 F2 L2 i2=>hq f τ α2 g2 h2 t2 ht2 k2 F2 ((L1.leS F.toCst).trans L2 fun b hf=>(F2.fr b hf).2) i2
 |false=>
  rw[if_neg (by decide)]
  exact k1.2 rfl α1 _ Q ht1 F1 fun f τ α2 g2 h2 t2 ht2 k2 F2 L2 i2=>hq f τ α2 g2 h2 t2 ht2 k2 F2 ((L1.leS F.toCst).trans L2 fun b hf=>(F2.fr b hf).2) i2
theorem yu {σ:Sg'}(hl:σ.l.length=T.names.length){e:Expr}{pos:Pos}{K:F→Sg'→Prop}(h:Ev prog w A hb pr env (ad T.names σ.l) σ.c e fun v c1=>K (.ret v) ⟨σ.l,c1⟩) :
  OkS (model prog w) A hb pr env ⟨ad T.names σ.l,σ.c⟩ (exec (.Return (some e) pos) env) (KS T.names K):=by
 intro α s Q hs F hq
 refine wpAny_Return_some (h α s _ hs F fun v c1 α1 g h1 t1 ht1 k1 F1 L1 i1=>?_)
 exact hq (.ret v) ⟨_,c1⟩ α1 _ h1 t1 ht1 ⟨⟨_,c1⟩,hl,rfl,k1⟩ F1 (L1.leS F.toCst) ⟨g,rfl,i1⟩
theorem rA {σ:Sg'}(hl:σ.l.length=T.names.length){t:Expr}{pos:Pos}{K:F→Sg'→Prop}(h:Tst prog w A hb pr env (ad T.names σ.l) σ.c t fun r c1=>r=true∧K .next ⟨σ.l,c1⟩) :
  OkS (model prog w) A hb pr env ⟨ad T.names σ.l,σ.c⟩ (exec (.Assert t none pos) env) (KS T.names K):=by
 intro α s Q hs F hq
 refine wpAny_Assert_holds (h α s _ hs F fun r c1 α1 g h1 t1 ht1 k1 F1 L1 i1=>?_)
 (subst i1)
 exact⟨k1.1,hq .next ⟨_,c1⟩ α1 _ h1 t1 ht1 ⟨⟨_,c1⟩,hl,rfl,k1.2⟩ F1 (L1.leS F.toCst) rfl⟩
end
section
variable {prog:Program}{w:World}{hb:Heap}{P:Pm}{K₀:Frag}{dep:Nat}{env:Env}{A:Around}{pr:List Nat}{T:Tb}
noncomputable def sta (e:Expr):Bool:=match e with
 | .Starred ..=>true
 |_=>false
theorem pM {e:Expr}(q:cz e=false):sta e=false:=by cases e<;>first|rfl|contradiction
theorem te {a b:Expr}(ha:cz a=false)(hb:cz b=false):[a,b].any sta=false:=by
 show (sta a||(sta b||false))=false
 rw[pM ha,pM hb];rfl
noncomputable def nmf (env:Env)(n:Nat)(e:Expr):Option Str:=match e with
 | .Name id pos=>if (env.kindOf id==some .local&&pos.line==n)=true then some id else none
 |_=>none
theorem pq {env:Env}{x y:Str}{px py:Pos}(kx:env.kindOf x=some .local)(ky:env.kindOf y=some .local)(h3:(py.line==px.line)=true):[Expr.Name x px,.Name y py].filterMap (nmf env px.line)=[x,y]:=by
 have e1:nmf env px.line (.Name x px)=some x:=if_pos (by rw[kx];simp)
 have e2:nmf env px.line (.Name y py)=some y:=if_pos (by rw[ky,h3];rfl)
 rw[List.filterMap_cons_some e1,List.filterMap_cons_some e2];rfl
theorem qB (E:CxE env T){x y:Str}{px py tp vp:Pos}{k k':Nat}{a b:Expr}(h:jX T x px y py a b=true) :
  swappedStores [.Tuple [.Name x px,.Name y py] k tp] (.Tuple [a,b] k' vp) env=pure (some [x,y])∧cz a=false∧cz b=false:=by
 unfold jX at h
 obtain⟨h,h8⟩:=(Bool.and_eq_true _ _).mp h
 obtain⟨h,h7⟩:=(Bool.and_eq_true _ _).mp h
 obtain⟨h,h6⟩:=(Bool.and_eq_true _ _).mp h
 obtain⟨h,h5⟩:=(Bool.and_eq_true _ _).mp h
 obtain⟨h,h4⟩:=(Bool.and_eq_true _ _).mp h
 obtain⟨h,h3⟩:=(Bool.and_eq_true _ _).mp h
 obtain⟨h1,h2⟩:=(Bool.and_eq_true _ _).mp h
 have nt:∀{b:Bool},(!b)=true→b=false:=fun {b} q=>by cases b<;>first|rfl|contradiction
 have h4:=nt h4
 have h5:=nt h5
 have h6:=nt h6
 have h7:=nt h7
 have h8:=nt h8
 refine⟨?_,h5,h6⟩
 have hb':env.blockKind=.function:=by unfold Env.blockKind;rw[E.eo.kind];rfl
 have tn:=pq (E.kl x (eq_of_beq h1)) (E.kl y (eq_of_beq h2)) h3
 have hn:([x,y]:List Str).eraseDups.length=2:=by
  have:(y==x)=false:=by rw[beq_eq_false_iff_ne] at h4 ⊢;exact fun e=>h4 e.symm
  simp[List.eraseDups_cons,this]
 refine (if_neg (by rw[hb'];exact fun q=>Bool.false_ne_true q)).trans ((if_neg (by have q:=te h5 h6;intro q';exact Bool.false_ne_true (q.symm.trans q'))).trans ?_)
 refine (if_neg (fun q=>?_)).trans ((if_neg (fun q=>Bool.false_ne_true (h7.symm.trans q))).trans ((if_neg (fun q=>Bool.false_ne_true (h8.symm.trans q))).trans ?_))
 ·have q:(([Expr.Name x px,.Name y py].filterMap (nmf env px.line)).length != 2||([Expr.Name x px,.Name y py].filterMap (nmf env px.line)).eraseDups.length != ([Expr.Name x px,.Name y py].filterMap (nmf env px.line)).length)=true:=q
  rw[tn,hn] at q;exact Bool.false_ne_true q
 ·exact congrArg (fun l=>(pure (some l):Sem (Option (List Str)))) tn
theorem w8 (E:CxE env T)(R:Room (dep+1) A){x y:Str}{i j:Nat}(hi:bm T x=some i)(hj:bm T y=some j){px py tp vp pos:Pos}{k k':Nat}{a b:Expr}(h2:jX T x px y py a b=true){σ:Sg'}(hl:σ.l.length=T.names.length){K:F→Sg'→Prop}
  (h:Ev prog w A hb pr env (ad T.names σ.l) σ.c a fun u c1=>Ev prog w A hb pr env (ad T.names σ.l) c1 b fun v c2=>(∃x y,u=.d x∧v=.d y)∧K .next ⟨(σ.l.set j (some v)).set i (some u),c2⟩) :
  OkS (model prog w) A hb pr env ⟨ad T.names σ.l,σ.c⟩ (exec (.Assign [.Tuple [.Name x px,.Name y py] k tp] (.Tuple [a,b] k' vp) pos) env) (KS T.names K):=by
 obtain⟨hsw,hsa,hsb⟩:=qB (k:=k) (k':=k') (tp:=tp) (vp:=vp) E h2
 intro α s Q hs F hq
 have hE:Ev prog w A hb pr env (ad T.names σ.l) σ.c (.Tuple [a,b] k' vp) fun t c2=>∃x y,t=.d (.tup [x,y])∧K .next ⟨(σ.l.set j (some (.d y))).set i (some (.d x)),c2⟩:=by
  refine qY (by simp[bK,hsa,hsb]) ?_
  refine OkE.mono h fun u c1 h1=>OkE.mono h1 fun v c2 h2=>?_
  obtain⟨⟨x,y,rfl,rfl⟩,h2⟩:=h2
  exact⟨(by show 2≤big;decide),x,y,rfl,h2⟩
 refine Assign_Tuple_swapped (hE α s _ hs F fun t c2 α2 g h2 t2 ht2 k2 F2 L2 i2=>?_) rfl hsw
 obtain⟨dx,dy,rfl,hK⟩:=k2
 obtain⟨wx,wy,ta,ep,rfl,hg,ix,iy⟩:=IsD.two i2
 refine unpackItems_tuple (items:=#[wx,wy]) R.handled ⟨_,hg,rfl,_,rfl⟩ fun h3 he=>?_
 have hkeep:∀b o,h2.get? b=some o→h3.get? b=some o:=fun b o e=>he b o (fun q=>by rw[q] at e;exact Nat.lt_irrefl _ (Heap.lt_size e)) e
 obtain⟨F3,L3⟩:=F2.keeps hkeep
 show wpAny _ A (do holding [wx] (bindName env y wy);(do holding [] (bindName env x wx);pure ())) _ _ _
 refine wpAny_bind (wpAny_holding (bindName_ (bx (s:={s with heap:=h3,toks:=t2}) E hj hl ht2 F3 (v:=.d dy) (L3.isD iy) fun h4 t4 ht4 F4 L4 i4=>?_)))
 refine wpAny_bind (wpAny_holding (bindName_ (bx (s:={s with heap:=h4,toks:=t4}) E hi (by rw[List.length_set];exact hl) ht4 F4 (v:=.d dx) (L4.isD F3 (L3.isD ix)) fun h5 t5 ht5 F5 L5 i5=>wpAny_pure ?_)))
 exact hq .next ⟨_,c2⟩ α2 _ h5 t5 ht5 ⟨⟨_,c2⟩,by rw[List.length_set,List.length_set];exact hl,rfl,hK⟩ F5 ((((L2.trans L3).leS F.toCst).trans L4 fun b hf=>(F4.fr b hf).2).trans L5 fun b hf=>(F5.fr b hf).2) rfl
theorem um {u:V}{K:D→D→Prop}(h:wU u K):∃x y,u=.d (.tup [x,y])∧K x y:=by
 obtain⟨x,rfl,h1⟩:=cH h
 cases x with
 |tup xs=>obtain⟨x,y,rfl,h2⟩:=wz h1;exact⟨x,y,rfl,h2⟩
 |_=>exact h1.elim
theorem vo (E:CxE env T)(R:Room (dep+1) A){x y:Str}{i j:Nat}(hi:bm T x=some i)(hj:bm T y=some j){px py tp pos:Pos}{k:Nat}{value:Expr}(hv:bu value=false)(hnt:oQ value=none){σ:Sg'}(hl:σ.l.length=T.names.length){K:F→Sg'→Prop}
  (h:Ev prog w A hb pr env (ad T.names σ.l) σ.c value fun u c1=>wU u fun x y=>K .next ⟨(σ.l.set i (some (.d x))).set j (some (.d y)),c1⟩) :
  OkS (model prog w) A hb pr env ⟨ad T.names σ.l,σ.c⟩ (exec (.Assign [.Tuple [.Name x px,.Name y py] k tp] value pos) env) (KS T.names K):=by
 intro α s Q hs F hq
 have hsw:swappedStores [.Tuple [.Name x px,.Name y py] k tp] value env=pure none:=by
  cases value<;>first|rfl|contradiction
 refine wpAny_Assign_stores (h α s _ hs F fun u c2 α2 g h2 t2 ht2 k2 F2 L2 i2=>?_) (by cases value<;>first|rfl|exact absurd hv (nofun:¬(true=false))) hsw
 obtain⟨dx,dy,rfl,k2⟩:=um k2
 obtain⟨wx,wy,ta,ep,rfl,hg,ix,iy⟩:=IsD.two i2
 refine wpAny_assign_Tuple (x1:=k) (items:=#[wx,wy]) R.handled ⟨_,hg,rfl,_,rfl⟩ rfl rfl fun h3 he=>?_
 have hkeep:∀b o,h2.get? b=some o→h3.get? b=some o:=fun b o e=>he b o (fun q=>by rw[q] at e;exact Nat.lt_irrefl _ (Heap.lt_size e)) e
 obtain⟨F3,L3⟩:=F2.keeps hkeep
 show wpAny _ A (do holding [wy] (assign (.Name x px) env wx);(do holding [] (assign (.Name y py) env wy);pure ())) _ _ _
 refine wpAny_bind (wpAny_holding (wpAny_assign_Name (bx (s:={s with heap:=h3,toks:=t2}) E hi hl ht2 F3 (v:=.d dx) (L3.isD ix) fun h4 t4 ht4 F4 L4 i4=>?_)))
 refine wpAny_bind (wpAny_holding (wpAny_assign_Name (bx (s:={s with heap:=h4,toks:=t4}) E hj (by rw[List.length_set];exact hl) ht4 F4 (v:=.d dy) (L4.isD F3 (L3.isD iy)) fun h5 t5 ht5 F5 L5 i5=>wpAny_pure ?_)))
 exact hq .next ⟨_,c2⟩ α2 _ h5 t5 ht5 ⟨⟨_,c2⟩,by rw[List.length_set,List.length_set];exact hl,rfl,k2⟩ F5 ((((L2.trans L3).leS F.toCst).trans L4 fun b hf=>(F4.fr b hf).2).trans L5 fun b hf=>(F5.fr b hf).2) rfl
theorem gM (X:Cx0 prog w hb K₀ T P dep){o:Expr}{nm:Str}{p:Pos}{l:Sl}{c:aa}{d:D}{K:aa→Prop}(h:Ev prog w A hb pr env (ad T.names l) c o fun u c2=>a8 P c2 u nm (.d d) K){α:Al}{s:Shared}{g:Value}{Q:Unit→Shared→Prop}(hs:1≤s.toks)
  (F:Fst hb pr env (ad T.names l) c α s.heap) (i:IsD s.heap (aC c α) d g) (hq:∀c' α' h' tk,1≤tk→K c'→Fst hb pr env (ad T.names l) c' α' h'→Le c α s.heap c' α' h'→Q () {s with heap:=h',toks:=tk}) :
  wpAny (model prog w) A (assign (.Attribute o nm p) env g) Q no s:=by
 show wpAny _ A (do let ov ←holding [g] (eval o env);standAt p.atName;holding [g,ov] (setAttr ov nm g);release [g,ov] []) _ _ _
 refine wpAny_bind (wpAny_holding (h α s _ hs F fun u c2 α2 g2 h2 t2 ht2 k2 F2 L2 i2=>?_))
 obtain⟨k,dk,fs,rfl,hk,hdk,hat,hsz,hK⟩:=cL k2
 obtain⟨rfl,_⟩:=i2
 refine wpAny_bind (wpAny_standAt (wpAny_bind (wpAny_holding (av (s:={s with heap:=h2,toks:=t2}) ht2 (ew (s:={s with heap:=h2,toks:=t2}) F2 X.kin hk hdk X.cls (X.attr nm hat) hsz (v:=.d d) (L2.isD i) fun h3 t3 F3 L3 ht3=>?_)))))
 exact wpAny_release (hq _ α2 h3 t3 ht3 hK F3 (L2.trans L3))
theorem wE (X:Cx0 prog w hb K₀ T P dep)(R:Room (dep+1) A){o1 o2:Expr}{n1 n2:Str}{p1 p2 tp vp pos:Pos}{k k':Nat}{a b:Expr}(hst:bK [a,b]=true){σ:Sg'}(hl:σ.l.length=T.names.length){K:F→Sg'→Prop}
  (h:Ev prog w A hb pr env (ad T.names σ.l) σ.c a fun u c1=>Ev prog w A hb pr env (ad T.names σ.l) c1 b fun v c2=>dd u v fun x y=>Ev prog w A hb pr env (ad T.names σ.l) c2 o1 fun u1 c3=>a8 P c3 u1 n1 (.d x) fun c4=>Ev prog w A hb pr env (ad T.names σ.l) c4 o2 fun u2 c5=>a8 P c5 u2 n2 (.d y) fun c6=>K .next ⟨σ.l,c6⟩) :
  OkS (model prog w) A hb pr env ⟨ad T.names σ.l,σ.c⟩ (exec (.Assign [.Tuple [.Attribute o1 n1 p1,.Attribute o2 n2 p2] k tp] (.Tuple [a,b] k' vp) pos) env) (KS T.names K):=by
 intro α s Q hs F hq
 have hE:Ev prog w A hb pr env (ad T.names σ.l) σ.c (.Tuple [a,b] k' vp) fun t c2=>∃x y,t=.d (.tup [x,y])∧Ev prog w A hb pr env (ad T.names σ.l) c2 o1 fun u1 c3=>a8 P c3 u1 n1 (.d x) fun c4=>Ev prog w A hb pr env (ad T.names σ.l) c4 o2 fun u2 c5=>a8 P c5 u2 n2 (.d y) fun c6=>K .next ⟨σ.l,c6⟩:=by
  refine qY hst ?_
  refine OkE.mono h fun u c1 h1=>OkE.mono h1 fun v c2 h2=>?_
  obtain⟨x,y,rfl,rfl,h2⟩:=mO h2
  exact⟨(by show 2≤big;decide),x,y,rfl,h2⟩
 have hsw:swappedStores [.Tuple [.Attribute o1 n1 p1,.Attribute o2 n2 p2] k tp] (.Tuple [a,b] k' vp) env=pure none:=by
  have hsa:(if (!(([Expr.Attribute o1 n1 p1,.Attribute o2 n2 p2].length==2)||([Expr.Attribute o1 n1 p1,.Attribute o2 n2 p2].length==3))||([a,b].length != [Expr.Attribute o1 n1 p1,.Attribute o2 n2 p2].length)||env.blockKind != .function)=true then (pure none:Sem (Option (List Str))) else if ([a,b].any fun | .Starred ..=>true|_=>false)=true then pure none else pure none)=pure none:=by
   split
   ·rfl
   ·split<;>rfl
  exact hsa
 refine wpAny_Assign_stores (hE α s _ hs F fun u c2 α2 g h2 t2 ht2 k2 F2 L2 i2=>?_) rfl hsw
 obtain⟨dx,dy,rfl,k2⟩:=k2
 obtain⟨wx,wy,ta,ep,rfl,hg,ix,iy⟩:=IsD.two i2
 refine wpAny_assign_Tuple (x1:=k) (items:=#[wx,wy]) R.handled ⟨_,hg,rfl,_,rfl⟩ rfl rfl fun h3 he=>?_
 have hkeep:∀b o,h2.get? b=some o→h3.get? b=some o:=fun b o e=>he b o (fun q=>by rw[q] at e;exact Nat.lt_irrefl _ (Heap.lt_size e)) e
 obtain⟨F3,L3⟩:=F2.keeps hkeep
 show wpAny _ A (do holding [wy] (assign (.Attribute o1 n1 p1) env wx);(do holding [] (assign (.Attribute o2 n2 p2) env wy);pure ())) _ _ _
 refine wpAny_bind (wpAny_holding (gM (s:={s with heap:=h3,toks:=t2}) X k2 ht2 F3 (L3.isD ix) fun c4 α4 h4 t4 ht4 k4 F4 L4=>?_))
 refine wpAny_bind (wpAny_holding (gM (s:={s with heap:=h4,toks:=t4}) X k4 ht4 F4 (L4.isD (L3.isD iy)) fun c6 α6 h6 t6 ht6 k6 F6 L6=>wpAny_pure ?_))
 exact hq .next ⟨_,c6⟩ α6 _ h6 t6 ht6 ⟨⟨_,c6⟩,hl,rfl,k6⟩ F6 ((((L2.trans L3).trans L4).trans L6).leS F.toCst) rfl
theorem ss {c:aa}{u v:V}{K:aa→Prop}(h:uF c u v K):∃k xs,u=.obj k∧v=.d (.int (-1))∧ae c k=some (.list xs)∧xs≠[]∧xs.length≤big∧K (cset c k (.list xs.dropLast)):=by
 obtain⟨k,e,h⟩:=dO h
 obtain⟨i,e',rfl,h⟩:=b8 h
 obtain⟨xs,hx,h⟩:=cB h
 exact⟨k,xs,e,e',hx,h⟩
theorem yl {o i:Expr}{p pos:Pos}{σ:Sg'}(hl:σ.l.length=T.names.length){K:F→Sg'→Prop}
  (h:Ev prog w A hb pr env (ad T.names σ.l) σ.c o fun u c1=>Ev prog w A hb pr env (ad T.names σ.l) c1 i fun v c2=>uF c2 u v fun c3=>K .next ⟨σ.l,c3⟩) :
  OkS (model prog w) A hb pr env ⟨ad T.names σ.l,σ.c⟩ (exec (.Delete [.Subscript o i p] pos) env) (KS T.names K):=by
 intro α s Q hs F hq
 refine wpAny_Delete (wpAny_deleteEach_cons ?_)
 rw[arm_delete_Subscript]
 refine wpAny_bind (h α s _ hs F fun u c1 α1 g h1 t1 ht1 k1 F1 L1 i1=>?_)
 refine wpAny_bind (wpAny_holding (k1 α1 _ _ ht1 F1 fun v c2 α2 g2 h2 t2 ht2 k2 F2 L2 i2=>?_))
 obtain⟨kk,xs,rfl,rfl,hx,hne,hbig,hK⟩:=ss k2
 ··obtain⟨rfl,hkm⟩:=L2.isV i1
   obtain⟨_,rfl⟩:=IsD.inv i2
   obtain⟨us,ep,gk,rk⟩:=F2.toCst.cell kk _ hx
   have hlen:us.length=xs.length:=rk.length.symm
   have hpos:0<us.length:=by rw[hlen];exact List.length_pos_iff.mpr hne
   refine wpAny_bind (wpAny_standAt (wpAny_bind (wpAny_holding (PySem.P.delItem_list (s:={s with heap:=h2,toks:=t2}) (items:=us.toArray) (k:=us.length-1) gk (by decide) ?_ ?_ ?_))))
   ·rw[List.size_toArray]
    show (if (decide (0≤(if (-1:Int)<0 then -1+(us.length:Int) else -1))&&decide ((if (-1:Int)<0 then -1+(us.length:Int) else -1)<(us.length:Int)))=true then some (if (-1:Int)<0 then -1+(us.length:Int) else -1).toNat else none)=_
    rw[if_pos (show (-1:Int)<0 by decide),decide_eq_true (by exact Om.o28 hpos),decide_eq_true (by exact Om.o27),Bool.and_self,if_pos rfl]
    congr 1;exact Om.o26
   ·refine wpAny_release (wpAny_deleteEach_nil ?_)
    have g8:(h2.update (α2 kk) (Obj.mapSeq fun xs=>xs.eraseIdxIfInBounds (us.length-1))).get? (α2 kk)=some (bj "list" us.dropLast (ep+1)):=by
     rw[Heap.get?_update_self _ gk (by rfl)]
     have e:us.toArray.eraseIdxIfInBounds (us.length-1)=us.dropLast.toArray:=by
      unfold Array.eraseIdxIfInBounds
      rw[dif_pos (by rw[List.size_toArray];exact Om.o25 hpos),List.eraseIdx_toArray,List.eraseIdx_length_sub_one]
     simp[Obj.mapSeq,e];exact Om.o24 hpos
    obtain⟨F8,L8⟩:=F2.set hkm (o:=.list xs.dropLast) (Heap.SameBut.update h2 (α2 kk) (Obj.mapSeq fun xs=>xs.eraseIdxIfInBounds (us.length-1))) (fun L=>⟨us.dropLast,ep+1,g8,by
     have q:=(L.isDs rk).take (us.length-1)
     rw[←List.dropLast_eq_take,hlen,←List.dropLast_eq_take,←hlen] at q;exact q⟩)
    exact hq .next ⟨ad T.names σ.l,cset c2 kk (.list xs.dropLast)⟩ α2 _ _ t2 ht2 ⟨⟨σ.l,cset c2 kk (.list xs.dropLast)⟩,hl,rfl,hK⟩ F8 (((L1.trans L2).trans L8).leS F.toCst) rfl
   ·rw[List.size_toArray,hlen];exact aJ hbig
end
section
variable {prog:Program}{w:World}{hb:Heap}{P:Pm}{K₀:Frag}{dep:Nat}
theorem oR {env:Env}{T:Tb}(E:CxE env T){x:Str}{px:Pos}{elt:Expr}{gs:List Comprehension}{scope:Scope}{pos:Pos}(n:Nat)(h:io T x px (.ListComp elt gs scope pos)=true) :
  swapsWith (.ListComp elt gs scope pos) (some (.Name x px)) n env=pure true∧env.kindOf x=some .local:=by
 obtain⟨h,h3⟩:=(Bool.and_eq_true _ _).mp h
 obtain⟨h1,h2⟩:=(Bool.and_eq_true _ _).mp h
 have h1:=eq_of_beq h1
 have h3:(scope.names.any fun (n,k)=>n==x&&(k==.local||k==.cell))=false:=by simpa using h3
 have k:=E.kl x h1
 have hb':env.blockKind=.function:=by unfold Env.blockKind;rw[E.eo.kind];rfl
 refine⟨?_,k⟩
 show (pure (env.blockKind==.function&&env.kindOf x==some .local&&px.line==pos.line&&!(scope.names.any fun (n,k)=>n==x&&(k==.local||k==.cell))):Sem Bool)=_
 rw[hb',k,h2,h3]
 simp
theorem OkS.post {M:Model}{A:Around}{pr:List Nat}{env:Env}{σ:Sg}{t:Sem Flow}{K K':F→Sg→Prop}(h:OkS M A hb pr env σ t K)(hK:∀f τ,K f τ→∃l',(∀x,Mine.look l' x=Mine.look τ.l x)∧K' f ⟨l',τ.c⟩):OkS M A hb pr env σ t K':=
 fun α s Q hs F hq=>h α s Q hs F fun f τ α' g h' tk ht k F' L' i=>by
  obtain⟨l',e,k'⟩:=hK f τ k
  exact hq f ⟨l',τ.c⟩ α' g h' tk ht k' (F'.look fun x v q=>by rw[←e];exact q) L' i
theorem rJ {T:Tb}{x:Str}{p:Pos}{value:Expr}(h:io T x p value=true):∃elt gs scope pos,value=.ListComp elt gs scope pos:=by
 unfold io at h
 cases q:lcP value with
 |none=>rw[q] at h;contradiction
 |some k=>obtain⟨elt,gs,e⟩:=xg q;exact⟨elt,gs,_,_,e⟩
theorem uA {m:Nat}{T:Tb}{env:Env}{A:Around}{pr:List Nat}(X:Cx0 prog w hb K₀ T P dep)(E:CxE env T)(R:Room (dep+1) A){y:Str}{py spos:Pos}{value:Expr}(hsw:io T y py value=true){i:Nat}(hi:bm T y=some i){e:IE}(h:aG m T value=some e)
  {n:Nat} {σ:Sg'} (hl:σ.l.length=T.names.length) {K:F→Sg'→Prop} (hw:wpE P n e σ.l σ.c fun v c1=>K .next ⟨σ.l.set i (some v),c1⟩) :
  OkS (model prog w) A hb pr env ⟨ad T.names σ.l,σ.c⟩ (exec (.Assign [.Name y py] value spos) env) (KS T.names K):=by
 obtain⟨elt,gs,scope,pos,rfl⟩:=rJ hsw
 cases m with
 |zero=>contradiction
 |succ m=>
  have ihE:=snd (prog:=prog) (w:=w) (hb:=hb) (P:=P) (K₀:=K₀) (dep:=dep) m
  obtain⟨x,px,iter,ifs,fs,is,k,e',it,jt,rfl,hs,hfold,hr,he,hit,hj,rfl⟩:=m6 (f:=aG m) h
  obtain⟨hs1,hk⟩:=oR E spos.line hsw
  obtain⟨SO,_⟩:=gu E hs rfl
  obtain⟨_,hslot⟩:=gI E hi
  refine OkS.post (K:=fun f τ=>∃v c',f=.next∧τ=⟨put (ad T.names σ.l) y v,c'⟩∧K .next ⟨σ.l.set i (some v),c'⟩) ?_ ?_
  ·cases n with
   |zero=>exact False.elim hw
   |succ n=>
    exact oV E R SO hfold hk hs1 (kk:=k) (OkE.mono ((ihE T env A pr X E R iter it hit).1 _ _ _ _ hw) fun v c1 k1=>fE ihE X E R hs hr he hj (n:=n) (mG k1 fun v c q=>⟨v,c,rfl,rfl,q⟩))
  ·rintro f _ ⟨v,c',rfl,rfl,k⟩
   exact⟨ad T.names (σ.l.set i (some v)),fun z=>gx E.nd hl hslot v z,⟨σ.l.set i (some v),c'⟩,by rw[List.length_set];exact hl,rfl,k⟩
def SS (prog:Program)(w:World)(hb:Heap)(P:Pm)(T:Tb)(env:Env)(A:Around)(pr:List Nat)(st:Stmt)(ist:IS):Prop:=
 ∀(n:Nat) (σ:Sg') (K:F→Sg'→Prop),σ.l.length=T.names.length→wpS P pr n ist σ K→OkS (model prog w) A hb pr env ⟨ad T.names σ.l,σ.c⟩ (exec st env) (KS T.names K)
theorem SS.of {T:Tb}{env:Env}{A:Around}{pr:List Nat}{st:Stmt}{ist:IS}(h:∀(n:Nat) (σ:Sg') (K:F→Sg'→Prop),σ.l.length=T.names.length→wpS P pr (n+1) ist σ K→OkS (model prog w) A hb pr env ⟨ad T.names σ.l,σ.c⟩ (exec st env) (KS T.names K)):SS prog w hb P T env A pr st ist:=fun n σ K hl hw=>by
 cases n with
 |zero=>exact False.elim hw
 |succ n=>exact h n σ K hl hw
theorem fS {α:Type}{e:Expr}{a:Option α}{r:α}(h:(if bu e then none else a)=some r):bu e=false∧a=some r:=by
 cases q:bu e with
 |true=>rw[q] at h;contradiction
 |false=>rw[q] at h;exact⟨rfl,h⟩
section
variable {m:Nat}{T:Tb}{env:Env}{A:Around}{pr:List Nat}(X:Cx0 prog w hb K₀ T P dep)(E:CxE env T)(R:Room (dep+1) A)
include X E R
theorem ev' {a:Expr}{ia:IE}(ha:aG m T a=some ia):SE prog w hb P T env A pr a ia:=snd (prog:=prog) (w:=w) (hb:=hb) (P:=P) (K₀:=K₀) (dep:=dep) m T env A pr X E R a ia ha
theorem vO {t1 t2 a b:Expr}{k k':Nat}{p p' pos:Pos}{q1 q2:Str×Pos}(h1:b7 t1=some q1)(h2:b7 t2=some q2){ist:IS}(h:(if jX T q1.1 q1.2 q2.1 q2.2 a b then (do return IS.unp2 (←bm T q1.1) (←bm T q2.1) (←aG m T a) (←aG m T b)) else none)=some ist) :
  SS prog w hb P T env A pr (.Assign [.Tuple [t1,t2] k p] (.Tuple [a,b] k' p') pos) ist:=by
 rw[bA h1,bA h2]
 obtain⟨hsw,h⟩:=ifO h
 obtain⟨i,j,e,f,h1,h2,h3,h4,rfl⟩:=u4 h
 refine .of fun n σ K hl hw=>?_
 exact w8 E R h1 h2 hsw hl (OkE.mono ((ev' X E R h3).1 _ _ _ _ hw) fun u c1 k1=>(ev' X E R h4).1 _ _ _ _ k1)
theorem uw {t1 t2 value:Expr}{q1 q2:Str×Pos}{p pos:Pos}{k:Nat}{ist:IS}(hq1:b7 t1=some q1)(hq2:b7 t2=some q2)(h:qD (aG m T) T q1.1 q1.2 q2.1 q2.2 value=some ist):SS prog w hb P T env A pr (.Assign [.Tuple [t1,t2] k p] value pos) ist:=by
 unfold qD at h
 cases hv:oQ value with
 |some vs=>
  rw[hv] at h
  obtain⟨r,hr,h6⟩:=aW h
  obtain⟨k',p',rfl⟩:=jv hv
  rw[jd hr]
  exact vO X E R hq1 hq2 h6
 |none=>
  rw[hv] at h
  obtain⟨hc,h⟩:=fS h
  obtain⟨i,j,e,h1,h2,h3,rfl⟩:=eR (f:=fun a b d=>IS.unpT a b d) h
  rw[bA hq1,bA hq2]
  refine .of fun n σ K hl hw=>?_
  exact vo E R h1 h2 hc hv hl ((ev' X E R h3).1 _ _ _ _ hw)
theorem s4 {t1 t2 value:Expr}{q1 q2:Expr×Str×Pos}{p pos:Pos}{k:Nat}{ist:IS}(hq1:ea t1=some q1)(hq2:ea t2=some q2)(h:qv (aG m T) q1.1 q1.2.1 q2.1 q2.2.1 value=some ist):SS prog w hb P T env A pr (.Assign [.Tuple [t1,t2] k p] value pos) ist:=by
 unfold qv at h
 obtain⟨vs,hv,h1⟩:=aW h
 obtain⟨r,hr,h2⟩:=aW h1
 obtain⟨k',p',rfl⟩:=jv hv
 rw[jd hr]
 obtain⟨hst,h2⟩:=ifO h2
 obtain⟨x,y,a,b,e1,e2,e3,e4,rfl⟩:=u4 (f:=fun x y a b=>IS.unpA x q1.2.1 y q2.2.1 a b) h2
 rw[dB hq1,dB hq2]
 refine .of fun n σ K hl hw=>?_
 refine wE X R hst hl (OkE.mono ((ev' X E R e3).1 _ _ _ _ hw) fun u c1 k1=>OkE.mono ((ev' X E R e4).1 _ _ _ _ k1) fun v c2 k2=>?_)
 obtain⟨dx,dy,rfl,rfl,k2⟩:=mO k2
 refine OkE.mono ((ev' X E R e1).1 _ _ _ _ k2) fun u1 c3 k3=>?_
 obtain⟨kk,dk,fs,rfl,g1,g2,g3,g4,g5⟩:=cL k3
 exact kR g1 g2 g3 g4 ((ev' X E R e2).1 _ _ _ _ g5)
theorem uC {t value:Expr}{pos:Pos}{ist:IS}(h:v8 (aG m T) T t value=some ist):SS prog w hb P T env A pr (.Assign [t] value pos) ist:=by
 unfold v8 at h
 cases hn:b7 t with
 |some q=>
  rw[hn] at h
  rw[bA hn]
  have h:(if bu value then (if io T q.1 q.2 value then (do return IS.asgC (←bm T q.1) (←aG m T value)) else none) else (do return IS.asg (←bm T q.1) (←aG m T value)))=some ist:=h
  by_cases hc:bu value=true
  ·rw[if_pos hc] at h
   obtain⟨hsw,h⟩:=ifO h
   obtain⟨i,e,h1,h2,rfl⟩:=cO h
   refine .of fun n σ K hl hw=>?_
   exact uA X E R hsw h1 h2 hl hw
  ·rw[if_neg hc] at h
   obtain⟨i,e,h1,h2,rfl⟩:=cO h
   refine .of fun n σ K hl hw=>?_
   exact x6 E h1 hl (by simpa using hc) ((ev' X E R h2).1 _ _ _ _ hw)
 |none=>
  rw[hn] at h
  cases ha:ea t with
  |some q=>
   rw[ha] at h
   rw[dB ha]
   obtain⟨hc,h⟩:=fS h
   obtain⟨i,e,h1,h2,rfl⟩:=cO (f:=fun a d=>IS.asgA a _ d) h
   refine .of fun n σ K hl hw=>?_
   exact xi X E hl hc (OkE.mono ((ev' X E R h2).1 _ _ _ _ hw) fun u c1 k1=>(ev' X E R h1).1 _ _ _ _ k1)
  |none=>
   rw[ha] at h
   have h:vv (aG m T) T t value=some ist:=h
   unfold vv at h
   obtain⟨es,hes,h1⟩:=aW h
   obtain⟨q,hq,h2⟩:=aW h1
   clear h h1
   obtain⟨k,p,rfl⟩:=jv hes
   rw[jd hq]
   cases hq1:b7 q.1 with
   |some q1=>
    rw[hq1] at h2
    obtain⟨q2,hq2,h3⟩:=aW h2
    exact uw X E R hq1 hq2 h3
   |none=>
    rw[hq1] at h2
    obtain⟨q1,hq1,h3⟩:=aW h2
    obtain⟨q2,hq2,h4⟩:=aW h3
    exact s4 X E R hq1 hq2 h4
theorem s6 {t1 t2 value:Expr}{pos:Pos}{ist:IS}(h:asg2 (aG m T) T t1 t2 value=some ist):SS prog w hb P T env A pr (.Assign [t1,t2] value pos) ist:=by
 obtain⟨q2,hq2,h⟩:=aW h
 rw[bA hq2]
 obtain⟨hc,h⟩:=fS h
 cases hn:b7 t1 with
 |some q=>
  rw[hn] at h
  rw[bA hn]
  obtain⟨i,j,e,h1,h2,h3,rfl⟩:=eR h
  refine .of fun n σ K hl hw=>?_
  exact vU E h1 h2 hl hc ((ev' X E R h3).1 _ _ _ _ hw)
 |none=>
  rw[hn] at h
  obtain⟨q,hq,h⟩:=aW h
  rw[dB hq]
  obtain⟨i,j,e,h1,h2,h3,rfl⟩:=eR (f:=fun a b d=>IS.asgA2 a _ b d) h
  refine .of fun n σ K hl hw=>?_
  exact ul X E h2 hl hc (OkE.mono ((ev' X E R h3).1 _ _ _ _ hw) fun u c1 k1=>(ev' X E R h1).1 _ _ _ _ k1)
theorem vM {ts:List Expr}{value:Expr}{pos:Pos}{ist:IS}(h:yg (aG m T) T ts value=some ist):SS prog w hb P T env A pr (.Assign ts value pos) ist:=by
 match ts,h with
 | [t],h=>exact uC X E R h
 | [t1,t2],h=>exact s6 X E R h
theorem wp {ts:List Expr}{pos:Pos}{ist:IS}(h:wQ (aG m T) ts=some ist):SS prog w hb P T env A pr (.Delete ts pos) ist:=by
 unfold wQ at h
 obtain⟨t,ht,h1⟩:=aW h
 obtain⟨q,hq,h2⟩:=aW h1
 obtain⟨a,i,e1,e2,rfl⟩:=cO (f:=fun a b=>IS.del_ a b) h2
 obtain⟨p,rfl⟩:=sW hq
 rw[qo ht]
 refine .of fun n σ K hl hw=>?_
 exact yl hl (OkE.mono ((ev' X E R e1).1 _ _ _ _ hw) fun u c1 k1=>(ev' X E R e2).1 _ _ _ _ k1)
theorem xn {e:Option Expr}{pos:Pos}{ist:IS}(h:xM (aG m T) e=some ist):SS prog w hb P T env A pr (.Return e pos) ist:=by
 cases e with
 |none=>
  (injection h with h;subst h)
  refine .of fun n σ K hl hw=>?_
  exact fun α s Q hs F hq=>wpAny_Return_none (hq (.ret (.d .none)) _ α _ s.heap s.toks hs ⟨σ,hl,rfl,hw⟩ F (.refl ..) ⟨.none,rfl,.none⟩)
 |some e=>
  obtain⟨e,h1,rfl⟩:=dC h
  refine .of fun n σ K hl hw=>?_
  exact yu hl ((ev' X E R h1).1 _ _ _ _ hw)
theorem oT {t:Expr}{msg:Option Expr}{pos:Pos}{ist:IS}(h:(if msg.isNone then (do return IS.assert (←aG m T t)) else none)=some ist):SS prog w hb P T env A pr (.Assert t msg pos) ist:=by
 obtain⟨hm,h⟩:=ifO h
 rw[Option.isNone_iff_eq_none.mp hm]
 obtain⟨e,h1,rfl⟩:=dC h
 refine .of fun n σ K hl hw=>?_
 exact rA hl ((ev' X E R h1).2 _ _ _ _ hw)
theorem tK {e:Expr}{pos:Pos}{ist:IS}(h:(if bu e then none else (do return IS.expr (←aG m T e)))=some ist):SS prog w hb P T env A pr (.Expr e pos) ist:=by
 obtain⟨hc,h⟩:=fS h
 obtain⟨e,h1,rfl⟩:=dC h
 refine .of fun n σ K hl hw=>?_
 exact wt E hl hc ((ev' X E R h1).1 _ _ _ _ hw)
theorem yz (ihB:mu prog w hb P K₀ dep m){t:Expr}{a b:List Stmt}{pos:Pos}{ist:IS}(h:(do return IS.if_ (←aG m T t) (←bG m T a) (←bG m T b))=some ist):SS prog w hb P T env A pr (.If t a b pos) ist:=by
 obtain⟨t,a,b,h1,h2,h3,rfl⟩:=eR h
 refine .of fun n σ K hl hw=>?_
 refine y7 (OkE.mono ((ev' X E R h1).2 _ _ _ _ hw) fun r c1 k1=>⟨fun q=>?_,fun q=>?_⟩)
 ·exact ihB T env A pr X E R _ _ h2 n ⟨σ.l,c1⟩ K hl (k1.1 q)
 ·exact ihB T env A pr X E R _ _ h3 n ⟨σ.l,c1⟩ K hl (k1.2 q)
theorem rW (ihB:mu prog w hb P K₀ dep m){t:Expr}{a b:List Stmt}{pos:Pos}{ist:IS}(h:(do return IS.while_ (←aG m T t) (←bG m T a) (←bG m T b))=some ist):SS prog w hb P T env A pr (.While t a b pos) ist:=by
 obtain⟨t,a,b,h1,h2,h3,rfl⟩:=eR h
 refine .of fun n σ K hl hw=>?_
 obtain⟨I,k,hI,turn⟩:=hw
 refine ql (fun k τ=>∃σ:Sg',σ.l.length=T.names.length∧τ=⟨ad T.names σ.l,σ.c⟩∧I k σ) k ⟨σ,hl,rfl,hI⟩ ?_
 rintro k _ ⟨τ,hlτ,rfl,hIτ⟩
 refine OkE.mono ((ev' X E R h1).2 _ _ _ _ (turn k τ hIτ)) fun r c1 k1=>⟨fun q=>?_,fun q=>?_⟩
 ·refine OkS.mono (ihB T env A pr X E R _ _ h2 n ⟨τ.l,c1⟩ _ hlτ (k1.1 q)) fun f υ kk=>?_
  obtain⟨σ',hl',rfl,kk⟩:=kk
  cases f with
  |next=>obtain⟨k',υ',hk',W,hI'⟩:=kk;exact⟨k',_,hk',W.weak E.nd,υ',by rw[W.len];exact hl',rfl,hI'⟩
  |cont=>obtain⟨k',υ',hk',W,hI'⟩:=kk;exact⟨k',_,hk',W.weak E.nd,υ',by rw[W.len];exact hl',rfl,hI'⟩
  |brk=>exact⟨σ',hl',rfl,kk⟩
  |ret v=>exact⟨σ',hl',rfl,kk⟩
 ·exact ihB T env A pr X E R _ _ h3 n ⟨τ.l,c1⟩ K hlτ (k1.2 q)
theorem wS (ihB:mu prog w hb P K₀ dep m){t it:Expr}{a b:List Stmt}{pos:Pos}{ist:IS}(h:xS (aG m T) (bG m T) T t it a b=some ist):SS prog w hb P T env A pr (.For t it a b pos) ist:=by
 obtain⟨q,hq,h⟩:=aW h
 rw[bA hq]
 obtain⟨hc,h⟩:=ifO h
 obtain⟨hb',hfold⟩:=Bool.and_eq_true_iff.mp hc
 rw[List.isEmpty_iff.mp hb']
 obtain⟨i,it,a,h1,h2,h3,rfl⟩:=eR h
 refine .of fun n σ K hl hw=>?_
 obtain⟨hst,hslot⟩:=gI E h1
 refine xb E.eo R.handled hst (jH hfold) (OkE.mono ((ev' X E R h2).1 _ _ _ _ hw) fun v c1 k1=>?_)
 obtain⟨hsm,xs,hxs,I,hI,turn,fin⟩:=k1
 refine⟨hsm,xs,hxs,fun j τ=>∃σ:Sg',σ.l.length=T.names.length∧τ=⟨ad T.names σ.l,σ.c⟩∧I j σ,⟨⟨σ.l,c1⟩,hl,rfl,hI⟩,?_,?_⟩
 ·rintro j d _ hd ⟨τ,hlτ,rfl,hIτ⟩
  obtain⟨hlt,hb'⟩:=turn j d τ hd hIτ
  refine OkS.look (fun y=>gx E.nd hlτ hslot (.d d) y) ?_
  refine OkS.mono (ihB T env A pr X E R _ _ h3 n ⟨τ.l.set i (some (.d d)),τ.c⟩ _ (by rw[List.length_set];exact hlτ) hb') fun f υ kk=>?_
  obtain⟨σ',hl',rfl,kk⟩:=kk
  cases f with
  |next=>obtain⟨υ',W,hI'⟩:=kk;exact⟨_,W.weak E.nd,υ',by rw[W.len];exact hl',rfl,hI'⟩
  |cont=>obtain⟨υ',W,hI'⟩:=kk;exact⟨_,W.weak E.nd,υ',by rw[W.len];exact hl',rfl,hI'⟩
  |brk=>exact⟨σ',hl',rfl,kk⟩
  |ret v=>exact⟨σ',hl',rfl,kk⟩
 ·rintro _ ⟨τ,hlτ,rfl,hIτ⟩
  exact⟨τ,hlτ,rfl,fin τ hIτ⟩
end
theorem pf {m:Nat}(ihS:tT prog w hb P K₀ dep m)(ihB:mu prog w hb P K₀ dep m):tT prog w hb P K₀ dep (m+1):=by
 intro T env A pr X E R st ist h
 cases st with
 |Assign ts value p=>exact vM X E R h
 |If t a b p=>exact yz X E R ihB h
 |While t a b p=>exact rW X E R ihB h
 |For t it a b p=>exact wS X E R ihB h
 |Return e p=>exact xn X E R h
 |Delete ts p=>exact wp X E R h
 |Assert t msg p=>exact oT X E R h
 |Expr e p=>exact tK X E R h
 |Continue p=>
  (injection h with h;subst h)
  refine SS.of fun n σ K hl hw=>?_
  exact fun α s Q hs F hq=>wpAny_Continue (hq .cont _ α _ s.heap s.toks hs ⟨σ,hl,rfl,hw⟩ F (.refl ..) rfl)
 |Break p=>
  (injection h with h;subst h)
  refine SS.of fun n σ K hl hw=>?_
  exact fun α s Q hs F hq=>wpAny_Break (hq .brk _ α _ s.heap s.toks hs ⟨σ,hl,rfl,hw⟩ F (.refl ..) rfl)
 |_=>contradiction
theorem yk (m:Nat):tT prog w hb P K₀ dep m∧mu prog w hb P K₀ dep m:=by
 induction m with
 |zero=>exact⟨fun T env A pr X E R e ie h=>(nomatch h),fun T env A pr X E R e ie h=>(nomatch h)⟩
 |succ m ih=>exact⟨pf ih.1 ih.2,on ih.1 ih.2⟩
end
noncomputable def ed:F→V
 | .ret v=>v
 |_=>.d .none
noncomputable def start (vs:List V)(n:Nat):Sl:=vs.map some++List.replicate n none
theorem fz:∀(ns:List Str) (n:Nat),ad ns (List.replicate n none)=[]
 | [],n=>by cases n<;>rfl
 |_::ns,0=>rfl
 |_::ns,n+1=>fz ns n
theorem kf (ps rest:List Str):∀(vs:List V),vs.length=ps.length→ad (ps++rest) (start vs rest.length)=ps.zip vs:=by
 induction ps with
 |nil=>exact ls0 (P:=fun vs=>ad ([]++rest) (start vs rest.length)=List.zip [] vs) (fz rest rest.length)
 |cons p ps ih=>exact lsS (P:=fun vs=>ad (p::ps++rest) (start vs rest.length)=List.zip (p::ps) vs) fun v vs h=>congrArg ((p,v)::·) (ih vs h)
theorem FnOk.more {prog:Program}{w:World}{hb:Heap}{d d':Nat}{a:Addr}{spec:Spec}(h:FnOk prog w hb d a spec)(hd:d≤d'):FnOk prog w hb d' a spec:=
 fun A r=>h A (r.less hd)
structure FnT (hb:Heap)(a:Addr)(T:Tb)(ib:List IS)(ps rest:List Str)(fd:FuncData)(body:List Stmt)(m:Nat):Prop where
 N:FnAt hb a fd body ps
 kinds:T.kinds=fd.scope.names
 names:T.names=ps++rest
 nd:T.names.Nodup
 cel:∀p∈fd.scope.names,p.2=.cell→∀n,((cellsFrom n fd.scope.names []).lookup p.1).isSome=true
 gl:fd.globals=mainGlobals
 bl:fd.builtins=builtinsNs
 comp:bG m T body=some ib
theorem f0 {prog:Program}{w:World}{hb:Heap}{K₀:Frag}{P:Pm}{T:Tb}{dep m:Nat}{a:Addr}{fd:FuncData}{body:List Stmt}{ib:List IS}{ps rest:List Str}(N:FnT hb a T ib ps rest fd body m)(X:Cx0 prog w hb K₀ T P dep){spec:Spec}
  (h:∀(vs:List V) (c:aa) (K:V→aa→Prop),spec vs c K→vs.length=ps.length∧∃n,wpB P (dom c) n ib ⟨start vs rest.length,c⟩
    (fun f τ=>∃v' c',vW τ.c c' (ed f) v'∧b6 τ.c c' c'∧(∀k∈dom c,k∈dom c')∧K v' c')) :
  ∀(A:Around),Room (dep+1) A→∀(L:Addr) (vs:List V) (c:aa) (K:V→aa→Prop),spec vs c K→EnvOk (callEnvC fd L a)→vs.length=ps.length∧
   OkS (model prog w) A hb (dom c) (callEnvC fd L a) ⟨ps.zip vs,c⟩ (execs body (callEnvC fd L a))
    (fun f τ=>(∀k∈dom c,k∈dom τ.c)∧K (match f with | .ret v=>v|_=>.d .none) τ.c):=by
 intro A r L vs c K sp EO
 obtain⟨hl,n,hw⟩:=h vs c K sp
 refine⟨hl,?_⟩
 have E:CxE (callEnvC fd L a) T:=by
  refine⟨EO,N.gl,N.bl,fun x e=>?_,fun x e=>?_,fun x e=>?_,N.nd⟩
  ·rw[N.kinds] at e;exact e
  ·rw[N.kinds] at e;exact e
  ·rw[N.kinds] at e
   refine⟨e,Option.isSome_iff_exists.mp (N.cel _ (mem_of_lookup e) rfl _)⟩
 have:=(yk (prog:=prog) (w:=w) (hb:=hb) (P:=P) (K₀:=K₀) (dep:=dep) m).2 T _ A (dom c) X E r body ib N.comp n ⟨start vs rest.length,c⟩ _ (by rw[N.names];simp[start,hl]) hw
 intro α s Q hs Fr hq
 rw[N.names,kf _ _ _ hl] at this
 refine this α s Q hs Fr fun f τ α' g h' tk ht k F' L' i=>?_
 obtain⟨σ,hlσ,rfl,v',c',hv,hc,hd,hK⟩:=k
 have W:Weak (dom c) ⟨ad (ps++rest) σ.l,σ.c⟩ ⟨[],c'⟩:=⟨trivial,hc,hd⟩
 have F2:=W.fst F'
 have L2:=W.leS L'
 have hdom:∀k∈dom c',k∈dom σ.c:=fun k hk=>cw hc k hk
 have hK':∀f':F,ed f'=v'→(∀k∈dom c,k∈dom (⟨[],c'⟩:Sg).c)∧K (match f' with | .ret v=>v|_=>.d .none) c':=fun f' e=>⟨hd,by cases f'<;>(dsimp only[ed] at e;rw[e];exact hK)⟩
 cases f with
 |next=>
  have:v'=.d .none:=by rcases hv with ⟨q,_⟩|⟨k,xs,q,_⟩;exact q;contradiction
  exact hq .next ⟨[],c'⟩ α' g h' tk ht (hK' .next this.symm) F2 L2 i
 |brk=>
  have:v'=.d .none:=by rcases hv with ⟨q,_⟩|⟨k,xs,q,_⟩;exact q;contradiction
  exact hq .brk ⟨[],c'⟩ α' g h' tk ht (hK' .brk this.symm) F2 L2 i
 |cont=>
  have:v'=.d .none:=by rcases hv with ⟨q,_⟩|⟨k,xs,q,_⟩;exact q;contradiction
  exact hq .cont ⟨[],c'⟩ α' g h' tk ht (hK' .cont this.symm) F2 L2 i
 |ret v=>
  obtain⟨g',rfl,ig⟩:=i
  exact hq (.ret v') ⟨[],c'⟩ α' _ h' tk ht (hK' (.ret v') rfl) F2 L2 ⟨g',rfl,nR F'.toCst hdom hv ig⟩
theorem gf {prog:Program}{w:World}{hb:Heap}{K₀:Frag}{P:Pm}{T:Tb}{dep m:Nat}{a:Addr}{fd:FuncData}{body:List Stmt}{ib:List IS}{ps rest:List Str}(N:FnT hb a T ib ps rest fd body m)(X:Cx0 prog w hb K₀ T P dep){spec:Spec}
  (h:∀(vs:List V) (c:aa) (K:V→aa→Prop),spec vs c K→vs.length=ps.length∧∃n,wpB P (dom c) n ib ⟨start vs rest.length,c⟩
    (fun f τ=>∃v' c',vW τ.c c' (ed f) v'∧b6 τ.c c' c'∧(∀k∈dom c,k∈dom c')∧K v' c')) :
  FnOk prog w hb (dep+2) a spec:=yI N.N (f0 N X h)
theorem xj {prog:Program}{w:World}{hb:Heap}{K₀:Frag}{P:Pm}{T:Tb}{dep m:Nat}{a:Addr}{fd:FuncData}{body:List Stmt}{ib:List IS}{x:Str}{ps rest:List Str}(N:FnT hb a T ib (x::ps) rest fd body m)(hl:fd.scope.names.lookup x=some .local)(X:Cx0 prog w hb K₀ T P dep){spec:Spec}
  (h:∀(vs:List V) (c:aa) (K:V→aa→Prop),spec vs c K→vs.length=(x::ps).length∧∃n,wpB P (dom c) n ib ⟨start vs rest.length,c⟩
    (fun f τ=>∃v' c',vW τ.c c' (ed f) v'∧b6 τ.c c' c'∧(∀k∈dom c,k∈dom c')∧K v' c')) :
  nr prog w hb (dep+2) a spec:=wB N.N hl (f0 N X h)
noncomputable def ft (K:Frag)(a:Addr):Option FuncData:=match K.lookup a with
 |some o=>(match o.data with | .func fd=>some fd|_=>none)
 |none=>none
noncomputable def bh (K:Frag)(a:Addr):List Stmt:=match ft K a with
 |some fd=>(match fd.body with | .stmts b=>b|_=>[])
 |none=>[]
noncomputable def eM (K:Frag)(a:Addr):List (Str×NameKind):=match ft K a with
 |some fd=>fd.scope.names
 |none=>[]
noncomputable def pT (K:Frag)(a:Addr):List Str:=match ft K a with
 |some fd=>fd.params.args.map (·.arg)
 |none=>[]
noncomputable def dj (K:Frag)(a:Addr):List Str:=((eM K a).filter fun p=>(p.2==.local||p.2==.cell)&&!(pT K a).contains p.1).map (·.1)
noncomputable def nsOf (K:Frag)(a:Addr):Array DictEntry:=match K.lookup a with
 |some o=>(match o.data with | .dict es _=>es|_=>#[])
 |none=>#[]
noncomputable def yT (K:Frag)(a:Addr)(G:List (Str×V))(cells:List Pos)(mak:Str→Pos→Option (Addr×Nat×Nat))(meth:List (Str×Addr)):Tb where
 names:=pT K a++dj K a
 kinds:=eM K a
 G:=fun x=>G.lookup x
 cell:=fun p=>if cells.any (fun q=>q.line==p.line&&q.col==p.col&&q.endCol==p.endCol) then some (1000*p.line+p.col) else none
 mak:=mak
 meth:=fun x=>meth.lookup x
end Mine
end
section
namespace Mine
open PySem PyProof.Rows PySem.W PySem.StrLaws PySem.Builtin.Str
theorem cg {x:Str}{i c:Nat}(h:(sg x)[i]?=some c):Txt.item x (i:Int)=⟨#[c]⟩:=by
 have hi:i<x.cps.size:=by
  obtain⟨h1,_⟩:=List.getElem?_eq_some_iff.mp h
  simpa [sg] using h1
 unfold Txt.item Txt.charAt
 have e:seqIndex? (i:Int) x.length=some i:=by
  unfold seqIndex?
  have h1:¬((i:Int)<0):=by exact Om.o17
  simp only[h1,if_false]
  have h2:(decide (0≤(i:Int))&&decide ((i:Int)<(x.length:Nat)))=true:=by
   simp[Str.length];exact Om.o39 hi
  rw[if_pos h2];simp
 rw[e]
 have:x.cps[i]?=some c:=by rw[←h];simp[sg]
 simp[this]
theorem oZ {x:Str}{c:Nat}(h:(sg x).getLast?=some c):Txt.item x (-1)=⟨#[c]⟩:=by
 have hn:(sg x)≠[]:=fun e=>by rw[e] at h;contradiction
 have hl:0<x.cps.size:=by
  have:=List.length_pos_iff.mpr hn
  simpa [sg] using this
 unfold Txt.item Txt.charAt
 have e:seqIndex? (-1) x.length=some (x.length-1):=by
  unfold seqIndex?
  simp only[show ((-1:Int)<0) from by decide,if_true]
  have h2:(decide (0≤(-1:Int)+(x.length:Nat))&&decide ((-1:Int)+(x.length:Nat)<(x.length:Nat)))=true:=by
   have:(x.length:Nat)=x.cps.size:=rfl
   rw[this]
   simp only[Bool.and_eq_true,decide_eq_true_eq];exact Om.o38 hl
  rw[if_pos h2]
  have:(x.length:Nat)=x.cps.size:=rfl
  congr 1
  rw[this];exact Om.o26
 rw[e]
 have:x.cps[x.length-1]?=some c:=by
  rw[List.getLast?_eq_getElem?] at h
  simpa [sg,Str.length] using h
 simp[this]
theorem iF (x:Str){a b:Nat}(hab:a≤b)(ha:a≤(sg x).length):Txt.slice x (some (a:Int)) (some (b:Int))=⟨(((sg x).drop a).take (b-a)).toArray⟩:=by
 have hlen:(sg x).length=x.length:=by simp[sg,Str.length]
 by_cases hb:b≤x.length
 ·exact sliceText_nat x hab hb
 ·have e:strSliceIndices (some (a:Int)) (some (b:Int)) 1 x.length=strSliceIndices (some (a:Int)) (some ((x.length:Nat):Int)) 1 x.length:=by
   unfold strSliceIndices
   have h1:¬((b:Int)<0):=by exact Om.o17
   have h2:¬(((x.length:Nat):Int)<0):=by exact Om.o17
   dsimp only[h1,h2,if_false,show (1:Int) > 0 from by decide,if_true]
   congr 1
   exact Om.o37 hb
  have e2:Txt.slice x (some (a:Int)) (some (b:Int))=Txt.slice x (some (a:Int)) (some ((x.length:Nat):Int)):=by
   unfold Txt.slice;rw[e]
  rw[e2]
  refine (sliceText_nat x (by rw[←hlen];exact ha) (Nat.le_refl _)).trans ?_
  congr 2
  show ((sg x).drop a).take (x.length-a)=((sg x).drop a).take (b-a)
  rw[List.take_of_length_le (by rw[List.length_drop];exact Om.o36),List.take_of_length_le (by rw[List.length_drop];exact Om.o35 hb)]
theorem fV (s sub:Str)(hi:Nat):∀(l:List Nat) (free:Nat),(∀i∈l,free≤i)→
  (forIn l ((#[]:Array Nat),free) (occBody s sub hi 1)).run.fst=(match l.find? (fun i=>decide (i+sub.length≤hi)&&subAt s sub i) with|some a=>#[a]|none=>#[])
 | [],free,_=>rfl
 |a::l,free,hf=>by
  rw[List.forIn_cons]
  unfold occBody
  have ha:free≤a:=hf a (.head _)
  by_cases hc:a+sub.length≤hi∧subAt s sub a=true
  ·rw[if_pos ⟨⟨⟨by simp,ha⟩,hc.1⟩,hc.2⟩]
   have e:((a::l).find? fun i=>decide (i+sub.length≤hi)&&subAt s sub i)=some a:=by simp[List.find?_cons,hc.1,hc.2]
   rw[e]
   show (forIn l (#[a],a+sub.length) (occBody s sub hi 1)).run.fst=#[a]
   generalize a+sub.length=f
   clear hf e hc ha
   induction l generalizing f with
   |nil=>rfl
   |cons b l ih=>
    rw[List.forIn_cons]
    unfold occBody
    rw[if_neg (fun h=>by have:=h.1.1.1;simp at this)]
    exact ih f
  ·rw[if_neg (fun h=>hc ⟨h.1.2,h.2⟩)]
   have e:((a::l).find? fun i=>decide (i+sub.length≤hi)&&subAt s sub i)=l.find? (fun i=>decide (i+sub.length≤hi)&&subAt s sub i):=by
    rw[List.find?_cons]
    have:(decide (a+sub.length≤hi)&&subAt s sub a)=false:=by
     cases h:(decide (a+sub.length≤hi)&&subAt s sub a) with
     |false=>rfl
     |true=>simp only[Bool.and_eq_true,decide_eq_true_eq] at h;exact absurd h hc
    rw[this]
   rw[e]
   exact fV s sub hi l free (fun i h=>hf i (.tail _ h))
theorem tR {x:Str}{i:Nat}(h:∃j:Nat,i≤j∧(sg x)[j]?=some 10):∃j:Nat,Txt.find3 x ⟨#[10]⟩ (i:Int)=(j:Int)∧i≤j∧(sg x)[j]?=some 10∧∀m:Nat,i≤m→m<j→(sg x)[m]?≠some 10:=by
 unfold Txt.find3
 have e1:fromIndex x.length (i:Int)=i:=by
  unfold fromIndex
  rw[if_neg (by exact Om.o17)];exact Om.o34
 rw[e1,occ_eq,fV x ⟨#[10]⟩ x.length _ i (fun m hm=>by have:=List.mem_range'_1.mp hm;exact Om.o33 this)]
 cases hf:(List.range' i (x.length+1-i)).find? (fun i=>decide (i+(⟨#[10]⟩:Str).length≤x.length)&&subAt x ⟨#[10]⟩ i) with
 |none=>
  obtain⟨j,hj,hc⟩:=h
  have:=List.find?_eq_none.mp hf j (by
   obtain⟨hlt,_⟩:=List.getElem?_eq_some_iff.mp hc
   have:j<x.length:=by simpa [sg,Str.length] using hlt
   exact List.mem_range'_1.mpr (by exact Om.o32 hj this))
  have hc':=(subAt_one x 10 j).mpr hc
  simp only[Bool.and_eq_true,decide_eq_true_eq] at this
  exact absurd hc' this
 |some j=>
  obtain⟨as,bs,hl,hall⟩:=(List.find?_eq_some_iff_append.mp hf).2
  have hp:=(List.find?_eq_some_iff_append.mp hf).1
  simp only[Bool.and_eq_true,decide_eq_true_eq] at hp
  have hmem:j∈List.range' i (x.length+1-i):=List.mem_of_find?_eq_some hf
  refine⟨j,rfl,(List.mem_range'_1.mp hmem).1,(subAt_one x 10 j).mp hp,fun m h1 h2 hc=>?_⟩
  have hm:m∈List.range' i (x.length+1-i):=List.mem_range'_1.mpr (by have:=List.mem_range'_1.mp hmem;exact Om.o31 h1 h2 this)
  rw[hl] at hm
  have hsort:(List.range' i (x.length+1-i)).Pairwise (·<·):=List.pairwise_lt_range'
  rw[hl] at hsort
  rcases List.mem_append.mp hm with hm|hm
  ·have:=hall m hm
   have hc':=(subAt_one x 10 m).mpr hc
   simp only[Bool.not_eq_true',Bool.and_eq_false_iff,decide_eq_false_iff_not] at this
   rcases this with q|q
   ·exact q hc'.1
   ·rw[hc'.2] at q;contradiction
  ·have h3:=(List.pairwise_append.mp hsort).2.1
   rcases List.mem_cons.mp hm with rfl|hm
   ·exact Om.o30 h2
   ·have:=(List.pairwise_cons.mp h3).1 m hm;exact Om.o29 h2 this
end Mine
end
section
namespace Mine
open PySem PyProof.Rows PySem.W
noncomputable def rv:List IS:=[
 .asg 9 (.item (.v 1) (.v 7)),
 .asg 7 (.bin .Add (.v 7) (.c (.int 1))),
 .if_ (.cmp .Eq (.v 9) (.c (.str ⟨#[120]⟩))) [
  .cont] [],
 .if_ (.cmp .Eq (.slice (.v 1) (.bin .Sub (.v 7) (.c (.int 1))) (.bin .Add (.v 7) (.v 12))) (.v 10)) [
  .asg 7 (.bin .Add (.v 7) (.v 12)),
  .brk] [],
 .if_ (.cmp .Eq (.v 9) (.c (.str ⟨#[10]⟩))) [
  .asg 4 (.bin .Add (.v 4) (.c (.int 1))),
  .if_ (.cmp .Eq (.v 12) (.c (.int 0))) [
   .if_ (.cmp .Eq (.v 3) (.c (.int 0))) [
    .expr (.call (.v 6) [(.v 4)] none)] [],
   .brk] [],
  .cont] [],
 .if_ (.cmp .Eq (.v 9) (.c (.str ⟨#[92]⟩))) [
  .assert (.cmp .Lt (.v 7) (.v 8)),
  .if_ (.cmp .Eq (.item (.v 1) (.v 7)) (.c (.str ⟨#[10]⟩))) [
   .asg 4 (.bin .Add (.v 4) (.c (.int 1)))] [],
  .asg 7 (.bin .Add (.v 7) (.c (.int 1))),
  .cont] []]
noncomputable def qL:List IS:=[
 .if_ (.cmp .Eq (.bin .Sub (.v 4) (.c (.int 1))) (.v 11)) [
  .asg 2 (.g (.d (.int 2)))] [
  .asg 2 (.g (.d (.int 3)))]]
noncomputable def inW:IS:=.while_ (.cmp .Lt (.v 7) (.v 8)) rv qL
noncomputable def rg:List IS:=[
 .asg 9 (.item (.v 1) (.v 7)),
 .asg 7 (.bin .Add (.v 7) (.c (.int 1))),
 .if_ (.cmp .Eq (.v 9) (.c (.str ⟨#[120]⟩))) [
  .cont] [],
 .if_ (.cmp .Eq (.v 9) (.c (.str ⟨#[10]⟩))) [
  .asg 4 (.bin .Add (.v 4) (.c (.int 1))),
  .if_ (.cmp .Eq (.v 3) (.c (.int 0))) [
   .expr (.call (.v 6) [(.v 4)] none)] [],
  .cont] [],
 .if_ (.cmp .Eq (.v 9) (.c (.str ⟨#[40]⟩))) [
  .asg 3 (.bin .Add (.v 3) (.c (.int 1))),
  .cont] [],
 .if_ (.cmp .Eq (.v 9) (.c (.str ⟨#[41]⟩))) [
  .if_ (.v 3) [
   .asg 3 (.bin .Sub (.v 3) (.c (.int 1)))] [],
  .cont] [],
 .if_ (.or (.cmp .Eq (.v 9) (.c (.str ⟨#[34]⟩))) (.cmp .Eq (.v 9) (.c (.str ⟨#[39]⟩)))) [
  .asg 10 (.v 9),
  .if_ (.cmp .Eq (.slice (.v 1) (.bin .Sub (.v 7) (.c (.int 1))) (.bin .Add (.v 7) (.c (.int 2)))) (.bin .Mult (.v 10) (.c (.int 3)))) [
   .asg 10 (.bin .Mult (.v 10) (.c (.int 3)))] [],
  .asg 11 (.v 4),
  .asg 12 (.bin .Sub (.call (.g (.bi .len)) [(.v 10)] none) (.c (.int 1))),
  .asg 7 (.bin .Add (.v 7) (.v 12)),
  inW,
  .cont] [],
 .if_ (.cmp .Eq (.v 9) (.c (.str ⟨#[35]⟩))) [
  .asg 7 (.meth (.v 1) .find [(.c (.str ⟨#[10]⟩)),(.v 7)]),
  .assert (.cmp .GtE (.v 7) (.c (.int 0))),
  .cont] [],
 .assert (.cmp .Eq (.v 9) (.c (.str ⟨#[92]⟩))),
 .assert (.cmp .Lt (.v 7) (.v 8)),
 .if_ (.cmp .Eq (.item (.v 1) (.v 7)) (.c (.str ⟨#[10]⟩))) [
  .asg 4 (.bin .Add (.v 4) (.c (.int 1))),
  .if_ (.cmp .Eq (.bin .Add (.v 7) (.c (.int 1))) (.v 8)) [
   .asg 2 (.g (.d (.int 1)))] []] [],
 .asg 7 (.bin .Add (.v 7) (.c (.int 1)))]
noncomputable def vY:IS:=.while_ (.cmp .Lt (.v 7) (.v 8)) rg []
noncomputable def dP (td g b:Nat):List IS:=[
 .if_ (.cmp .GtE (.attr (.v 0) (Str.ofString "study_level")) (.c (.int 1))) [
  .ret none] [],
 .asgA (.v 0) (Str.ofString "study_level") (.c (.int 1)),
 .asg 1 (.attr (.v 0) (Str.ofString "code")),
 .asg 1 (.trans (.v 1) td),
 .asg 1 (.repl (.v 1) ⟨#[120,120,120,120,120,120,120,120]⟩ ⟨#[120]⟩),
 .asg 1 (.repl (.v 1) ⟨#[120,120,120,120]⟩ ⟨#[120]⟩),
 .asg 1 (.repl (.v 1) ⟨#[120,120]⟩ ⟨#[120]⟩),
 .asg 1 (.repl (.v 1) ⟨#[120,120]⟩ ⟨#[120]⟩),
 .asg 1 (.repl (.v 1) ⟨#[10,120]⟩ ⟨#[10]⟩),
 .asg 2 (.g (.d (.int 0))),
 .asg2 3 4 (.c (.int 0)),
 .asgA2 (.v 0) (Str.ofString "goodlines") 5 (.lst [(.c (.int 0))] (some g)),
 .asg 6 (.bnd (.v 5) b),
 .unp2 7 8 (.c (.int 0)) (.call (.g (.bi .len)) [(.v 1)] none),
 vY,
 .if_ (.and (.cmp .NotEq (.v 2) (.g (.d (.int 2)))) (.and (.cmp .NotEq (.v 2) (.g (.d (.int 3)))) (.cmp .Gt (.v 3) (.c (.int 0))))) [
  .asg 2 (.g (.d (.int 4)))] [],
 .asgA (.v 0) (Str.ofString "continuation") (.v 2),
 .assert (.cmp .Eq (.cmp .Eq (.v 2) (.g (.d (.int 0)))) (.cmp .Eq (.item (.v 5) (.c (.int (-1)))) (.v 4))),
 .if_ (.cmp .NotEq (.item (.v 5) (.c (.int (-1)))) (.v 4)) [
  .expr (.call (.v 6) [(.v 4)] none)] []]
structure Cel (Wc:List Nat→aa)(k g b:Nat)(pr:List Nat):Prop where
 b_:∀gd,ae (Wc gd) b=some (.bound "list.append" g)
 g_:∀gd,ae (Wc gd) g=some (.list (gd.map fun m:Nat=>D.int m))
 set:∀gd m,cset (Wc gd) g (.list ((gd.map fun m:Nat=>D.int m)++[.int (m:Nat)]))=Wc (gd++[m])
 wf:∀gd,b6 (Wc gd) (Wc gd) (Wc gd)
 pr:∀gd,∀j∈pr,j∈dom (Wc gd)
 k_:∀gd,k∈dom (Wc gd)
noncomputable def slots (k g b:Nat)(x:Str)(ct:Int)(lv ln i n:Nat)(r:List (Option V)):Sl:=
 some (.obj k)::some (.d (.str x))::some (.d (.int ct))::some (.d (.int lv))::some (.d (.int ln))::some (.obj g)::some (.obj b)::some (.d (.int i))::some (.d (.int n))::r
theorem mw (a b:Nat):((⟨#[a]⟩:Str)==⟨#[b]⟩)=decide (a=b):=by
 by_cases h:a=b
 ·subst h;simp
 ·simp only[h,decide_false]
  exact beq_eq_false_iff_ne.mpr fun e=>h (by injection e with e;injection e with e;injection e)
section
variable {P:Pm}{pr:List Nat}{k g b:Nat}{Wc:List Nat→aa}{x:Str}
def InS (x:Str)(d:Bool)(w f i:Nat)(s:St):Prop:=
 s=scan st0 ((sg x).take i)∧i≤(sg x).length∧
 ((w=0∧(s.md=.S1 d f∨(s.md=.Q1 d f∧¬((sg x)[i]?=some (qc d)∧(sg x)[i+1]?=some (qc d)))))∨
 (w=2∧(s.md=.S3 d 0 f∨(s.md=.S3 d 1 f∧¬((sg x)[i]?=some (qc d)∧(sg x)[i+1]?=some (qc d)))∨(s.md=.S3 d 2 f∧(sg x)[i]?≠some (qc d)))))
def Out (x:Str)(i:Nat)(s:St):Prop:=
 s=scan st0 ((sg x).take i)∧i≤(sg x).length∧(∀c,(sg x)[i]?=some c→step s c=aX s c)∧(i=(sg x).length→s.md=.N∨s.md=.Nb)
noncomputable def dA (d:Bool)(w:Nat):Str:=if w=0 then ⟨#[qc d]⟩ else ⟨#[qc d,qc d,qc d]⟩
def u9 (x:Str):Prop:=∀c∈sg x,c=10∨c=34∨c=35∨c=39∨c=40∨c=41∨c=92∨c=120
theorem aK {i c:Nat}(h:(sg x)[i]?=some c):scan st0 ((sg x).take (i+1))=step (scan st0 ((sg x).take i)) c:=by
 have e:(sg x).take (i+1)=(sg x).take i++[c]:=by rw[List.take_add_one,h];rfl
 rw[e,aM];rfl
end
section
variable {x:Str}
theorem aY {l:List Nat}{i c:Nat}(h:l[i]?=some c):i+1≤l.length:=(List.getElem?_eq_some_iff.mp h).1
theorem cU (d:Bool):qc d=34∨qc d=39:=by cases d<;>simp[qc]
def same (s s':St):Prop:=s'.lv=s.lv∧s'.ln=s.ln∧s'.gd=s.gd
variable {d:Bool}{w f i c:Nat}{s:St}
theorem iC (h:InS x d w f i s)(hc:(sg x)[i]?=some c)(h1:c≠qc d)(h2:c≠10)(h3:c≠92):∃s',InS x d w f (i+1) s'∧same s s':=by
 obtain⟨rfl,hi,h⟩:=h
 refine⟨_,⟨(aK hc).symm,aY hc,?_⟩,?_⟩
 ·rcases h with ⟨hw,h|⟨h,_⟩⟩|⟨hw,h|⟨h,_⟩|⟨h,_⟩⟩
  ·exact .inl ⟨hw,.inl (by simp[step,h,bc,h1,h2,h3])⟩
  ·exact .inl ⟨hw,.inl (by simp[step,h,bc,h1,h2,h3])⟩
  ·exact .inr ⟨hw,.inl (by simp[step,h,h1,h2,h3])⟩
  ·exact .inr ⟨hw,.inl (by simp[step,h,h1,h2,h3])⟩
  ·exact .inr ⟨hw,.inl (by simp[step,h,h1,h2,h3])⟩
 ·unfold same
  rcases h with ⟨hw,h|⟨h,_⟩⟩|⟨hw,h|⟨h,_⟩|⟨h,_⟩⟩<;>simp[step,h,bc,h1,h2,h3]
theorem nZ (h:InS x d 2 f i s)(hc:(sg x)[i]?=some (qc d))(h1:¬((sg x)[i+1]?=some (qc d)∧(sg x)[i+2]?=some (qc d))):∃s',InS x d 2 f (i+1) s'∧same s s':=by
 obtain⟨rfl,hi,h⟩:=h
 refine⟨_,⟨(aK hc).symm,aY hc,?_⟩,?_⟩
 ·rcases h with ⟨hw,_⟩|⟨hw,h|⟨h,q⟩|⟨h,q⟩⟩
  ·cases hw
  ·exact .inr ⟨rfl,.inr (.inl ⟨by simp[step,h],h1⟩)⟩
  ·exact .inr ⟨rfl,.inr (.inr ⟨by simp[step,h],fun e=>q ⟨hc,e⟩⟩)⟩
  ·exact absurd hc q
 ·unfold same
  rcases h with ⟨hw,_⟩|⟨hw,h|⟨h,q⟩|⟨h,q⟩⟩
  ·cases hw
  ·simp[step,h]
  ·simp[step,h]
  ·exact absurd hc q
theorem me (h:InS x d 2 f i s)(hc:(sg x)[i]?=some (qc d))(h1:(sg x)[i+1]?=some (qc d))(h2:(sg x)[i+2]?=some (qc d)):∃s',Out x (i+3) s'∧s'.md≠.Nb∧same s s':=by
 obtain⟨rfl,hi,h⟩:=h
 have e:scan st0 ((sg x).take (i+3))={scan st0 ((sg x).take i) with md:=.N}:=by
  rw[aK h2,aK h1,aK hc]
  rcases h with ⟨hw,_⟩|⟨hw,h|⟨h,q⟩|⟨h,q⟩⟩
  ·contradiction
  ·simp[step,h]
  ·exact absurd ⟨hc,h1⟩ q
  ·exact absurd hc q
 refine⟨_,⟨rfl,aY h2,fun c hc=>by rw[e];rfl,fun _=>.inl (by rw[e])⟩,by rw[e];simp,by rw[e];exact⟨rfl,rfl,rfl⟩⟩
theorem lZ (hl:∀i c,(sg x)[i]?=some c→i+1=(sg x).length→c=10)(h:InS x d 0 f i s)(hc:(sg x)[i]?=some (qc d)):∃s',Out x (i+1) s'∧s'.md≠.Nb∧same s s':=by
 obtain⟨rfl,hi,h⟩:=h
 have hq:qc d≠10:=by rcases cU d with q|q<;>rw[q]<;>decide
 rcases h with ⟨hw,h|⟨h,q⟩⟩|⟨hw,_⟩
 ·have e:scan st0 ((sg x).take (i+1))={scan st0 ((sg x).take i) with md:=.N}:=by rw[aK hc];simp[step,h,bc]
  exact⟨_,⟨rfl,aY hc,fun c hc=>by rw[e];rfl,fun q=>absurd (hl i _ hc q) hq⟩,by rw[e];simp,by simp only[e];exact⟨rfl,rfl,rfl⟩⟩
 ·have e:scan st0 ((sg x).take (i+1))={scan st0 ((sg x).take i) with md:=.Q2 d f}:=by rw[aK hc];simp[step,h]
  refine⟨_,⟨rfl,aY hc,fun c hc'=>?_,fun q=>absurd (hl i _ hc q) hq⟩,by rw[e];simp,by rw[e];exact⟨rfl,rfl,rfl⟩⟩
  rw[e]
  have:c≠qc d:=fun e=>q ⟨hc,e▸hc'⟩
  simp[step,this,aX,nl]
 ·contradiction
theorem s5 (h:InS x d 0 f i s)(hc:(sg x)[i]?=some 10):∃s',Out x (i+1) s'∧s'=nl s:=by
 obtain⟨rfl,hi,h⟩:=h
 have hq:¬10=qc d:=by rcases cU d with q|q<;>rw[q]<;>decide
 have e:scan st0 ((sg x).take (i+1))=nl (scan st0 ((sg x).take i)):=by
  rw[aK hc]
  rcases h with ⟨hw,h|⟨h,q⟩⟩|⟨hw,_⟩
  ·simp[step,h,bc,hq]
  ·simp[step,h,bc,hq]
  ·contradiction
 exact⟨_,⟨e.symm,aY hc,fun c hc=>rfl,fun _=>.inl rfl⟩,rfl⟩
theorem uo (h:InS x d 2 f i s)(hc:(sg x)[i]?=some 10):∃s',InS x d 2 f (i+1) s'∧s'.lv=s.lv∧s'.ln=s.ln+1∧s'.gd=s.gd:=by
 obtain⟨rfl,hi,h⟩:=h
 have hq:¬10=qc d:=by rcases cU d with q|q<;>rw[q]<;>decide
 have e:scan st0 ((sg x).take (i+1))={scan st0 ((sg x).take i) with md:=.S3 d 0 f,ln:=(scan st0 ((sg x).take i)).ln+1}:=by
  rw[aK hc]
  rcases h with ⟨hw,_⟩|⟨hw,h|⟨h,q⟩|⟨h,q⟩⟩
  ·contradiction
  ·simp[step,h,hq]
  ·simp[step,h,hq]
  ·simp[step,h,hq]
 exact⟨_,⟨e.symm,aY hc,.inr ⟨rfl,.inl rfl⟩⟩,rfl,rfl,rfl⟩
theorem sP (h:InS x d w f i s)(hc:(sg x)[i]?=some 92){e:Nat}(he:(sg x)[i+1]?=some e):∃s',InS x d w f (i+2) s'∧s'.lv=s.lv∧s'.ln=(if e=10 then s.ln+1 else s.ln)∧s'.gd=s.gd:=by
 obtain⟨rfl,hi,h⟩:=h
 have hq:¬92=qc d:=by rcases cU d with q|q<;>rw[q]<;>decide
 refine⟨scan st0 ((sg x).take (i+2)),⟨rfl,aY he,?_⟩,?_⟩
 ·rw[aK he,aK hc]
  rcases h with ⟨hw,h|⟨h,_⟩⟩|⟨hw,h|⟨h,_⟩|⟨h,_⟩⟩
  ·refine .inl ⟨hw,.inl ?_⟩;simp[step,h,bc,hq];split<;>rfl
  ·refine .inl ⟨hw,.inl ?_⟩;simp[step,h,bc,hq];split<;>rfl
  ·refine .inr ⟨hw,.inl ?_⟩;simp[step,h,hq];split<;>rfl
  ·refine .inr ⟨hw,.inl ?_⟩;simp[step,h,hq];split<;>rfl
  ·refine .inr ⟨hw,.inl ?_⟩;simp[step,h,hq];split<;>rfl
 ·rw[aK he,aK hc]
  rcases h with ⟨hw,h|⟨h,_⟩⟩|⟨hw,h|⟨h,_⟩|⟨h,_⟩⟩<;>simp[step,h,bc,hq]<;>split<;>simp[*]
noncomputable def ca:Md→Option Nat
 | .Q1 _ f | .S1 _ f | .S1e _ f | .S3 _ _ f | .S3e _ f=>some f
 |_=>none
theorem rr (h:InS x d w f i s):ca s.md=some f:=by
 rcases h.2.2 with ⟨hw,h|⟨h,_⟩⟩|⟨hw,h|⟨h,_⟩|⟨h,_⟩⟩<;>rw[h]<;>rfl
end
section
variable {P:Pm}{pr:List Nat}{k g b:Nat}{Wc:List Nat→aa}{x:Str}
theorem lg0 (a:Option V)(l:Sl):aI (a::l) 0=a:=rfl
theorem lgs (a:Option V)(l:Sl)(i:Nat):aI (a::l) (i+1)=aI l i:=rfl
theorem yi (C:Cel Wc k g b pr){x:Str}{ct:Int}{lv ln i n:Nat}{ch:Option V}{gd:List Nat}{q f w:D} :
  Wk pr ⟨slots k g b x ct lv ln i n [ch,some (.d q),some (.d f),some (.d w)],Wc gd⟩ ⟨slots k g b x ct lv ln i n [none,some (.d q),some (.d f),some (.d w)],Wc gd⟩:=by
 refine⟨?_,rfl,C.wf gd,C.pr gd⟩
 have hg:g∈dom (Wc gd):=ai (C.g_ gd)
 have hb:b∈dom (Wc gd):=ai (C.b_ gd)
 have hk:=C.k_ gd
 dsimp only[slots,slW,lg0,lgs,vW,vOk,Option.some.injEq,exists_eq_left',true_and]
 simp[hg,hb,hk]
theorem wF {c:aa}{x:Str}{a e:Int}{K:D→Prop}:jE c (.d (.str x)) (.d (.int a)) (.d (.int e)) K=(x.length≤big∧K (.str (Txt.slice x (some a) (some e)))):=rfl
theorem sX (C:Cel Wc k g b pr){gd:List Nat}{m:Nat}{kk:Option Nat}{K:V→aa→Prop}:ef P (Wc gd) kk (.obj b) [.d (.int ((m:Int)+1))] K=(gd.length≤big∧K (.d .none) (Wc (gd++[m+1]))):=by
 show e9 (ae (Wc gd) b) _=_
 simp only[C.b_ gd]
 show ("list.append"="list.append"∧cy (ae (Wc gd) g) _)=_
 rw[C.g_ gd]
 show (_∧_∧K (.d .none) (cset (Wc gd) g (.list (_++[.int ((m:Int)+1)]))))=_
 rw[show ((m:Int)+1)=((m+1:Nat):Int) from rfl,C.set gd (m+1)]
 simp
theorem ui {c:aa}{x y:Str}{K:Bool→Prop}:eJ c .Eq (.d (.str x)) (.d (.str y)) K=K (x==y):=rfl
theorem mN {c:aa}{x y:Int}{K:Bool→Prop}:eJ c .Eq (.d (.int x)) (.d (.int y)) K=K (x==y):=rfl
theorem qX {c:aa}{x y:Int}{K:Bool→Prop}:eJ c .Lt (.d (.int x)) (.d (.int y)) K=K (decide (x<y)):=rfl
theorem qM {c:aa}{x:Str}{i:Int}{K:D→Prop}:ee c (.d (.str x)) (.d (.int i)) K=(-(x.length:Int)≤i∧i<x.length∧x.length≤big∧K (.str (Txt.item x i))):=rfl
theorem ug {c:aa}{x y:Int}{K:D→Prop}:hH c .Add (.d (.int x)) (.d (.int y)) K=K (.int (x+y)):=rfl
theorem m9 {c:aa}{x y:Int}{K:D→Prop}:hH c .Sub (.d (.int x)) (.d (.int y)) K=K (.int (x-y)):=rfl
theorem q0 (s:St)(l:List Nat):(scan s l).gd.length≤s.gd.length+l.length:=by
 induction l generalizing s with
 |nil=>exact Nat.le_refl _
 |cons c l ih=>
  have h1:=ih (step s c)
  have h2:(step s c).gd.length≤s.gd.length+1:=by
   have hn:(nl s).gd.length≤s.gd.length+1:=by unfold nl;dsimp only;split<;>simp
   have hN:(aX s c).gd.length≤s.gd.length+1:=by
    unfold aX
    repeat' split
    all_goals first|exact hn|exact Nat.le_succ _
   have hS:∀d f,(bc s d f c).gd.length≤s.gd.length+1:=fun d f=>by
    unfold bc
    repeat' split
    all_goals first|exact hn|exact Nat.le_succ _
   unfold step
   split<;>first|exact hN|exact hS _ _|skip
   all_goals repeat' split
   all_goals first|exact hN|exact hS _ _|exact hn|exact Nat.le_succ _
  simp only[List.length_cons];exact Om.o65 h1 h2
theorem pH (hbig:(sg x).length+5≤big){i:Nat}:(scan st0 ((sg x).take i)).gd.length≤big:=by
 have:=q0 st0 ((sg x).take i)
 have h2:((sg x).take i).length≤(sg x).length:=by rw[List.length_take];exact Nat.min_le_right _ _
 have h3:st0.gd.length=1:=rfl
 exact Om.o64 hbig this h2 h3
theorem win3 {i:Nat}{q:Nat}:((⟨(((sg x).drop i).take 3).toArray⟩:Str)==⟨#[q,q,q]⟩)=true↔(sg x)[i]?=some q∧(sg x)[i+1]?=some q∧(sg x)[i+2]?=some q:=by
 have e:∀j,(sg x)[i+j]?=((sg x).drop i)[j]?:=fun j=>by simp only[List.getElem?_drop]
 rw[show (sg x)[i]?=((sg x).drop i)[0]? from e 0,e 1,e 2,beq_iff_eq]
 generalize (sg x).drop i=l
 constructor
 ·intro h
  have h':l.take 3=[q,q,q]:=by
   injection h with h
   have:=congrArg Array.toList h
   simpa using this
  rcases l with _|⟨a,_|⟨b,_|⟨c,l⟩⟩⟩
  ·contradiction
  ·simp at h'
  ·simp at h'
  ·have h'':[a,b,c]=[q,q,q]:=h'
   cases h'';exact⟨rfl,rfl,rfl⟩
 ·rintro⟨h1,h2,h3⟩
  rcases l with _|⟨a,_|⟨b,_|⟨c,l⟩⟩⟩
  ·contradiction
  ·contradiction
  ·contradiction
  ·(injection h1 with h1;subst h1);(injection h2 with h2;subst h2);(injection h3 with h3;subst h3);rfl
theorem xq {i c q:Nat}(hc:(sg x)[i]?=some c):((⟨(((sg x).drop i).take 1).toArray⟩:Str)==⟨#[q]⟩)=decide (c=q):=by
 have e:((sg x).drop i)[0]?=some c:=by rw[List.getElem?_drop];exact hc
 generalize (sg x).drop i=l at e
 cases l with
 |nil=>contradiction
 |cons a l=>(injection e with e;subst e);exact mw _ _
def y6 (k g b:Nat)(Wc:List Nat→aa)(x:Str)(i:Nat)(r:List (Option V))(K:F→Sg'→Prop):Prop:=
 ∀i' s' (ct':Int) ch,i≤i'→(Out x i' s'∧s'.md≠.Nb∧ct'=0∨i'=(sg x).length∧s'=scan st0 (sg x)∧∃f,ca s'.md=some f∧ct'=if s'.ln=f+1 then 2 else 3)→
  K .next ⟨slots k g b x ct' s'.lv s'.ln i' (sg x).length (ch::r),Wc s'.gd⟩
def InI (k g b:Nat)(Wc:List Nat→aa)(x:Str)(d:Bool)(w f i₀:Nat)(m:Nat)(τ:Sg'):Prop:=∃i s ch,m=(sg x).length-i∧i₀≤i∧InS x d w f i s∧τ=⟨slots k g b x 0 s.lv s.ln i (sg x).length [ch,some (.d (.str (dA d w))),some (.d (.int f)),some (.d (.int w))],Wc s.gd⟩
theorem q6 (C:Cel Wc k g b pr)(hl:∀i c,(sg x)[i]?=some c→i+1=(sg x).length→c=10)(hbig:(sg x).length+5≤big){d:Bool}{w f i₀ n:Nat}{s₀:St}(hw:w=0∨w=2)(h₀:InS x d w f i₀ s₀){ch₀:Option V}{K:F→Sg'→Prop}
  (hK:y6 k g b Wc x i₀ [some (.d (.str (dA d w))),some (.d (.int f)),some (.d (.int w))] K) :
  wpS P pr (n+30) (.while_ (.cmp .Lt (.v 7) (.v 8)) rv qL) ⟨slots k g b x 0 s₀.lv s₀.ln i₀ (sg x).length [ch₀,some (.d (.str (dA d w))),some (.d (.int f)),some (.d (.int w))],Wc s₀.gd⟩ K:=by
 have hlen:(sg x).length=x.length:=by simp[sg,Str.length]
 have hxb:x.length≤big:=by exact Om.o63 hbig
 refine⟨InI k g b Wc x d w f i₀,_,⟨i₀,s₀,ch₀,rfl,Nat.le_refl _,h₀,rfl⟩,?_⟩
 rintro _ _ ⟨i,s,ch,rfl,hi0,h,rfl⟩
 dsimp only[wpT,wpE,wT1,wE1,aw,slots,lg0,lgs,qX]
 refine⟨fun hlt=>?_,fun hge=>?_⟩
 ·have hlt:i<(sg x).length:=by have:=of_decide_eq_true hlt;exact Om.o62 this
  obtain⟨c,hc⟩:∃c,(sg x)[i]?=some c:=⟨_,List.getElem?_eq_getElem hlt⟩
  have hi2:=cg hc
  have again:∀i' s' ch (lv ln:Nat) gd,i<i'→InS x d w f i' s'→lv=s'.lv→ln=s'.ln→gd=s'.gd→∃k' υ',k'<(sg x).length-i∧Wk pr ⟨slots k g b x 0 lv ln i' (sg x).length [ch,some (.d (.str (dA d w))),some (.d (.int f)),some (.d (.int w))],Wc gd⟩ υ'∧
    InI k g b Wc x d w f i₀ k' υ':=by
   rintro i' s' ch _ _ _ h1 h2 rfl rfl rfl
   exact⟨_,_,by have:=h2.2.1;exact Om.o61 h1 this,yi C,i',s',none,rfl,by exact Om.o60 hi0 h1,h2,rfl⟩
  have hgd:s.gd.length≤big:=by rw[h.1];exact pH hbig
  have hsl:Txt.slice x (some ((i:Int)+1-1)) (some ((i:Int)+1+(w:Int)))=⟨(((sg x).drop i).take (w+1)).toArray⟩:=by
   have:=iF x (a:=i) (b:=i+1+w) (by exact Om.o59) (by exact Om.o58 hlt)
   simp only[show (i:Int)+1-1=(i:Int) by exact Om.o57,show ((i:Int)+1+(w:Int))=((i+1+w:Nat):Int) by exact Om.o56,this]
   congr 3;exact Om.o55
  dsimp only[rv,wpB,wpS,wpE,wpT,gv,wS1,wE1,wT1,aw,lg0,lgs,qM,ug,m9,ui,mN,qX,wF,List.set]
  simp only[hi2,mw,sX C]
  refine⟨by exact Om.o54,by exact Om.o53 hlt,hxb,fun h120=>?_,fun h120=>⟨hxb,fun hq=>?_,fun hq=>⟨fun h10=>?_,fun h10=>⟨fun h92=>?_,fun h92=>?_⟩⟩⟩⟩
  ·have hc':=of_decide_eq_true h120
   refine aA fun G9 back9=>?_;obtain⟨s',h1,h2,h3,h4⟩:=iC h hc (by rcases cU d with q|q<;>omega) (by exact Om.o52 hc') (by exact Om.o51 hc');refine back9 ?_
   exact again (i+1) s' _ s.lv s.ln s.gd (by exact Om.o43) h1 h2.symm h3.symm h4.symm
  ·rw[hsl] at hq
   rcases hw with rfl|rfl
   ·have hc':c=qc d:=of_decide_eq_true ((xq hc).symm.trans hq)
    subst hc'
    obtain⟨s',h1,hN,h2,h3,h4⟩:=lZ hl h hc
    have:=hK (i+1) s' 0 (some (.d (.str ⟨#[qc d]⟩))) (by exact Om.o13 hi0) (.inl ⟨h1,hN,rfl⟩)
    rw[h2,h3,h4] at this
    exact this
   ·obtain⟨q1,q2,q3⟩:=win3.mp hq
    obtain⟨s',h1,hN,h2,h3,h4⟩:=me h q1 q2 q3
    have:=hK (i+3) s' 0 (some (.d (.str ⟨#[c]⟩))) (by exact Om.o50 hi0) (.inl ⟨h1,hN,rfl⟩)
    rw[h2,h3,h4] at this
    exact this
  ·have hc':=of_decide_eq_true h10
   subst hc'
   rcases hw with rfl|rfl
   ·obtain⟨s',h1,rfl⟩:=s5 h hc
    refine⟨fun _=>⟨fun hz=>⟨hgd,?_⟩,fun hz=>?_⟩,fun q=>by cases q⟩
    ·have hz:s.lv=0:=by have:=beq_iff_eq.mp hz;exact Om.o49 this
     have:=hK (i+1) _ 0 (some (.d (.str ⟨#[10]⟩))) (by exact Om.o13 hi0) (.inl ⟨h1,by simp[nl],rfl⟩)
     unfold nl at this
     dsimp only at this
     rw[if_pos hz] at this
     exact this
    ·have hz:¬s.lv=0:=by have:=beq_eq_false_iff_ne.mp hz;exact Om.o48 this
     have:=hK (i+1) _ 0 (some (.d (.str ⟨#[10]⟩))) (by exact Om.o13 hi0) (.inl ⟨h1,by simp[nl],rfl⟩)
     unfold nl at this
     dsimp only at this
     rw[if_neg hz] at this
     exact this
   ·refine aA fun G9 back9=>?_;obtain⟨s',h1,h2,h3,h4⟩:=uo h hc;refine back9 ?_
    refine⟨fun q=>(by contradiction),fun _=>?_⟩
    exact again (i+1) s' _ s.lv (s.ln+1) s.gd (by exact Om.o43) h1 h2.symm h3.symm h4.symm
  ·have hc':=of_decide_eq_true h92
   subst hc'
   have hlt2:i+1<(sg x).length:=by
    rcases Nat.lt_or_ge (i+1) (sg x).length with q|q
    ·exact q
    ·exact absurd (hl i 92 hc (by exact Om.o47 hlt q)) (by decide)
   obtain⟨e,he⟩:∃e,(sg x)[i+1]?=some e:=⟨_,List.getElem?_eq_getElem hlt2⟩
   refine aA fun G9 back9=>?_;obtain⟨s',h1,h2,h3,h4⟩:=sP h hc he;refine back9 ?_
   have he2:Txt.item x ((i:Int)+1)=⟨#[e]⟩:=cg he
   simp only[he2,mw]
   refine⟨decide_eq_true (by exact Om.o45 hlt2),by exact Om.o46,by exact Om.o45 hlt2,hxb,fun q=>?_,fun q=>?_⟩
   ·rw[if_pos (of_decide_eq_true q)] at h3
    exact again (i+2) s' _ s.lv (s.ln+1) s.gd (by exact Om.o44) h1 h2.symm h3.symm h4.symm
   ·rw[if_neg (of_decide_eq_false q)] at h3
    exact again (i+2) s' _ s.lv s.ln s.gd (by exact Om.o44) h1 h2.symm h3.symm h4.symm
  ·rw[hsl] at hq
   have n10:=of_decide_eq_false h10
   have n92:=of_decide_eq_false h92
   by_cases hcq:c=qc d
   ·subst hcq
    rcases hw with rfl|rfl
    ·exact absurd ((xq hc).symm.trans hq) (by simp)
    ·have hnot:¬((sg x)[i+1]?=some (qc d)∧(sg x)[i+2]?=some (qc d)):=fun q=>by
      have:=win3.mpr ⟨hc,q.1,q.2⟩
      exact absurd (hq.symm.trans this) (by simp)
     refine aA fun G9 back9=>?_;obtain⟨s',h1,h2,h3,h4⟩:=nZ h hc hnot;refine back9 ?_
     exact again (i+1) s' _ s.lv s.ln s.gd (by exact Om.o43) h1 h2.symm h3.symm h4.symm
   ·obtain⟨s',h1,h2,h3,h4⟩:=iC h hc hcq n10 n92
    exact again (i+1) s' _ s.lv s.ln s.gd (by exact Om.o43) h1 h2.symm h3.symm h4.symm
 ·have hge:i=(sg x).length:=by have:=of_decide_eq_false hge;have:=h.2.1;exact Om.o42 ‹_› this
  dsimp only[qL,wpB,wpS,wpE,wpT,wS1,wE1,wT1,aw,lg0,lgs,m9,mN,List.set]
  have ho:=rr h
  have hs:s=scan st0 (sg x):=by rw[h.1,hge,List.take_length]
  refine⟨fun q=>?_,fun q=>?_⟩
  ·refine hK i s 2 ch hi0 (.inr ⟨hge,hs,f,ho,?_⟩)
   rw[if_pos (by have:=beq_iff_eq.mp q;exact Om.o41 this)]
  ·refine hK i s 3 ch hi0 (.inr ⟨hge,hs,f,ho,?_⟩)
   rw[if_neg (fun e=>by have:=beq_eq_false_iff_ne.mp q;exact Om.o40 e this)]
end
section
variable {P:Pm}{pr:List Nat}{k g b:Nat}{Wc:List Nat→aa}{x:Str}
theorem len_str {c:aa}{kk:Option Nat}{x:Str}{K:V→aa→Prop}:ef P c kk (.bi .len) [.d (.str x)] K=(x.length≤big∧K (.d (.int x.length)) c):=rfl
theorem wX (C:Cel Wc k g b pr){x:Str}{ct:Int}{lv ln i n:Nat}{r1 r2 r3 r4:Option V}{gd:List Nat} :
  Wk pr ⟨slots k g b x ct lv ln i n [r1,r2,r3,r4],Wc gd⟩ ⟨slots k g b x ct lv ln i n [none,none,none,none],Wc gd⟩:=by
 refine⟨?_,rfl,C.wf gd,C.pr gd⟩
 have hg:g∈dom (Wc gd):=ai (C.g_ gd)
 have hb:b∈dom (Wc gd):=ai (C.b_ gd)
 have hk:=C.k_ gd
 dsimp only[slots,slW,lg0,lgs,vW,vOk,Option.some.injEq,exists_eq_left',true_and]
 simp[hg,hb,hk]
def hV (x:Str)(i:Nat)(s:St)(ct:Int):Prop:=
 (Out x i s∧ct=if s.md=.Nb∧i=(sg x).length then 1 else 0)∨(i=(sg x).length∧s=scan st0 (sg x)∧∃f,ca s.md=some f∧ct=if s.ln=f+1 then 2 else 3)
theorem fK {i:Int}{c y:Nat}(h:Txt.item x i=⟨#[c]⟩)(e:(Txt.item x i==⟨#[y]⟩)=true):c=y:=by
 rw[h,mw] at e;exact of_decide_eq_true e
theorem fD {i:Int}{c y:Nat}(h:Txt.item x i=⟨#[c]⟩)(e:(Txt.item x i==⟨#[y]⟩)=false):c≠y:=by
 rw[h,mw] at e;exact of_decide_eq_false e
theorem bv {n i:Nat}{l:Sl}{c:aa}{v:V}(h:aI l i=some v)(K':V→aa→Prop)(hK:K' v c):wpE P (n+1) (.v i) l c K':=by
 show aw (aI l i) _
 rw[h];exact hK
theorem cG {n:Nat}{st:IS}{r:List IS}{σ:Sg'}{K:F→Sg'→Prop}(h:wpS P pr n st σ (fun f τ=>match f with | .next=>wpB P pr n r τ K|f=>K f τ)):wpB P pr (n+1) (st::r) σ K:=by
 exact h
section
variable {n:Nat}{a b f o:IE}{es:List IE}{l:Sl}{c:aa}{kk:Option Nat}{m:Mn}
theorem eG {op:CmpOp}{K:Bool→aa→Prop}:wpT P (n+1) (.cmp op a b) l c K=wpE P n a l c fun u c1=>wpE P n b l c1 fun v c2=>eJ c2 op u v fun r=>K r c2:=rfl
theorem m4 {op:CmpOp}{K:V→aa→Prop}:wpE P (n+1) (.cmp op a b) l c K=wpE P n a l c fun u c1=>wpE P n b l c1 fun v c2=>eJ c2 op u v fun r=>K (.d (.bool r)) c2:=rfl
theorem cp {op:Operator}{K:V→aa→Prop}:wpE P (n+1) (.bin op a b) l c K=wpE P n a l c fun u c1=>wpE P n b l c1 fun v c2=>hH c2 op u v fun d=>K (.d d) c2:=rfl
theorem rh {K:V→aa→Prop}:wpE P (n+1) (.item a b) l c K=wpE P n a l c fun u c1=>wpE P n b l c1 fun v c2=>ee c2 u v fun d=>K (.d d) c2:=rfl
theorem e6 {K:V→aa→Prop}:wpE P (n+1) (.call f es kk) l c K=wpE P n f l c fun u c1=>gv P n es l c1 fun vs c2=>ef P c2 kk u vs K:=rfl
theorem eX {K:V→aa→Prop}:wpE P (n+1) (.meth o m es) l c K=wpE P n o l c fun u c1=>dz c1 u m∧gv P n es l c1 fun vs c2=>nx c2 u m vs K:=rfl
theorem iN {x:Addr}{nm:Str}{K:V→aa→Prop}:wpE P (n+1) (.umeth o x nm es) l c K=wpE P n o l c fun u c1=>(gF P c1 u fun fs=>look fs nm=none)∧gv P n es l c1 fun vs c2=>P.isFn x=true∧P.fn x (u::vs) c2 (fun v c3=>eW c2 c3∧K v c3):=rfl
theorem ue {K:V→aa→Prop}:wpE P (n+1) (.lst es kk) l c K=gv P n es l c fun vs c1=>aw (lu vs) fun ds=>ds.length≤big∧ci c1 kk ds K:=rfl
theorem sI {K:V→aa→Prop}:wpE P (n+1) (.tup es) l c K=gv P n es l c fun vs c1=>aw (lu vs) fun ds=>ds.length≤big∧K (.d (.tup ds)) c1:=rfl
theorem wo {K:Bool→aa→Prop}:wpT P (n+1) (.or a b) l c K=wpT P n a l c fun r c1=>(r=true→K true c1)∧(r=false→wpT P n b l c1 K):=rfl
theorem qR {r:List IS}{σ:Sg'}{K:F→Sg'→Prop}:wpB P pr (n+2) (.expr a::r) σ K=wpE P n a σ.l σ.c fun _ c1=>wpB P pr (n+1) r ⟨σ.l,c1⟩ K:=rfl
theorem aZ {K:List V→aa→Prop}:gv P (n+1) (a::es) l c K=wpE P n a l c fun v c1=>gv P n es l c1 fun vs c2=>K (v::vs) c2:=rfl
end
theorem jn {n i:Nat}{it:IE}{a:List IS}{σ:Sg'}{K:F→Sg'→Prop}:wpS P pr (n+1) (.for_ i it a) σ K=wpE P n it σ.l σ.c fun v c1=>fe v∧∃xs,cs v=some xs∧∃I:Nat→Sg'→Prop,I 0 ⟨σ.l,c1⟩∧
    (∀j d τ,xs[j]?=some d→I j τ→i<τ.l.length∧wpB P pr n a ⟨τ.l.set i (some (.d d)),τ.c⟩ fun f υ=>match f with
     | .next | .cont=>∃υ',Wk pr υ υ'∧I (j+1) υ'
     | .brk=>K .next υ
     | .ret v=>K (.ret v) υ)∧∀τ,I xs.length τ→K .next τ:=rfl
theorem aq {n i:Nat}{e:IE}{r:List IS}{l:Sl}{c:aa}{K:F→Sg'→Prop}(v:V)(he:∀K':V→aa→Prop,K' v c→wpE P n e l c K')(h:wpB P pr (n+1) r ⟨l.set i (some v),c⟩ K):wpB P pr (n+2) (.asg i e::r) ⟨l,c⟩ K:=by
 exact he _ h
theorem kP (C:Cel Wc k g b pr){n:Nat}{l:Sl}{gd:List Nat}{m:Nat}{K:F→Sg'→Prop}(h6:aI l 6=some (.obj b))(h4:aI l 4=some (.d (.int (m:Int))))(hgd:gd.length≤big)(h:K .next ⟨l,Wc (gd++[m])⟩) :
  wpB P pr (n+5) [.expr (.call (.v 6) [(.v 4)] none)] ⟨l,Wc gd⟩ K:=by
 show aw (aI l 6) _
 simp only[h6]
 show aw (aI l 4) _
 simp only[h4]
 show e9 (ae (Wc gd) b) _
 simp only[C.b_ gd]
 refine⟨rfl,?_⟩
 rw[C.g_ gd]
 refine⟨by rw[List.length_map];exact hgd,?_⟩
 show K .next ⟨l,cset (Wc gd) g (.list (_++[.int (m:Int)]))⟩
 rw[C.set gd m]
 exact h
theorem uz (C:Cel Wc k g b pr){n:Nat}{l:Sl}{gd:List Nat}{m:Nat}{K:F→Sg'→Prop}(h6:aI l 6=some (.obj b))(h4:aI l 4=some (.d (.int ((m:Int)+1))))(hgd:gd.length≤big)(h:K .next ⟨l,Wc (gd++[m+1])⟩) :
  wpB P pr (n+5) [.expr (.call (.v 6) [(.v 4)] none)] ⟨l,Wc gd⟩ K:=by
 exact kP C (m:=m+1) h6 h4 hgd h
theorem kX (C:Cel Wc k g b pr)(hl:∀i c,(sg x)[i]?=some c→i+1=(sg x).length→c=10)(hbig:(sg x).length+5≤big){d:Bool}{w i n:Nat}{s:St}(hw:w=0∨w=2)(h:InS x d w s.ln (i+w) s){ch f' w':Option V}{K:F→Sg'→Prop}
  (hK:∀i' s' (ct':Int) ch r2 r3 r4,i+w≤i'→(Out x i' s'∧s'.md≠.Nb∧ct'=0∨i'=(sg x).length∧s'=scan st0 (sg x)∧∃f,ca s'.md=some f∧ct'=if s'.ln=f+1 then 2 else 3)→
   K .cont ⟨slots k g b x ct' s'.lv s'.ln i' (sg x).length [ch,r2,r3,r4],Wc s'.gd⟩) :
  wpB P pr (n+60) [.asg 11 (.v 4),.asg 12 (.bin .Sub (.call (.g (.bi .len)) [(.v 10)] none) (.c (.int 1))),.asg 7 (.bin .Add (.v 7) (.v 12)),inW,.cont]
   ⟨slots k g b x 0 s.lv s.ln i (sg x).length [ch,some (.d (.str (dA d w))),f',w'],Wc s.gd⟩ K:=by
 have hq:(dA d w).length=w+1:=by rcases hw with rfl|rfl<;>rfl
 refine aq (n:=n+58) (.d (.int s.ln)) (fun K' h=>h) ?_
 refine aq (n:=n+57) (.d (.int w)) (fun K' h=>⟨by rw[hq];unfold big;rcases hw with rfl|rfl<;>omega,?_⟩) ?_
 ·have e1:(((dA d w).length:Int)-1)=(w:Int):=by rw[hq];exact Om.o88
  show K' (.d (.int (((dA d w).length:Int)-1))) _
  rw[e1];exact h
 refine aq (n:=n+56) (.d (.int ((i+w:Nat):Int))) (fun K' h=>h) ?_
 refine cG (n:=n+56) ?_
 refine q6 (n:=n+26) (K:=_) C hl hbig hw h (ch₀:=ch) ?_
 intro i' s' ct' ch' hi hs
 exact hK i' s' ct' ch' _ _ _ hi hs
theorem yh {i c d:Nat}(hc:(sg x)[i]?=some c)(hsl:Txt.slice x (some ((i:Int)+1-1)) (some ((i:Int)+1+2))=⟨(((sg x).drop i).take 3).toArray⟩)
  (e:(Txt.slice x (some ((i:Int)+1-1)) (some ((i:Int)+1+2))==dH ⟨#[c]⟩ 3)=true):(sg x)[i+1]?=some c∧(sg x)[i+2]?=some c:=by
 rw[hsl] at e
 exact (win3.mp e).2
theorem wi {i c d:Nat}(hc:(sg x)[i]?=some c)(hsl:Txt.slice x (some ((i:Int)+1-1)) (some ((i:Int)+1+2))=⟨(((sg x).drop i).take 3).toArray⟩)
  (e:(Txt.slice x (some ((i:Int)+1-1)) (some ((i:Int)+1+2))==dH ⟨#[c]⟩ 3)=false):¬((sg x)[i+1]?=some c∧(sg x)[i+2]?=some c):=by
 rw[hsl] at e
 intro q
 have:=win3.mpr ⟨hc,q.1,q.2⟩
 exact absurd (e.symm.trans this) (by simp)
theorem n5 {i n:Nat}{s:St}{d:Bool}(h:Out x i s)(hc:(sg x)[i]?=some (qc d)) :
  ((sg x)[i+1]?=some (qc d)∧(sg x)[i+2]?=some (qc d)→∃s',InS x d 2 s.ln (i+3) s'∧same s s')∧
  (¬((sg x)[i+1]?=some (qc d)∧(sg x)[i+2]?=some (qc d))→∃s',InS x d 0 s.ln (i+1) s'∧same s s'):=by
 have e1:scan st0 ((sg x).take (i+1))={s with md:=.Q1 d s.ln}:=by
  simp only[aK hc,←h.1,h.2.2.1 _ hc]
  cases d<;>rfl
 refine⟨fun q=>?_,fun q=>⟨_,⟨e1.symm,aY hc,.inl ⟨rfl,.inr ⟨rfl,q⟩⟩⟩,rfl,rfl,rfl⟩⟩
 have e3:scan st0 ((sg x).take (i+3))={s with md:=.S3 d 0 s.ln}:=by
  simp only[aK q.2,aK q.1,e1]
  simp[step]
 exact⟨_,⟨e3.symm,aY q.2,.inr ⟨rfl,.inl rfl⟩⟩,rfl,rfl,rfl⟩
theorem qz {s:St}(hs:s.md=.C):∀(l:List Nat),(∀c∈l,c≠10)→scan s l=s
 | [],_=>rfl
 |c::l,h=>by
  have:step s c=s:=by simp[step,hs,h c (.head _)]
  simp only[bf,this]
  exact qz hs l fun c hc=>h c (.tail _ hc)
theorem yY {c:Nat}(h:c=10∨c=34∨c=35∨c=39∨c=40∨c=41∨c=92∨c=120)(n10:c≠10)(n34:c≠34)(n35:c≠35)(n39:c≠39)(n40:c≠40)(n41:c≠41)(n120:c≠120):c=92:=by
 rcases h with h|h|h|h|h|h|h|h
 ·exact absurd h n10
 ·exact absurd h n34
 ·exact absurd h n35
 ·exact absurd h n39
 ·exact absurd h n40
 ·exact absurd h n41
 ·exact h
 ·exact absurd h n120
def OuI (k g b:Nat)(Wc:List Nat→aa)(x:Str)(m:Nat)(τ:Sg'):Prop:=∃i s ct r1 r2 r3 r4,m=(sg x).length-i∧hV x i s ct∧τ=⟨slots k g b x ct s.lv s.ln i (sg x).length [r1,r2,r3,r4],Wc s.gd⟩
theorem rR (C:Cel Wc k g b pr)(hl:∀i c,(sg x)[i]?=some c→i+1=(sg x).length→c=10)(hend:sg x≠[]→(sg x)[(sg x).length-1]?=some 10)(hsg:u9 x)(hbig:(sg x).length+5≤big){n:Nat}{r:List (Option V)}(hr:r=[none,none,none,none]){K:F→Sg'→Prop}
  (hK:∀s ct r,hV x (sg x).length s ct→s=scan st0 (sg x)→K .next ⟨slots k g b x ct s.lv s.ln (sg x).length (sg x).length r,Wc s.gd⟩) :
  wpS P pr (n+100) vY ⟨slots k g b x 0 0 0 0 (sg x).length r,Wc [0]⟩ K:=by
 have hlen:(sg x).length=x.length:=by simp[sg,Str.length]
 have hxb:x.length≤big:=by exact Om.o63 hbig
 unfold vY
 refine⟨OuI k g b Wc x,_,⟨0,st0,0,none,none,none,none,rfl,.inl ⟨⟨rfl,Nat.zero_le _,fun c _=>rfl,fun _=>.inl rfl⟩,rfl⟩,by rw[hr];rfl⟩,?_⟩
 rintro _ _ ⟨i,s,ct,r1,r2,r3,r4,rfl,h0,rfl⟩
 refine⟨fun hlt=>?_,fun hge=>?_⟩
 ·have hlt:i<(sg x).length:=by have:=of_decide_eq_true hlt;exact Om.o62 this
  obtain⟨h,hct⟩:Out x i s∧ct=0:=by
   rcases h0 with ⟨h,e⟩|⟨h,_⟩
   ·exact⟨h,by rw[e,if_neg (fun q=>Nat.ne_of_lt hlt q.2)]⟩
   ·exact (Om.o87 hlt h).elim
  subst hct
  obtain⟨c,hc⟩:∃c,(sg x)[i]?=some c:=⟨_,List.getElem?_eq_getElem hlt⟩
  have hi2:=cg hc
  have hstep:scan st0 ((sg x).take (i+1))=aX s c:=by rw[aK hc,←h.1,h.2.2.1 c hc]
  have again:∀i' s' ct' r1 r2 r3 r4 (lv ln:Nat) gd,i<i'→hV x i' s' ct'→i'≤(sg x).length→lv=s'.lv→ln=s'.ln→gd=s'.gd→∃k' υ',k'<(sg x).length-i∧Wk pr ⟨slots k g b x ct' lv ln i' (sg x).length [r1,r2,r3,r4],Wc gd⟩ υ'∧
    OuI k g b Wc x k' υ':=by
   rintro i' s' ct' r1 r2 r3 r4 _ _ _ h1 h2 h3 rfl rfl rfl
   exact⟨_,_,by exact Om.o61 h1 h3,wX C,i',s',ct',none,none,none,none,rfl,h2,rfl⟩
  have hgd:s.gd.length≤big:=by rw[h.1];exact pH hbig
  have hsl:Txt.slice x (some ((i:Int)+1-1)) (some ((i:Int)+1+2))=⟨(((sg x).drop i).take 3).toArray⟩:=by
   have:=iF x (a:=i) (b:=i+3) (by exact Om.o86) (by exact Om.o58 hlt)
   simp only[show (i:Int)+1-1=(i:Int) by exact Om.o57,show ((i:Int)+1+2)=((i+3:Nat):Int) by exact Om.o85,this]
   congr 3;exact Om.o84
  have neu:∀s',s'=scan st0 ((sg x).take (i+1))→s'.md=.N→hV x (i+1) s' 0:=fun s' e1 e2=>
   .inl ⟨⟨e1,by exact Om.o82 hlt,fun c _=>by unfold step;rw[e2],fun _=>.inl e2⟩,by rw[if_neg (fun q=>by rw[e2] at q;cases q.1)]⟩
  show wpB P pr (n+99) rg ⟨slots k g b x 0 s.lv s.ln i (sg x).length [r1,r2,r3,r4],Wc s.gd⟩ _
  conv=>whnf
  refine⟨by exact Om.o54,by exact Om.o53 hlt,hxb,?_⟩
  conv=>whnf
  refine⟨fun h1=>?_,fun h1=>?_⟩
  ·have hc1:=fK hi2 h1
   subst hc1
   exact again (i+1) _ 0 _ _ _ _ s.lv s.ln s.gd (by exact Om.o43) (neu (aX s 120) hstep.symm rfl) (by exact Om.o82 hlt) rfl rfl rfl
  have n120:=fD hi2 h1
  conv=>whnf
  refine⟨fun h1=>?_,fun h1=>?_⟩
  ·have hc1:=fK hi2 h1
   subst hc1
   conv=>whnf
   refine⟨fun hz=>?_,fun hz=>?_⟩
   ·have hz:s.lv=0:=by have:=beq_iff_eq.mp hz;exact Om.o49 this
    have e:(aX s 10).gd=s.gd++[s.ln+1]:=by show (if s.lv=0 then _ else _)=_;rw[if_pos hz]
    refine uz C (n:=n+86) (gd:=s.gd) (m:=s.ln) rfl rfl hgd ?_
    exact again (i+1) _ 0 _ _ _ _ s.lv (s.ln+1) _ (by exact Om.o43) (neu (aX s 10) hstep.symm rfl) (by exact Om.o82 hlt) rfl rfl e.symm
   ·have hz:¬s.lv=0:=by have:=beq_eq_false_iff_ne.mp hz;exact Om.o48 this
    have e:(aX s 10).gd=s.gd:=by show (if s.lv=0 then _ else _)=_;rw[if_neg hz]
    exact again (i+1) _ 0 _ _ _ _ s.lv (s.ln+1) s.gd (by exact Om.o43) (neu (aX s 10) hstep.symm rfl) (by exact Om.o82 hlt) rfl rfl e.symm
  have n10:=fD hi2 h1
  conv=>whnf
  refine⟨fun h1=>?_,fun h1=>?_⟩
  ·have hc1:=fK hi2 h1
   subst hc1
   exact again (i+1) _ 0 _ _ _ _ (s.lv+1) s.ln s.gd (by exact Om.o43) (neu (aX s 40) hstep.symm rfl) (by exact Om.o82 hlt) rfl rfl rfl
  have n40:=fD hi2 h1
  conv=>whnf
  refine⟨fun h1=>?_,fun h1=>?_⟩
  ·have hc1:=fK hi2 h1
   subst hc1
   conv=>whnf
   refine⟨fun hz=>?_,fun hz=>?_⟩
   ·have hz:s.lv≠0:=by have:=bne_iff_ne.mp hz;exact Om.o48 this
    have:=again (i+1) _ 0 (some (.d (.str (Txt.item x i)))) r2 r3 r4 (s.lv-1) s.ln s.gd (by exact Om.o43) (neu (aX s 41) hstep.symm rfl) (by exact Om.o82 hlt) rfl rfl rfl
    have e:((s.lv-1:Nat):Int)=(s.lv:Int)-1:=by exact Om.o83 hz
    unfold slots at this
    rw[e] at this
    exact this
   ·have hz:s.lv=0:=by have:=bne_eq_false_iff_eq.mp hz;exact Om.o49 this
    exact again (i+1) _ 0 _ _ _ _ s.lv s.ln s.gd (by exact Om.o43) (neu (aX s 41) hstep.symm rfl) (by exact Om.o82 hlt) (by show s.lv=s.lv-1;exact Om.o81 hz) rfl rfl
  have n41:=fD hi2 h1
  have fin:∀i' s' (ct':Int) ch r2 r3 r4,i+1≤i'→(Out x i' s'∧s'.md≠.Nb∧ct'=0∨i'=(sg x).length∧s'=scan st0 (sg x)∧∃f,ca s'.md=some f∧ct'=if s'.ln=f+1 then 2 else 3)→
    ∃k' υ',k'<(sg x).length-i∧Wk pr ⟨slots k g b x ct' s'.lv s'.ln i' (sg x).length [ch,r2,r3,r4],Wc s'.gd⟩ υ'∧OuI k g b Wc x k' υ':=by
   intro i' s' ct' ch r2 r3 r4 hi q
   refine again i' s' ct' ch r2 r3 r4 s'.lv s'.ln s'.gd (by exact Om.o74 hi) ?_ ?_ rfl rfl rfl
   ·rcases q with ⟨q1,q2,rfl⟩|q
    ·exact .inl ⟨q1,by rw[if_neg (fun e=>q2 e.1)]⟩
    ·exact .inr q
   ·rcases q with ⟨q1,q2,rfl⟩|q
    ·exact q1.2.1
    ·exact Nat.le_of_eq q.1
  have quo:∀(d:Bool) (n':Nat) (K0:F→Sg'→Prop),c=qc d→(∀i' s' (ct':Int) ch r2 r3 r4,i+1≤i'→(Out x i' s'∧s'.md≠.Nb∧ct'=0∨i'=(sg x).length∧s'=scan st0 (sg x)∧∃f,ca s'.md=some f∧ct'=if s'.ln=f+1 then 2 else 3)→K0 .cont ⟨slots k g b x ct' s'.lv s'.ln i' (sg x).length [ch,r2,r3,r4],Wc s'.gd⟩)→wpB P pr (n'+90) [
    .asg 10 (.v 9),
    .if_ (.cmp .Eq (.slice (.v 1) (.bin .Sub (.v 7) (.c (.int 1))) (.bin .Add (.v 7) (.c (.int 2)))) (.bin .Mult (.v 10) (.c (.int 3)))) [
     .asg 10 (.bin .Mult (.v 10) (.c (.int 3)))] [],
    .asg 11 (.v 4),
    .asg 12 (.bin .Sub (.call (.g (.bi .len)) [(.v 10)] none) (.c (.int 1))),
    .asg 7 (.bin .Add (.v 7) (.v 12)),
    inW,
    .cont] ⟨slots k g b x 0 s.lv s.ln (i+1) (sg x).length [some (.d (.str (Txt.item x i))),r2,r3,r4],Wc s.gd⟩ K0:=by
   intro d n' K0 hcd hK0
   subst hcd
   rw[hi2]
   obtain⟨hb1,hb2⟩:=n5 (n:=n) h hc
   refine aq (n:=n'+88) (.d (.str ⟨#[qc d]⟩)) (fun K' h=>h) ?_
   conv=>whnf
   refine⟨hxb,?_⟩
   conv=>whnf
   refine⟨⟨by decide,by decide⟩,rfl,?_⟩
   conv=>whnf
   refine⟨fun hq=>?_,fun hq=>?_⟩
   ·conv=>whnf
    refine⟨⟨by decide,by decide⟩,rfl,?_⟩
    obtain⟨s',hin,h2,h3,h4⟩:=hb1 (yh (d:=0) hc hsl hq)
    have:=fun K0=>kX (P:=P) (pr:=pr) C hl hbig (d:=d) (w:=2) (i:=i+1) (s:=s') (n:=n'+28) (.inr rfl) (by rw[h3];exact hin) (ch:=some (.d (.str ⟨#[qc d]⟩))) (f':=r3) (w':=r4) (K:=K0)
    rw[h2,h3,h4] at this
    refine this _ ?_
    intro i' s' ct' ch r2 r3 r4 hi q
    exact hK0 i' s' ct' ch r2 r3 r4 (by exact Om.o80 hi) q
   ·obtain⟨s',hin,h2,h3,h4⟩:=hb2 (wi (d:=0) hc hsl hq)
    have:=fun K0=>kX (P:=P) (pr:=pr) C hl hbig (d:=d) (w:=0) (i:=i+1) (s:=s') (n:=n'+28) (.inl rfl) (by rw[h3];exact hin) (ch:=some (.d (.str ⟨#[qc d]⟩))) (f':=r3) (w':=r4) (K:=K0)
    rw[h2,h3,h4] at this
    refine this _ ?_
    intro i' s' ct' ch r2 r3 r4 hi q
    exact hK0 i' s' ct' ch r2 r3 r4 (by exact Om.o79 hi) q
  conv=>whnf
  refine⟨fun h1=>?_,fun h1=>?_⟩
  ·have hc1:=fK hi2 h1
   conv=>whnf
   refine⟨fun _=>?_,fun q=>by cases q⟩
   exact quo true (n+1) _ hc1 fin
  have n34:=fD hi2 h1
  conv=>whnf
  refine⟨fun h1=>?_,fun h1=>?_⟩
  ·have hc1:=fK hi2 h1
   exact quo false (n+1) _ hc1 fin
  have n39:=fD hi2 h1
  conv=>whnf
  refine⟨fun h1=>?_,fun h1=>?_⟩
  ·have hc1:=fK hi2 h1
   subst hc1
   obtain⟨j,hf,hj1,hj2,hj3⟩:=tR (x:=x) (i:=i+1) ⟨(sg x).length-1,by
    rcases Nat.lt_or_ge (i+1) (sg x).length with q|q
    ·exact Om.o78 q
    ·exact absurd (hl i 35 hc (by exact Om.o47 hlt q)) (by decide),hend (fun e=>by rw[e] at hlt;contradiction)⟩
   have hjl:j+1≤(sg x).length:=aY hj2
   have hsc:scan st0 ((sg x).take j)={s with md:=.C}:=by
    have e1:(sg x).take j=(sg x).take (i+1)++((sg x).take j).drop (i+1):=by
     conv=>lhs;rw[←List.take_append_drop (i+1) ((sg x).take j)]
     rw[List.take_take,Nat.min_eq_left hj1]
    rw[e1,aM,hstep]
    refine qz rfl _ fun c hcm e=>?_
    subst e
    obtain⟨m,hm⟩:=List.mem_iff_getElem?.mp hcm
    rw[List.getElem?_drop] at hm
    have hlt2:i+1+m<j:=by
     have:=(List.getElem?_eq_some_iff.mp hm).1
     simp only[List.length_take] at this;exact Om.o77 this
    rw[List.getElem?_take,if_pos hlt2] at hm
    exact hj3 (i+1+m) (by exact Om.o76) hlt2 hm
   have hO:hV x j {s with md:=.C} 0:=.inl ⟨⟨hsc.symm,by exact Om.o73 hjl,fun c hc'=>by rw[hj2] at hc';(injection hc' with hc';subst hc');rfl,fun q=>by exact (Om.o75 hjl q).elim⟩,by rw[if_neg (fun q=>by cases q.1)]⟩
   have fin:=again j _ 0 (some (.d (.str (Txt.item x i)))) r2 r3 r4 s.lv s.ln s.gd (by exact Om.o74 hj1) hO (by exact Om.o73 hjl) rfl rfl rfl
   unfold slots at fin
   rw[←hf] at fin
   conv=>whnf
   refine⟨rfl,?_⟩
   conv=>whnf
   refine⟨rfl,?_⟩
   conv=>whnf
   refine⟨show decide ((0:Int)≤Txt.find3 x ⟨#[10]⟩ ((i+1:Nat):Int))=true from decide_eq_true (by simp only[hf];exact Om.o72),?_⟩
   exact fin
  have n35:=fD hi2 h1
  have hc1:=yY (hsg c (List.mem_of_getElem? hc)) n10 n34 n35 n39 n40 n41 n120
  subst hc1
  have hlt2:i+1<(sg x).length:=by
   rcases Nat.lt_or_ge (i+1) (sg x).length with q|q
   ·exact q
   ·exact absurd (hl i 92 hc (by exact Om.o47 hlt q)) (by decide)
  obtain⟨e,he⟩:∃e,(sg x)[i+1]?=some e:=⟨_,List.getElem?_eq_getElem hlt2⟩
  have he2:Txt.item x ((i+1:Nat):Int)=⟨#[e]⟩:=cg he
  have hsc:scan st0 ((sg x).take (i+2))=if e=10 then {s with md:=.Nb,ln:=s.ln+1} else {s with md:=.N}:=by
   simp only[aK he,hstep];rfl
  conv=>whnf
  refine⟨show (Txt.item x i==⟨#[92]⟩)=true from by rw[hi2];rfl,?_⟩
  conv=>whnf
  refine⟨show decide (((i+1:Nat):Int)<(sg x).length)=true from decide_eq_true (by exact Om.o70 hlt2),?_⟩
  conv=>whnf
  refine⟨show -(x.length:Int)≤((i+1:Nat):Int) by exact Om.o71,show ((i+1:Nat):Int)<x.length by exact Om.o70 hlt2,hxb,?_⟩
  conv=>whnf
  refine⟨fun h1=>?_,fun h1=>?_⟩
  ·have he3:=fK he2 h1
   rw[if_pos he3] at hsc
   conv=>whnf
   refine⟨fun h2=>?_,fun h2=>?_⟩
   ·have h2:i+2=(sg x).length:=by have:=beq_iff_eq.mp h2;exact Om.o69 this
    have hO:hV x (i+2) {s with md:=.Nb,ln:=s.ln+1} 1:=.inl ⟨⟨hsc.symm,by exact Om.o68 h2,fun c _=>rfl,fun _=>.inr rfl⟩,by rw[if_pos ⟨rfl,h2⟩]⟩
    exact again (i+2) _ 1 _ _ _ _ s.lv (s.ln+1) s.gd (by exact Om.o44) hO (by exact Om.o68 h2) rfl rfl rfl
   ·have h2:i+2≠(sg x).length:=by have:=beq_eq_false_iff_ne.mp h2;exact Om.o67 this
    have hO:hV x (i+2) {s with md:=.Nb,ln:=s.ln+1} 0:=.inl ⟨⟨hsc.symm,by exact Om.o66 hlt2,fun c _=>rfl,fun _=>.inr rfl⟩,by rw[if_neg (fun q=>h2 q.2)]⟩
    exact again (i+2) _ 0 _ _ _ _ s.lv (s.ln+1) s.gd (by exact Om.o44) hO (by exact Om.o66 hlt2) rfl rfl rfl
  ·have he3:=fD he2 h1
   rw[if_neg he3] at hsc
   have hO:hV x (i+2) {s with md:=.N} 0:=.inl ⟨⟨hsc.symm,by exact Om.o66 hlt2,fun c _=>rfl,fun _=>.inl rfl⟩,by rw[if_neg (fun q=>by cases q.1)]⟩
   exact again (i+2) _ 0 _ _ _ _ s.lv s.ln s.gd (by exact Om.o44) hO (by exact Om.o66 hlt2) rfl rfl rfl
 ·have hge:i=(sg x).length:=by
   have h1:=of_decide_eq_false hge
   rcases h0 with ⟨h,_⟩|⟨h,_⟩
   ·have:=h.2.1;exact Om.o42 h1 this
   ·exact h
  subst hge
  have hs:s=scan st0 (sg x):=by
   rcases h0 with ⟨h,_⟩|⟨_,h,_⟩
   ·simp only[h.1,List.take_length]
   ·exact h
  exact hK s ct _ h0 hs
end
theorem celW_iff {c c':aa}:∀{r:aa},b6 c c' r↔∀p∈r,∃o,ae c p.1=some o∧oW c c' o p.2
 | []=>by simp[b6]
 | (k,o)::r=>by
  show (_∧b6 c c' r)↔_
  rw[celW_iff]
  simp
theorem wV {c U U':aa}(h:∀k∈dom c,k∈dom U'){v v':V}(w:vW c c v v'):vW U U' v v':=by
 rcases w with ⟨e,o⟩|⟨k,xs,rfl,h1,_,h3⟩
 ·refine .inl ⟨e,?_⟩
  cases v<;>first|exact h _ o|trivial
 ·exact absurd (ai h1) h3
theorem bD {c U U':aa}(h:∀k∈dom c,k∈dom U'):∀{a a':List (Str×V)},fsW c c a a'→fsW U U' a a'
 | [],[],_=>trivial
 | (_,_)::_,(_,_)::_,⟨h1,h2,h3⟩=>⟨h1,wV h h2,bD h h3⟩
 | [],_::_,q=>q.elim
 |_::_,[],q=>q.elim
theorem eC {c U U':aa}(h:∀k∈dom c,k∈dom U'){o o':O}(w:oW c c o o'):oW U U' o o':=by
 cases o<;>cases o'<;>first|exact w|exact bD h w|exact⟨w.1,w.2.1,h _ w.2.2⟩
theorem aE {c c':aa}{x:Str}{v v':V}(hv:vW c c' v v'):∀{a a':List (Str×V)},fsW c c' a a'→fsW c c' (put a x v) (put a' x v')
 | [],[],_=>⟨rfl,hv,trivial⟩
 | (y,u)::r,(y',u')::r',⟨h1,h2,h3⟩=>by
  subst h1
  dsimp only[put]
  by_cases e:y'=x
  ·rw[if_pos e,if_pos e];exact⟨rfl,hv,h3⟩
  ·rw[if_neg e,if_neg e];exact⟨rfl,h2,aE hv h3⟩
 | [],_::_,q=>q.elim
 |_::_,[],q=>q.elim
theorem kE {c:aa}{k:Nat}{o:O}(h:ae c k=some o):(k,o)∈c:=by
 induction c with
 |nil=>contradiction
 |cons p r ih=>
  obtain⟨j,u⟩:=p
  dsimp only[ae] at h
  by_cases e:j=k
  ·rw[if_pos e] at h;(injection h with h;subst h);rw[e];exact .head _
  ·rw[if_neg e] at h;exact .tail _ (ih h)
theorem gK {c:aa}(nd:(dom c).Nodup){k:Nat}{o:O}{p:Nat×O}(h:p∈cset c k o):p=(k,o)∨(p∈c∧p.1≠k):=by
 induction c with
 |nil=>contradiction
 |cons q r ih=>
  obtain⟨j,u⟩:=q
  obtain⟨n1,n2⟩:=List.nodup_cons.mp (show (j::dom r).Nodup from nd)
  dsimp only[cset] at h
  by_cases e:j=k
  ·rw[if_pos e] at h
   rcases List.mem_cons.mp h with h|h
   ·exact .inl (by rw[h,e])
   ·refine .inr ⟨.tail _ h,fun q=>n1 ?_⟩
    rw[e,←q];exact List.mem_map.mpr ⟨p,h,rfl⟩
  ·rw[if_neg e] at h
   rcases List.mem_cons.mp h with h|h
   ·exact .inr ⟨by rw[h];exact .head _,by rw[h];exact e⟩
   ·rcases ih n2 h with h|h
    ·exact .inl h
    ·exact .inr ⟨.tail _ h.1,h.2⟩
theorem aT {c r:aa}{k:Nat}(h:k∈dom c)(o:O):cset (c++r) k o=cset c k o++r:=by
 induction c with
 |nil=>contradiction
 |cons p c ih=>
  obtain⟨j,u⟩:=p
  show (if j=k then _ else _)=(if j=k then _ else _)++r
  by_cases e:j=k
  ·rw[if_pos e,if_pos e];rfl
  ·rw[if_neg e,if_neg e]
   have:k∈dom c:=by
    rcases List.mem_cons.mp (show k∈j::dom c from h) with q|q
    ·exact absurd q.symm e
    ·exact q
   show (j,u)::cset (c++r) k o=_
   rw[ih this];rfl
theorem aU (c:aa)(k:Nat)(o o':O):cset (cset c k o) k o'=cset c k o':=by
 induction c with
 |nil=>rfl
 |cons p c ih=>
  obtain⟨j,u⟩:=p
  dsimp only[cset]
  by_cases e:j=k
  ·rw[if_pos e];dsimp only[cset];rw[if_pos e,if_pos e]
  ·rw[if_neg e];dsimp only[cset];rw[if_neg e,if_neg e,ih]
structure Wf (c:aa):Prop where
 w:b6 c c c
 nd:(dom c).Nodup
theorem Wf.fs {c:aa}(W:Wf c){k:Nat}{fs:List (Str×V)}(h:ae c k=some (.ns fs)):fsW c c fs fs:=by
 obtain⟨o,h1,h2⟩:=celW_iff.mp W.w _ (kE h)
 rw[h] at h1;(injection h1 with h1;subst h1)
 exact h2
theorem Wf.out {c U:aa}(W:Wf c){dk:Nat}{fs fs':List (Str×V)}(hdk:ae c dk=some (.ns fs)){f:List (Str×V)}(hU:∀j,j≠dk→j∈dom c→ae U j=ae c j)(hU2:ae U dk=some (.ns f))(hf:fsW U (cset c dk (.ns fs')) f fs') :
  b6 U (cset c dk (.ns fs')) (cset c dk (.ns fs')):=by
 rw[celW_iff]
 intro p hp
 rcases gK W.nd hp with rfl|⟨h1,h2⟩
 ·exact⟨_,hU2,hf⟩
 ·obtain⟨o,h3,h4⟩:=celW_iff.mp W.w p h1
  refine⟨o,by rw[hU p.1 h2 (ai h3)];exact h3,eC (fun k hk=>by rw[ah];exact hk) h4⟩
section
variable {c:aa}{k dk g b:Nat}{C:Addr}{fs f:List (Str×V)}
noncomputable def Wcs (c:aa)(dk g b:Nat)(f:List (Str×V))(gd:List Nat):aa:=cset c dk (.ns f)++[(g,.list (gd.map fun m:Nat=>D.int m))]++[(b,.bound "list.append" g)]
theorem cn (gd:List Nat):dom (Wcs c dk g b f gd)=dom c++[g]++[b]:=by unfold Wcs;rw[af,af,ah]
theorem nB (hg:g∉dom c)(hb:b∉dom c)(hgb:g≠b)(hdk:dk∈dom c)(gd:List Nat)(j:Nat) :
  ae (Wcs c dk g b f gd) j=if j=b then some (.bound "list.append" g) else if j=g then some (.list (gd.map fun m:Nat=>D.int m)) else if j=dk then some (.ns f) else ae c j:=by
 unfold Wcs
 rw[aF (by rw[af,ah];simp[hb,Ne.symm hgb]),aF (by rw[ah];exact hg),au hdk]
theorem ni (W:Wf c)(hk:k∈dom c)(hg:g∉dom c)(hb:b∉dom c)(hgb:g≠b)(hdk:ae c dk=some (.ns fs))(hf:fsW (Wcs c dk g b f []) (Wcs c dk g b f []) f f):Cel (Wcs c dk g b f) k g b (dom c):=by
 have hdm:=ai hdk
 have ngd:g≠dk:=fun e=>hg (e▸hdm)
 have nbd:b≠dk:=fun e=>hb (e▸hdm)
 have get:=fun gd j=>nB (c:=c) (f:=f) hg hb hgb hdm gd j
 refine⟨fun gd=>by rw[get,if_pos rfl],fun gd=>by rw[get,if_neg hgb,if_pos rfl],fun gd m=>?_,fun gd=>?_,fun gd j hj=>by rw[cn];simp[hj],fun gd=>by rw[cn];simp[hk]⟩
 ·unfold Wcs
  rw[aT (by rw[af];simp),dU (by rw[ah];exact hg)]
  simp
 ·rw[celW_iff]
  have sub:∀j∈dom c,j∈dom (Wcs c dk g b f gd):=fun j hj=>by rw[cn];simp[hj]
  intro p hp
  unfold Wcs at hp
  rcases List.mem_append.mp hp with hp|hp
  ·rcases List.mem_append.mp hp with hp|hp
   ·rcases gK W.nd hp with rfl|⟨h1,h2⟩
    ·refine⟨.ns f,by rw[get,if_neg (Ne.symm nbd),if_neg (Ne.symm ngd),if_pos rfl],?_⟩
     have dd:∀a a',fsW (Wcs c dk g b f []) (Wcs c dk g b f []) a a'→fsW (Wcs c dk g b f gd) (Wcs c dk g b f gd) a a':=fun a a' q=>bD (fun j hj=>by rw[cn] at hj ⊢;exact hj) q
     exact dd f f hf
    ·obtain⟨o,h3,h4⟩:=celW_iff.mp W.w p h1
     have hm:=ai h3
     refine⟨o,by rw[get,if_neg (fun e:p.1=b=>hb (by rw[←e];exact hm)),if_neg (fun e:p.1=g=>hg (by rw[←e];exact hm)),if_neg h2];exact h3,eC sub h4⟩
   ·have:p=(g,.list (gd.map fun m:Nat=>D.int m)):=by simpa using hp
    subst this
    exact⟨.list (gd.map fun m:Nat=>D.int m),by rw[get,if_neg hgb,if_pos rfl],rfl⟩
  ·have:p=(b,.bound "list.append" g):=by simpa using hp
   subst this
   exact⟨.bound "list.append" g,by rw[get,if_pos rfl],rfl,rfl,by rw[cn];simp⟩
end
noncomputable def aQ (s:St):Int:=match ca s.md with
 |some f=>if s.ln=f+1 then 2 else 3
 |none=>if 0<s.lv then 4 else if s.md=.Nb then 1 else 0
noncomputable def aR (s:St):List Nat:=if s.gd.getLast?=some s.ln then s.gd else s.gd++[s.ln]
theorem wv (s:St)(c:Nat)(h:∃m,s.gd.getLast?=some m∧m≤s.ln):∃m,(step s c).gd.getLast?=some m∧m≤(step s c).ln:=by
 obtain⟨m,h1,h2⟩:=h
 have hn:∃m,(nl s).gd.getLast?=some m∧m≤(nl s).ln:=by
  unfold nl;dsimp only
  split
  ·exact⟨s.ln+1,by simp,Nat.le_refl _⟩
  ·exact⟨m,h1,Nat.le_succ_of_le h2⟩
 have hN:∃m,(aX s c).gd.getLast?=some m∧m≤(aX s c).ln:=by
  unfold aX
  repeat' split
  all_goals first|exact hn|exact⟨m,h1,h2⟩
 have hS:∀d f,∃m,(bc s d f c).gd.getLast?=some m∧m≤(bc s d f c).ln:=fun d f=>by
  unfold bc
  repeat' split
  all_goals first|exact hn|exact⟨m,h1,h2⟩
 unfold step
 split<;>first|exact hN|exact hS _ _|skip
 all_goals repeat' split
 all_goals first|exact hN|exact hS _ _|exact hn|exact⟨m,h1,h2⟩|exact⟨m,h1,Nat.le_succ_of_le h2⟩
theorem mW (l:List Nat):∀s:St,(∃m,s.gd.getLast?=some m∧m≤s.ln)→∃m,(scan s l).gd.getLast?=some m∧m≤(scan s l).ln:=by
 induction l with
 |nil=>exact fun s h=>h
 |cons c l ih=>exact fun s h=>ih (step s c) (wv s c h)
theorem sY (s:St)(h:∃m,s.gd.getLast?=some m∧m≤s.ln):(aQ (step s 10)=0)↔(step s 10).gd.getLast?=some (step s 10).ln:=by
 obtain⟨m,h1,h2⟩:=h
 have hn:(aQ (nl s)=0)↔(nl s).gd.getLast?=some (nl s).ln:=by
  unfold nl aQ ca;dsimp only
  by_cases hz:s.lv=0
  ·simp[hz]
  ·have:0<s.lv:=Nat.pos_of_ne_zero hz
   simp only[hz,this,if_true,if_false,h1]
   constructor
   ·intro q;exact absurd q (by decide)
   ·intro q;have:m=s.ln+1:=by injection q
    exact (Om.o89 h2 this).elim
 have ne:s.gd.getLast?≠some (s.ln+1):=fun q=>by simp only[h1] at q;injection q with q;exact Om.o89 h2 q
 have hq:∀d,¬10=qc d:=fun d=>by rcases cU d with q|q<;>rw[q]<;>decide
 obtain⟨md,lv,ln,gd⟩:=s
 cases md with
 |N=>exact hn
 |Nb=>exact hn
 |C=>exact hn
 |E=>
  have e:step ⟨.E,lv,ln,gd⟩ 10=⟨.Nb,lv,ln+1,gd⟩:=rfl
  rw[e]
  unfold aQ ca;dsimp only
  refine⟨fun q=>?_,fun q=>absurd q ne⟩
  split at q<;>simp at q
 |Q1 d f=>
       have e:step ⟨.Q1 d f,lv,ln,gd⟩ 10=nl ⟨.Q1 d f,lv,ln,gd⟩:=by simp[step,bc,hq d]
       rw[e];exact hn
 |Q2 d f=>
       have e:step ⟨.Q2 d f,lv,ln,gd⟩ 10=nl ⟨.Q2 d f,lv,ln,gd⟩:=by simp[step,aX,hq d]
       rw[e];exact hn
 |S1 d f=>
       have e:step ⟨.S1 d f,lv,ln,gd⟩ 10=nl ⟨.S1 d f,lv,ln,gd⟩:=by simp[step,bc,hq d]
       rw[e];exact hn
 |S1e d f=>
  have e:step ⟨.S1e d f,lv,ln,gd⟩ 10=⟨.S1 d f,lv,ln+1,gd⟩:=rfl
  rw[e]
  unfold aQ ca;dsimp only
  refine⟨fun q=>?_,fun q=>absurd q ne⟩
  split at q<;>contradiction
 |S3 d k f=>
  have e:step ⟨.S3 d k f,lv,ln,gd⟩ 10=⟨.S3 d 0 f,lv,ln+1,gd⟩:=by simp[step,hq d]
  rw[e]
  unfold aQ ca;dsimp only
  refine⟨fun q=>?_,fun q=>absurd q ne⟩
  split at q<;>contradiction
 |S3e d f=>
  have e:step ⟨.S3e d f,lv,ln,gd⟩ 10=⟨.S3 d 0 f,lv,ln+1,gd⟩:=rfl
  rw[e]
  unfold aQ ca;dsimp only
  refine⟨fun q=>?_,fun q=>absurd q ne⟩
  split at q<;>contradiction
theorem pW {l:List Nat}(h:l=[]∨l.getLast?=some 10):(aQ (scan st0 l)=0)↔(scan st0 l).gd.getLast?=some (scan st0 l).ln:=by
 rcases h with rfl|h
 ·exact⟨fun _=>rfl,fun _=>rfl⟩
 ·obtain⟨a,rfl⟩:∃a,l=a++[10]:=by
   refine⟨l.dropLast,?_⟩
   have hne:l≠[]:=fun e=>by rw[e] at h;contradiction
   have:=List.dropLast_concat_getLast hne
   rw[List.getLast?_eq_some_getLast hne] at h
   injection h with h
   rw[h] at this;exact this.symm
  rw[aM]
  exact sY _ (mW a st0 ⟨0,rfl,Nat.le_refl _⟩)
section
variable {P:Pm}{pr:List Nat}
theorem cb {n i:Nat}{e:IE}{r:List IS}{l:Sl}{c c':aa}{K:F→Sg'→Prop}(v:V)(he:∀K':V→aa→Prop,K' v c'→wpE P n e l c K')(h:wpB P pr (n+1) r ⟨l.set i (some v),c'⟩ K):wpB P pr (n+2) (.asg i e::r) ⟨l,c⟩ K:=by
 exact he _ h
theorem bb {n:Nat}{t:IE}{a b r:List IS}{l:Sl}{c c':aa}{K:F→Sg'→Prop}(q:Bool)(ht:∀K':Bool→aa→Prop,K' q c'→wpT P n t l c K')
  (h:wpB P pr n (if q then a else b) ⟨l,c'⟩ (fun f τ=>match f with | .next=>wpB P pr (n+1) r τ K|f=>K f τ)):wpB P pr (n+2) (.if_ t a b::r) ⟨l,c⟩ K:=by
 refine ht _ ⟨fun e=>?_,fun e=>?_⟩
 ·subst e;exact h
 ·subst e;exact h
theorem al {n:Nat}{σ:Sg'}{K:F→Sg'→Prop}(h:K .next σ):wpB P pr (n+1) [] σ K:=by
 exact h
theorem b9 {n:Nat}{t:IE}{r:List IS}{l:Sl}{c c':aa}{K:F→Sg'→Prop}(ht:∀K':Bool→aa→Prop,K' true c'→wpT P n t l c K')
  (h:wpB P pr (n+1) r ⟨l,c'⟩ K):wpB P pr (n+2) (.assert t::r) ⟨l,c⟩ K:=by
 exact ht _ ⟨rfl,h⟩
theorem cQ {c:aa}{k dk:Nat}{fs:List (Str×V)}{nm:Str}{v:V}{K:aa→Prop}(hk:ae c k=some (.inst P.C dk))(hdk:ae c dk=some (.ns fs))(hat:P.attr nm=true)(hsz:fs.length≤1000)(h:K (cset c dk (.ns (put fs nm v)))):a8 P c (.obj k) nm v K:=by
 show ey (ae c k) _
 rw[hk]
 refine⟨rfl,hat,?_⟩
 rw[hdk]
 exact⟨hsz,h⟩
theorem cJ {n:Nat}{o e:IE}{nm:Str}{r:List IS}{l:Sl}{c c':aa}{K:F→Sg'→Prop}(v:V){k dk:Nat}{fs:List (Str×V)}(he:∀K':V→aa→Prop,K' v c'→wpE P n e l c K')(ho:∀K':V→aa→Prop,K' (.obj k) c'→wpE P n o l c' K')
  (hk:ae c' k=some (.inst P.C dk)) (hdk:ae c' dk=some (.ns fs)) (hat:P.attr nm=true) (hsz:fs.length≤1000)
  (h:wpB P pr (n+1) r ⟨l,cset c' dk (.ns (put fs nm v))⟩ K):wpB P pr (n+2) (.asgA o nm e::r) ⟨l,c⟩ K:=by
 exact he _ (ho _ (cQ hk hdk hat hsz h))
theorem sf {n j:Nat}{o e:IE}{nm:Str}{r:List IS}{l:Sl}{c c':aa}{K:F→Sg'→Prop}(v:V){k dk:Nat}{fs:List (Str×V)}(he:∀K':V→aa→Prop,K' v c'→wpE P n e l c K')(ho:∀K':V→aa→Prop,K' (.obj k) c'→wpE P n o l c' K')
  (hk:ae c' k=some (.inst P.C dk)) (hdk:ae c' dk=some (.ns fs)) (hat:P.attr nm=true) (hsz:fs.length≤1000)
  (h:wpB P pr (n+1) r ⟨l.set j (some v),cset c' dk (.ns (put fs nm v))⟩ K):wpB P pr (n+2) (.asgA2 o nm j e::r) ⟨l,c⟩ K:=by
 exact he _ (ho _ (cQ hk hdk hat hsz h))
theorem sQ {n:Nat}{o:IE}{nm:Str}{l:Sl}{c:aa}{k dk:Nat}{fs:List (Str×V)}{v:V}(ho:∀K':V→aa→Prop,K' (.obj k) c→wpE P n o l c K')
  (hk:ae c k=some (.inst P.C dk)) (hdk:ae c dk=some (.ns fs)) (hat:P.attr nm=true) (hl:look fs nm=some v) (hv:iI v=true) (K':V→aa→Prop) (h:K' v c):wpE P (n+1) (.attr o nm) l c K':=by
 refine ho _ ⟨hat,?_⟩
 show ey (ae c k) _
 rw[hk]
 refine⟨rfl,?_⟩
 rw[hdk]
 show aw (look fs nm) _
 rw[hl]
 exact⟨hv,h⟩
theorem dD {n i:Nat}{nm:Str}{l:Sl}{c:aa}{k dk:Nat}{fs:List (Str×V)}{v:V}(hi:aI l i=some (.obj k))
  (hk:ae c k=some (.inst P.C dk)) (hdk:ae c dk=some (.ns fs)) (hat:P.attr nm=true) (hl:look fs nm=some v) (hv:iI v=true) (K':V→aa→Prop) (h:K' v c):wpE P (n+2) (.attr (.v i) nm) l c K':=
 sQ (n:=n+1) (k:=k) (bv hi) hk hdk hat hl hv K' h
theorem tQ {n i j:Nat}{e:IE}{r:List IS}{l:Sl}{c c':aa}{K:F→Sg'→Prop}(v:V)(he:∀K':V→aa→Prop,K' v c'→wpE P n e l c K')(h:wpB P pr (n+1) r ⟨(l.set i (some v)).set j (some v),c'⟩ K):wpB P pr (n+2) (.asg2 i j e::r) ⟨l,c⟩ K:=by
 exact he _ h
theorem nS {n i j:Nat}{a b:IE}{r:List IS}{l:Sl}{c:aa}{K:F→Sg'→Prop}(u v:D)(ha:∀K':V→aa→Prop,K' (.d u) c→wpE P n a l c K')(hb:∀K':V→aa→Prop,K' (.d v) c→wpE P n b l c K')
  (h:wpB P pr (n+1) r ⟨(l.set j (some (.d v))).set i (some (.d u)),c⟩ K):wpB P pr (n+2) (.unp2 i j a b::r) ⟨l,c⟩ K:=by
 exact ha _ (hb _ ⟨⟨_,_,rfl,rfl⟩,h⟩)
theorem vc {n i b j:Nat}{l:Sl}{c:aa}{xs:List D}(hi:aI l i=some (.obj j))(hj:ae c j=some (.list xs))(hb:b∉dom c)(K':V→aa→Prop)(h:K' (.obj b) (c++[(b,.bound "list.append" j)])):wpE P (n+2) (.bnd (.v i) b) l c K':=by
 refine bv (P:=P) (n:=n) hi (fun u c1=>gT u fun j=>cy (ae c1 j) fun _=>b∉dom c1∧K' (.obj b) (c1++[(b,.bound "list.append" j)])) ?_
 show cy (ae c j) _
 rw[hj]
 exact⟨hb,h⟩
theorem oS {c:aa}{g:Nat}{gd:List Nat}{m:Nat}(hg:ae c g=some (.list (gd.map fun m:Nat=>D.int m)))(hm:gd.getLast?=some m)(hl:gd.length≤big){K:D→Prop}(h:K (.int m)):ee c (.obj g) (.d (.int (-1))) K:=by
 have hne:gd≠[]:=fun e=>by rw[e] at hm;contradiction
 have hpos:=List.length_pos_iff.mpr hne
 have hs:bX c (.obj g)=some (false,gd.map fun m:Nat=>D.int m):=by
  show (match ae c g with|some (.list xs)=>some (false,xs)|_=>none)=_
  rw[hg]
 show aw (bX c (.obj g)) _
 rw[hs]
 refine⟨by rw[List.length_map];exact hl,gd.length-1,.int m,?_,?_,h⟩
 ·rw[List.length_map]
  unfold seqIndex?
  dsimp only[show ((-1:Int)<0) from by decide,if_true]
  rw[if_pos (by simp only[Bool.and_eq_true,decide_eq_true_eq];exact Om.o38 hpos)]
  congr 1;exact Om.o26
 ·rw[List.getLast?_eq_getElem?] at hm
  rw[List.getElem?_map,hm];rfl
theorem vD (U U':aa)(d:D):vW U U' (.d d) (.d d):=.inl ⟨rfl,trivial⟩
theorem bF {n:Nat}{op:CmpOp}{a b:IE}{l:Sl}{c:aa}{K:Bool→aa→Prop}(u v:V)(ha:∀K':V→aa→Prop,K' u c→wpE P n a l c K')(hb:∀K':V→aa→Prop,K' v c→wpE P n b l c K')(h:eJ c op u v (fun r=>K r c)):wpT P (n+1) (.cmp op a b) l c K:=by
 exact ha _ (hb _ h)
theorem ji {n:Nat}{op:CmpOp}{a b:IE}{l:Sl}{c:aa}{K:V→aa→Prop}(u v:V)(ha:∀K':V→aa→Prop,K' u c→wpE P n a l c K')(hb:∀K':V→aa→Prop,K' v c→wpE P n b l c K')(h:eJ c op u v (fun r=>K (.d (.bool r)) c)):wpE P (n+1) (.cmp op a b) l c K:=by
 exact ha _ (hb _ h)
theorem bN {n:Nat}{a b:IE}{l:Sl}{c:aa}{K:V→aa→Prop}(u v:V)(ha:∀K':V→aa→Prop,K' u c→wpE P n a l c K')(hb:∀K':V→aa→Prop,K' v c→wpE P n b l c K')(h:ee c u v (fun d=>K (.d d) c)):wpE P (n+1) (.item a b) l c K:=by
 exact ha _ (hb _ h)
noncomputable abbrev nSl:Str:=Str.ofString "study_level"
noncomputable abbrev cR:Str:=Str.ofString "code"
noncomputable abbrev nGl:Str:=Str.ofString "goodlines"
noncomputable abbrev nCt:Str:=Str.ofString "continuation"
noncomputable def aP (l:List Nat):List D:=l.map fun m:Nat=>D.int m
noncomputable def trS (x:Str):Str:=⟨x.cps.map tr⟩
noncomputable def fin (x:Str):St:=scan st0 ((sg x).map tr)
noncomputable def studied (fs:List (Str×V))(x:Str):List (Str×V):=
 put (put (put fs nSl (.d (.int 1))) nGl (.d (.lst (aP (aR (fin x)))))) nCt (.d (.int (aQ (fin x))))
structure TextOk (x:Str):Prop where
 ascii:∀ch∈sg x,ch<128
 ends:sg x=[]∨(sg x).getLast?=some 10
 len:(sg x).length+5≤big
structure AttrOk (P:Pm):Prop where
 sl:P.attr nSl=true
 co:P.attr cR=true
 gl:P.attr nGl=true
 ct:P.attr nCt=true
theorem e8:cR≠nSl:=by decide +kernel
theorem dt (fs:List (Str×V))(x:Str)(v:V):(put fs x v).length≤fs.length+1:=by
 rw[gY];split<;>omega
theorem aB (x:Str):(sg x).length=x.length:=by simp[sg,Str.length]
theorem dh {x y z:Str}(hy:y.length≠0)(h:(sg z).length≤(sg y).length){m:Nat}(hx:x.length≤m):(Txt.replace x y z).length≤m:=by
 have:=bS (x:=x) hy h
 rw[aB,aB] at this;exact Om.o98 hx this
theorem jJ (x:Str):sg (trS x)=(sg x).map tr:=by simp[sg,trS]
theorem sV (c:Nat):tr c=10∨tr c=34∨tr c=35∨tr c=39∨tr c=40∨tr c=41∨tr c=92∨tr c=120:=by
 unfold tr
 split
 ·simp
 split
 ·simp
 split
 ·rename_i h;rcases h with rfl|rfl|rfl|rfl|rfl<;>simp
 ·simp
structure SqOk (y:Str)(s:St):Prop where
 last:sg y=[]∨(sg y).getLast?=some 10
 signs:u9 y
 len:(sg y).length+5≤big
 scan:scan st0 (sg y)=s
theorem xz {x:Str}(T:TextOk x):SqOk (cD (trS x)) (fin x):=by
 have hl:sg (trS x)=[]∨(sg (trS x)).getLast?=some 10:=by
  rw[jJ]
  rcases T.ends with h|h
  ·exact .inl (by rw[h];rfl)
  ·exact .inr (by rw[List.getLast?_map,h];rfl)
 have hn:(sg (trS x)).getLast?≠some 120:=by
  rcases hl with h|h<;>rw[h]<;>simp
 have hlen:(sg (cD (trS x))).length≤(sg (trS x)).length:=by
  unfold cD
  refine Nat.le_trans (bS (by decide) (by decide)) (Nat.le_trans (bS (by decide) (by decide)) (Nat.le_trans (bS (by decide) (by decide)) (Nat.le_trans (bS (by decide) (by decide)) (bS (by decide) (by decide)))))
 have hlen2:(sg (trS x)).length=(sg x).length:=by rw[jJ,List.length_map]
 refine⟨?_,fun c hc=>?_,by have:=T.len;exact Om.o97 hlen hlen2 this,by rw[j0 _ hn,jJ];rfl⟩
 ·rcases hl with h|h
  ·refine .inl (List.length_eq_zero_iff.mp ?_)
   rw[h] at hlen;exact Nat.le_zero.mp hlen
  ·exact .inr (by rw[kZ _ hn,h])
 ·rcases mo hc with h|h|h
  ·simp[h]
  ·simp[h]
  ·rw[jJ] at h
   obtain⟨a,_,rfl⟩:=List.mem_map.mp h
   exact sV a
theorem vS {y:Str}{s:St}{ct:Int}(hO:hV y (sg y).length s ct):aQ s=if (ct≠2∧ct≠3∧0<s.lv) then 4 else ct:=by
 rcases hO with ⟨h,e⟩|⟨_,_,f,h,e⟩
 ·have hm:=h.2.2.2 rfl
  have ho:ca s.md=none:=by rcases hm with q|q<;>rw[q]<;>rfl
  unfold aQ
  rw[ho]
  dsimp only
  rcases hm with q|q
  ·rw[q,if_neg (fun q=>by cases q.1)] at e
   subst e
   rw[q]
   by_cases hz:0<s.lv
   ·rw[if_pos hz,if_pos ⟨by decide,by decide,hz⟩]
   ·rw[if_neg hz,if_neg (show ¬Md.N=Md.Nb by simp),if_neg (fun q=>hz q.2.2)]
  ·rw[q,if_pos ⟨rfl,rfl⟩] at e
   subst e
   rw[q]
   by_cases hz:0<s.lv
   ·rw[if_pos hz,if_pos ⟨by decide,by decide,hz⟩]
   ·rw[if_neg hz,if_pos (show Md.Nb=Md.Nb from rfl),if_neg (fun q=>hz q.2.2)]
 ·unfold aQ
  rw[h]
  dsimp only
  rw[←e,if_neg]
  intro q
  rw[e] at q
  split at q
  ·exact q.1 rfl
  ·exact q.2.1 rfl
noncomputable def uZ:List IS:=[
 .if_ (.and (.cmp .NotEq (.v 2) (.g (.d (.int 2)))) (.and (.cmp .NotEq (.v 2) (.g (.d (.int 3)))) (.cmp .Gt (.v 3) (.c (.int 0))))) [
  .asg 2 (.g (.d (.int 4)))] [],
 .asgA (.v 0) (Str.ofString "continuation") (.v 2),
 .assert (.cmp .Eq (.cmp .Eq (.v 2) (.g (.d (.int 0)))) (.cmp .Eq (.item (.v 5) (.c (.int (-1)))) (.v 4))),
 .if_ (.cmp .NotEq (.item (.v 5) (.c (.int (-1)))) (.v 4)) [
  .expr (.call (.v 6) [(.v 4)] none)] []]
theorem oi {k dk g b n:Nat}{c:aa}{fs f2:List (Str×V)}{x y:Str}(A:AttrOk P)(W:Wf c)(hk:ae c k=some (.inst P.C dk))(hdk:ae c dk=some (.ns fs))(hsz:fs.length≤900)
  (hg:g∉dom c) (hb:b∉dom c) (hgb:g≠b) (hf2:put (put fs nSl (.d (.int 1))) nGl (.obj g)=f2) (T:TextOk x) (hsc:scan st0 (sg y)=fin x) (hlast:sg y=[]∨(sg y).getLast?=some 10) (hlen:(sg y).length+5≤big)
  {s:St} {ct:Int} {r:List (Option V)} (hO:hV y (sg y).length s ct) (hs:s=scan st0 (sg y)) {K:V→aa→Prop} (hK:K (.d .none) (cset c dk (.ns (studied fs x)))) :
  wpB P (dom c) (n+100) uZ ⟨slots k g b y ct s.lv s.ln (sg y).length (sg y).length r,Wcs c dk g b f2 s.gd⟩ (fun f τ=>∃v' c',vW τ.c c' (ed f) v'∧b6 τ.c c' c'∧(∀j∈dom c,j∈dom c')∧K v' c'):=by
 have kne:k≠dk:=fun e=>by rw[e,hdk] at hk;simp at hk
 have kd:=ai hk
 have dkd:=ai hdk
 have ngk:k≠g:=fun e=>hg (e▸kd)
 have ngd:dk≠g:=fun e=>hg (e▸dkd)
 have nbk:k≠b:=fun e=>hb (e▸kd)
 have nbd:dk≠b:=fun e=>hb (e▸dkd)
 have hce:=vS hO
 have get:=fun (f:List (Str×V)) gd j=>nB (c:=c) (f:=f) hg hb hgb dkd gd j
 have hgd:s.gd.length≤big:=by
  rw[hs];have:=q0 st0 (sg y);have h3:st0.gd.length=1:=rfl;exact Om.o96 hlen this h3
 obtain⟨m,hm1,hm2⟩:=mW (sg y) st0 ⟨0,rfl,Nat.le_refl _⟩
 rw[←hs] at hm1 hm2
 have hel:=pW hlast
 rw[←hs] at hel
 unfold uZ
 have tail:∀n',wpB P (dom c) (n'+90) [
   .asgA (.v 0) (Str.ofString "continuation") (.v 2),
   .assert (.cmp .Eq (.cmp .Eq (.v 2) (.g (.d (.int 0)))) (.cmp .Eq (.item (.v 5) (.c (.int (-1)))) (.v 4))),
   .if_ (.cmp .NotEq (.item (.v 5) (.c (.int (-1)))) (.v 4)) [
    .expr (.call (.v 6) [(.v 4)] none)] []] ⟨slots k g b y (aQ s) s.lv s.ln (sg y).length (sg y).length r,Wcs c dk g b f2 s.gd⟩ (fun f τ=>∃v' c',vW τ.c c' (ed f) v'∧b6 τ.c c' c'∧(∀j∈dom c,j∈dom c')∧K v' c'):=by
  intro n'
  have hf2l:f2.length≤1000:=by
   rw[←hf2]
   have h1:=dt (put fs nSl (.d (.int 1))) nGl (.obj g)
   have h2:=dt fs nSl (.d (.int 1))
   exact Om.o95 hsz h1 h2
  refine cJ (n:=n'+88) (.d (.int (aQ s))) (k:=k) (dk:=dk) (fs:=f2) (c':=Wcs c dk g b f2 s.gd) (fun K' h=>h) (fun K' h=>h)
   (by rw[get,if_neg nbk,if_neg ngk,if_neg kne];exact hk) (by rw[get,if_neg nbd,if_neg ngd,if_pos rfl]) A.ct hf2l ?_
  have e3:cset (Wcs c dk g b f2 s.gd) dk (.ns (put f2 nCt (.d (.int (aQ s)))))=Wcs c dk g b (put f2 nCt (.d (.int (aQ s)))) s.gd:=by
   unfold Wcs
   rw[aT (by rw[af,ah];simp[dkd]),aT (by rw[ah];exact dkd),aU]
  rw[e3]
  generalize hf3:put f2 nCt (.d (.int (aQ s)))=f3
  have f3w:∀U U',(∀j∈dom c,j∈dom U')→g∈dom U'→fsW U U' f3 f3:=fun U U' h1 h2=>by
   rw[←hf3,←hf2]
   have v1:vW U U' (.obj g) (.obj g):=.inl ⟨rfl,h2⟩
   have v2:vW U U' (.d (.int 1)) (.d (.int 1)):=.inl ⟨rfl,trivial⟩
   have v3:vW U U' (.d (.int (aQ s))) (.d (.int (aQ s))):=.inl ⟨rfl,trivial⟩
   exact aE v3 (aE v1 (aE v2 (bD h1 (W.fs hdk))))
  have CE:Cel (Wcs c dk g b f3) k g b (dom c):=ni W kd hg hb hgb hdk (f3w _ _ (fun j hj=>by rw[cn];simp[hj]) (by rw[cn];simp))
  have fine:∀gd,gd=aR s→∃v' c',vW (Wcs c dk g b f3 gd) c' (.d .none) v'∧b6 (Wcs c dk g b f3 gd) c' c'∧(∀j∈dom c,j∈dom c')∧K v' c':=by
   intro gd hgd'
   refine⟨.d .none,cset c dk (.ns (studied fs x)),.inl ⟨rfl,trivial⟩,?_,fun j hj=>by rw[ah];exact hj,hK⟩
   refine W.out hdk (f:=f3) (fun j h1 h2=>?_) (by rw[get,if_neg nbd,if_neg ngd,if_pos rfl]) ?_
   ·rw[get,if_neg (fun e:j=b=>hb (by rw[←e];exact h2)),if_neg (fun e:j=g=>hg (by rw[←e];exact h2)),if_neg h1]
   ·rw[←hf3,←hf2]
    unfold studied
    have hfin:fin x=s:=by rw[hs,hsc]
    rw[hfin]
    have v1:vW (Wcs c dk g b (put (put (put fs nSl (.d (.int 1))) nGl (.obj g)) nCt (.d (.int (aQ s)))) gd) (cset c dk (.ns (put (put (put fs nSl (.d (.int 1))) nGl (.d (.lst (aP (aR s))))) nCt (.d (.int (aQ s)))))) (.obj g) (.d (.lst (aP (aR s)))):=
     .inr ⟨g,aP (aR s),rfl,by rw[get,if_neg hgb,if_pos rfl,hgd'];rfl,rfl,by rw[ah];exact hg⟩
    refine aE (vD _ _ _) (aE v1 (aE (vD _ _ _) (bD (fun j hj=>by rw[ah];exact hj) (W.fs hdk))))
  have itl:∀n'' (K':V→aa→Prop),K' (.d (.int m)) (Wcs c dk g b f3 s.gd)→wpE P (n''+2) (.item (.v 5) (.c (.int (-1)))) (slots k g b y (aQ s) s.lv s.ln (sg y).length (sg y).length r) (Wcs c dk g b f3 s.gd) K':=fun n'' K' h=>
   bN (n:=n''+1) (.obj g) (.d (.int (-1))) (fun K' h=>h) (fun K' h=>h) (oS (CE.g_ s.gd) hm1 hgd h)
  refine b9 (n:=n'+87) (c':=Wcs c dk g b f3 s.gd) (fun K' h=>?_) ?_
  ·refine bF (n:=n'+86) (.d (.bool (aQ s==0))) (.d (.bool ((m:Int)==s.ln))) (fun K' h=>h) (fun K' h=>ji (n:=n'+85) (.d (.int m)) (.d (.int s.ln)) (itl (n'+83)) (fun K' h=>h) h) ?_
   have:((aQ s==0)==((m:Int)==s.ln))=true:=by
    rw[hm1] at hel
    by_cases hme:m=s.ln
    ·rw[hel.mpr (by rw[hme])]
     simp[hme]
    ·have h1:(aQ s==0)=false:=beq_eq_false_iff_ne.mpr fun e=>hme (by have:=hel.mp e;injection this)
     have h2:((m:Int)==s.ln)=false:=beq_eq_false_iff_ne.mpr fun e=>hme (by exact Om.o94 e)
     rw[h1,h2];rfl
   show K' ((aQ s==0)==((m:Int)==s.ln)) _
   rw[this];exact h
  refine bb (n:=n'+86) (c':=Wcs c dk g b f3 s.gd) (decide (m≠s.ln)) (fun K' h=>?_) ?_
  ·refine bF (n:=n'+85) (.d (.int m)) (.d (.int s.ln)) (itl (n'+83)) (fun K' h=>h) ?_
   show K' ((m:Int) != s.ln) _
   have:((m:Int) != s.ln)=decide (m≠s.ln):=by
    by_cases hme:m=s.ln
    ·simp[hme]
    ·have h2:((m:Int) != s.ln)=true:=bne_iff_ne.mpr fun e=>hme (by exact Om.o94 e)
     rw[h2];simp[hme]
   rw[this];exact h
  ·by_cases hme:m=s.ln
   ·rw[if_neg (by simp[hme])]
    refine al (al (fine _ ?_))
    unfold aR
    rw[hm1,hme,if_pos rfl]
   ·rw[if_pos (by simp[hme])]
    refine kP (n:=n'+81) CE (m:=s.ln) rfl rfl hgd (al (fine _ ?_))
    unfold aR
    rw[hm1,if_neg (fun q=>hme (by injection q))]
 have hq:∀n' (K':Bool→aa→Prop) cc,K' (decide (ct≠2∧ct≠3∧0<s.lv)) cc→wpT P (n'+20) (.and (.cmp .NotEq (.v 2) (.g (.d (.int 2)))) (.and (.cmp .NotEq (.v 2) (.g (.d (.int 3)))) (.cmp .Gt (.v 3) (.c (.int 0))))) (slots k g b y ct s.lv s.ln (sg y).length (sg y).length r) cc K':=by
  intro n' K' cc h
  conv=>whnf
  refine⟨fun h1=>?_,fun h1=>?_⟩
  ·have h1:ct=2:=bne_eq_false_iff_eq.mp h1
   rw[decide_eq_false (fun q=>q.1 h1)] at h;exact h
  have h1:ct≠2:=bne_iff_ne.mp h1
  conv=>whnf
  refine⟨fun h2=>?_,fun h2=>?_⟩
  ·have h2:ct=3:=bne_eq_false_iff_eq.mp h2
   rw[decide_eq_false (fun q=>q.2.1 h2)] at h;exact h
  have h2:ct≠3:=bne_iff_ne.mp h2
  show K' (decide ((0:Int)<s.lv)) cc
  have:decide ((0:Int)<s.lv)=decide (ct≠2∧ct≠3∧0<s.lv):=by
   by_cases hz:0<s.lv
   ·rw[decide_eq_true (by exact Om.o93 hz),decide_eq_true ⟨h1,h2,hz⟩]
   ·rw[decide_eq_false (by exact Om.o92 hz),decide_eq_false (fun q=>hz q.2.2)]
  rw[this];exact h
 refine bb (n:=n+98) (c':=Wcs c dk g b f2 s.gd) _ (fun K' h=>hq (n+78) K' _ h) ?_
 by_cases hz:ct≠2∧ct≠3∧0<s.lv
 ·rw[if_pos (by rw[decide_eq_true hz])]
  rw[if_pos hz] at hce
  refine aq (n:=n+96) (.d (.int 4)) (fun K' h=>h) (al ?_)
  have:=tail (n+9)
  rw[hce] at this
  exact this
 ·rw[if_neg (by rw[decide_eq_false hz];decide)]
  rw[if_neg hz] at hce
  refine al (n:=n+97) ?_
  have:=tail (n+9)
  rw[hce] at this
  exact this
theorem pU {k dk g b td n:Nat}{c:aa}{fs:List (Str×V)}{x:Str}(A:AttrOk P)(htd:td=P.td)(htr:P.tr=tr)(W:Wf c)(hk:ae c k=some (.inst P.C dk))(hdk:ae c dk=some (.ns fs))(hsz:fs.length≤900)
  (hlv:look fs nSl=some (.d (.int 0))) (hco:look fs cR=some (.d (.str x))) (T:TextOk x) (hg:g∉dom c) (hb:b∉dom c) (hgb:g≠b) {K:V→aa→Prop} (hK:K (.d .none) (cset c dk (.ns (studied fs x)))) :
  wpB P (dom c) (n+130) (dP td g b) ⟨start [.obj k] 12,c⟩ (fun f τ=>∃v' c',vW τ.c c' (ed f) v'∧b6 τ.c c' c'∧(∀j∈dom c,j∈dom c')∧K v' c'):=by
 have kne:k≠dk:=fun e=>by rw[e,hdk] at hk;simp at hk
 have kd:=ai hk
 have dkd:=ai hdk
 have hxb:x.length≤big:=by have:=T.len;rw[aB] at this;exact Om.o63 this
 unfold dP
 refine bb (n:=n+128) false (c':=c) (fun K' h=>?_) (al ?_)
 ·rw[eG];exact dD (n:=n+125) rfl hk hdk A.sl hlv rfl _ h
 refine cJ (n:=n+127) (.d (.int 1)) (c':=c) (k:=k) (fun K' h=>h) (fun K' h=>h) hk hdk A.sl (by exact Om.o91 hsz) ?_
 have hk1:ae (cset c dk (.ns (put fs nSl (.d (.int 1))))) k=some (.inst P.C dk):=by rw[au dkd,if_neg kne];exact hk
 have hdk1:ae (cset c dk (.ns (put fs nSl (.d (.int 1))))) dk=some (.ns (put fs nSl (.d (.int 1)))):=by rw[au dkd,if_pos rfl]
 refine aq (n:=n+126) (.d (.str x)) (fun K' h=>dD (n:=n+124) rfl hk1 hdk1 A.co (by rw[am,if_neg e8];exact hco) rfl _ h) ?_
 have htx:(⟨x.cps.map P.tr⟩:Str)=trS x:=by rw[htr];rfl
 refine aq (n:=n+125) (.d (.str (trS x))) (fun K' h=>⟨htd,T.ascii,hxb,by rw[htx];exact h⟩) ?_
 have l0:(trS x).length≤big:=by show (x.cps.map tr).size≤big;rw[Array.size_map];exact hxb
 have l1:=dh (y:=X 8) (z:=X 1) (by decide) (by decide) l0
 have l2:=dh (y:=X 4) (z:=X 1) (by decide) (by decide) l1
 have l3:=dh (y:=X 2) (z:=X 1) (by decide) (by decide) l2
 have l4:=dh (y:=X 2) (z:=X 1) (by decide) (by decide) l3
 refine aq (n:=n+124) (.d (.str _)) (fun K' h=>⟨l0,by decide,by decide,h⟩) ?_
 refine aq (n:=n+123) (.d (.str _)) (fun K' h=>⟨l1,by decide,by decide,h⟩) ?_
 refine aq (n:=n+122) (.d (.str _)) (fun K' h=>⟨l2,by decide,by decide,h⟩) ?_
 refine aq (n:=n+121) (.d (.str _)) (fun K' h=>⟨l3,by decide,by decide,h⟩) ?_
 refine aq (n:=n+120) (.d (.str (cD (trS x)))) (fun K' h=>⟨l4,by decide,by decide,h⟩) ?_
 have SQ:=xz T
 generalize cD (trS x)=y at SQ ⊢
 have hyb:y.length≤big:=by have:=SQ.len;rw[aB] at this;exact Om.o63 this
 refine aq (n:=n+119) (.d (.int 0)) (fun K' h=>h) ?_
 refine tQ (n:=n+118) (.d (.int 0)) (fun K' h=>h) ?_
 have d1:dom (cset c dk (.ns (put fs nSl (.d (.int 1)))))=dom c:=ah ..
 have hg1:g∉dom (cset c dk (.ns (put fs nSl (.d (.int 1))))):=by rw[d1];exact hg
 have ngk:k≠g:=fun e=>hg (e▸kd)
 have ngd:dk≠g:=fun e=>hg (e▸dkd)
 refine sf (n:=n+117) (.obj g) (k:=k) (dk:=dk) (fs:=put fs nSl (.d (.int 1))) (c':=cset c dk (.ns (put fs nSl (.d (.int 1))))++[(g,.list [.int 0])]) (fun K' h=>⟨by decide,hg1,h⟩) (fun K' h=>h)
  (by rw[aF hg1,if_neg ngk];exact hk1) (by rw[aF hg1,if_neg ngd];exact hdk1) A.gl (by have:=dt fs nSl (.d (.int 1));exact Om.o90 hsz this) ?_
 have e2:cset (cset c dk (.ns (put fs nSl (.d (.int 1))))++[(g,.list [.int 0])]) dk (.ns (put (put fs nSl (.d (.int 1))) nGl (.obj g)))=cset c dk (.ns (put (put fs nSl (.d (.int 1))) nGl (.obj g)))++[(g,.list [.int 0])]:=by
  rw[aT (by rw[d1];exact dkd),aU]
 rw[e2]
 generalize hf2:put (put fs nSl (.d (.int 1))) nGl (.obj g)=f2
 have d2:dom (cset c dk (.ns f2))=dom c:=ah ..
 refine cb (n:=n+116) (.obj b) (c':=Wcs c dk g b f2 [0]) (fun K' h=>vc (n:=n+114) (xs:=[.int 0]) rfl (by rw[aF (by rw[d2];exact hg),if_pos rfl]) (by rw[af,d2];simp[hb,Ne.symm hgb]) _ h) ?_
 refine nS (n:=n+115) (.int 0) (.int ((sg y).length:Nat)) (fun K' h=>h) (fun K' h=>⟨hyb,by rw[←aB];exact h⟩) ?_
 have vok:∀(U:aa) (v:D),vW U U (.d v) (.d v):=fun U v=>.inl ⟨rfl,trivial⟩
 have f2w:∀U U',(∀j∈dom c,j∈dom U')→g∈dom U'→fsW U U' f2 f2:=fun U U' h1 h2=>by
  rw[←hf2]
  have v1:vW U U' (.obj g) (.obj g):=.inl ⟨rfl,h2⟩
  have v2:vW U U' (.d (.int 1)) (.d (.int 1)):=.inl ⟨rfl,trivial⟩
  exact aE v1 (aE v2 (bD h1 (W.fs hdk)))
 have CE:Cel (Wcs c dk g b f2) k g b (dom c):=ni W kd hg hb hgb hdk (f2w _ _ (fun j hj=>by rw[cn];simp[hj]) (by rw[cn];simp))
 have hl:∀i c,(sg y)[i]?=some c→i+1=(sg y).length→c=10:=fun i c' h1 h2=>by
  rcases SQ.last with q|q
  ·rw[q] at h1;simp at h1
  ·rw[List.getLast?_eq_getElem?,←h2,Nat.add_sub_cancel,h1] at q
   injection q
 have hend:sg y≠[]→(sg y)[(sg y).length-1]?=some 10:=fun h1=>by
  rcases SQ.last with q|q
  ·exact absurd q h1
  ·rw[←List.getLast?_eq_getElem?];exact q
 refine cG (n:=n+115) (rR (n:=n+15) CE hl hend SQ.signs SQ.len (r:=[none,none,none,none]) rfl fun s ct r hO hs=>?_)
 exact oi A W hk hdk hsz hg hb hgb hf2 T (SQ.scan) SQ.last SQ.len hO hs hK
end
section
variable {P:Pm}{pr:List Nat}
theorem Wf.set {c:aa}(W:Wf c){dk:Nat}{fs fs':List (Str×V)}(hdk:ae c dk=some (.ns fs))(hf:fsW (cset c dk (.ns fs')) (cset c dk (.ns fs')) fs' fs'):Wf (cset c dk (.ns fs')):=
 ⟨W.out hdk (f:=fs') (fun j h1 h2=>by rw[au (ai hdk),if_neg h1]) (by rw[au (ai hdk),if_pos rfl]) hf,by rw[ah];exact W.nd⟩
noncomputable def jL:List IS:=[
 .asgA (.v 0) (Str.ofString "indentwidth") (.v 1),
 .asgA (.v 0) (Str.ofString "tabwidth") (.v 2)]
noncomputable def nc:List IS:=[
 .assert (.or (.cmp .Eq (.call (.g (.bi .len)) [(.v 1)] none) (.c (.int 0))) (.cmp .Eq (.item (.v 1) (.c (.int (-1)))) (.c (.str ⟨#[10]⟩)))),
 .asgA (.v 0) (Str.ofString "code") (.v 1),
 .asgA (.v 0) (Str.ofString "study_level") (.c (.int 0))]
noncomputable def fs0:List (Str×V):=[(Str.ofString "indentwidth",.d (.int 4)),(Str.ofString "tabwidth",.d (.int 8))]
def EndP (c:aa)(K:V→aa→Prop):F→Sg'→Prop:=fun f τ=>∃v' c',vW τ.c c' (ed f) v'∧b6 τ.c c' c'∧(∀j∈dom c,j∈dom c')∧K v' c'
theorem EndP.same {c c':aa}{K:V→aa→Prop}{f:F}{l:Sl}(W:Wf c')(hd:∀j∈dom c,j∈dom c'){d:D}(hr:ed f=.d d)(h:K (.d d) c'):EndP c K f ⟨l,c'⟩:=
 ⟨.d d,c',by rw[hr];exact vD _ _ _,W.w,hd,h⟩
theorem sS {k dk n:Nat}{c:aa}(h1:P.attr (Str.ofString "indentwidth")=true) (h2:P.attr (Str.ofString "tabwidth")=true) (W:Wf c) (hk:ae c k=some (.inst P.C dk)) (hdk:ae c dk=some (.ns []))
  {K:V→aa→Prop} (hK:K (.d .none) (cset c dk (.ns fs0))):wpB P (dom c) (n+10) jL ⟨start [.obj k,.d (.int 4),.d (.int 8)] 0,c⟩ (EndP c K):=by
 have kne:k≠dk:=fun e=>by rw[e,hdk] at hk;simp at hk
 have dkd:=ai hdk
 unfold jL
 refine cJ (n:=n+8) (.d (.int 4)) (c':=c) (k:=k) (fun K' h=>h) (fun K' h=>h) hk hdk h1 (by decide) ?_
 refine cJ (n:=n+7) (.d (.int 8)) (c':=cset c dk (.ns (put [] (Str.ofString "indentwidth") (.d (.int 4))))) (k:=k) (dk:=dk) (fs:=put [] (Str.ofString "indentwidth") (.d (.int 4))) (fun K' h=>h) (fun K' h=>h)
  (by rw[au dkd,if_neg kne];exact hk) (by rw[au dkd,if_pos rfl]) h2 (by decide) ?_
 rw[aU]
 have e:put (put [] (Str.ofString "indentwidth") (V.d (.int 4))) (Str.ofString "tabwidth") (V.d (.int 8))=fs0:=by
  unfold fs0
  dsimp only[put]
  rw[if_neg (by decide +kernel)]
 rw[e]
 exact al (EndP.same (W.set hdk ⟨rfl,vD _ _ _,rfl,vD _ _ _,trivial⟩) (fun j hj=>by rw[ah];exact hj) rfl hK)
noncomputable def setd (fs:List (Str×V))(x:Str):List (Str×V):=put (put fs cR (.d (.str x))) nSl (.d (.int 0))
theorem vu {k dk n:Nat}{c:aa}{fs:List (Str×V)}{x:Str}(A:AttrOk P)(W:Wf c)(hk:ae c k=some (.inst P.C dk))(hdk:ae c dk=some (.ns fs))(hsz:fs.length≤900)(T:TextOk x)
  {K:V→aa→Prop} (hK:K (.d .none) (cset c dk (.ns (setd fs x)))):wpB P (dom c) (n+20) nc ⟨start [.obj k,.d (.str x)] 0,c⟩ (EndP c K):=by
 have kne:k≠dk:=fun e=>by rw[e,hdk] at hk;simp at hk
 have dkd:=ai hdk
 have hxb:x.length≤big:=by have:=T.len;rw[aB] at this;exact Om.o63 this
 unfold nc
 refine b9 (n:=n+18) (c':=c) (fun K' h=>?_) ?_
 ·conv=>whnf
  refine⟨hxb,?_⟩
  conv=>whnf
  refine⟨fun q=>h,fun q=>?_⟩
  have hne:sg x≠[]:=fun e=>by
   have:x.length=0:=by rw[←aB,e];rfl
   have q':((x.length:Int)==0)=false:=q
   rw[this] at q';contradiction
  have hlast:(sg x).getLast?=some 10:=T.ends.resolve_left hne
  have hpos:0<x.length:=by rw[←aB];exact List.length_pos_iff.mpr hne
  conv=>whnf
  refine⟨show -(x.length:Int)≤-1 by exact Om.o100 hpos,show (-1:Int)<x.length by exact Om.o99,hxb,?_⟩
  show K' (Txt.item x (-1)==⟨#[10]⟩) c
  rw[oZ hlast]
  exact h
 refine cJ (n:=n+17) (.d (.str x)) (c':=c) (k:=k) (fun K' h=>h) (fun K' h=>h) hk hdk A.co (by exact Om.o91 hsz) ?_
 refine cJ (n:=n+16) (.d (.int 0)) (c':=cset c dk (.ns (put fs cR (.d (.str x))))) (k:=k) (dk:=dk) (fs:=put fs cR (.d (.str x))) (fun K' h=>h) (fun K' h=>h)
  (by rw[au dkd,if_neg kne];exact hk) (by rw[au dkd,if_pos rfl]) A.sl (by have:=dt fs cR (.d (.str x));exact Om.o90 hsz this) ?_
 rw[aU]
 refine al (EndP.same (W.set hdk ?_) (fun j hj=>by rw[ah];exact hj) rfl hK)
 exact aE (vD _ _ _) (aE (vD _ _ _) (bD (fun j hj=>by rw[ah];exact hj) (W.fs hdk)))
theorem j6 {k dk g b td n:Nat}{c:aa}{fs:List (Str×V)}(A:AttrOk P)(W:Wf c)(hk:ae c k=some (.inst P.C dk))(hdk:ae c dk=some (.ns fs))
  (hlv:look fs nSl=some (.d (.int 1))) {K:V→aa→Prop} (hK:K (.d .none) c):wpB P (dom c) (n+130) (dP td g b) ⟨start [.obj k] 12,c⟩ (EndP c K):=by
 unfold dP
 refine bb (n:=n+128) true (c':=c) (fun K' h=>?_) ?_
 ·rw[eG];exact dD (n:=n+125) rfl hk hdk A.sl hlv rfl _ h
 ·exact⟨.d .none,c,vD _ _ _,W.w,fun _ h=>h,hK⟩
end
noncomputable abbrev nS1:Str:=Str.ofString "_study1"
structure ParAt (C:Addr)(c:aa)(k dk:Nat)(fs:List (Str×V)):Prop where
 w:Wf c
 k_:ae c k=some (.inst C dk)
 d_:ae c dk=some (.ns fs)
 no:look fs nS1=none
structure Fresh (fs:List (Str×V))(x:Str):Prop where
 sl:look fs nSl=some (.d (.int 0))
 co:look fs cR=some (.d (.str x))
 t:TextOk x
 len:fs.length≤900
structure Read (fs:List (Str×V))(s:St):Prop where
 sl:look fs nSl=some (.d (.int 1))
 gl:look fs nGl=some (.d (.lst (aP (aR s))))
 ct:look fs nCt=some (.d (.int (aQ s)))
noncomputable def d6 (C:Addr)(g b:Nat):Spec:=fun vs c K=>∃k dk fs,vs=[.obj k]∧ParAt C c k dk fs∧
 ((look fs nSl=some (.d (.int 1))∧K (.d .none) c)∨∃x,Fresh fs x∧g∉dom c∧b∉dom c∧K (.d .none) (cset c dk (.ns (studied fs x))))
noncomputable def ge (C:Addr):Spec:=fun vs c K=>∃k dk,vs=[.obj k,.d (.int 4),.d (.int 8)]∧Wf c∧ae c k=some (.inst C dk)∧ae c dk=some (.ns [])∧K (.d .none) (cset c dk (.ns fs0))
noncomputable def jK (C:Addr):Spec:=fun vs c K=>∃k dk fs x,vs=[.obj k,.d (.str x)]∧ParAt C c k dk fs∧fs.length≤900∧TextOk x∧K (.d .none) (cset c dk (.ns (setd fs x)))
theorem ne1:nSl≠nGl:=by decide +kernel
theorem ne2:nSl≠nCt:=by decide +kernel
theorem ne3:nGl≠nCt:=by decide +kernel
theorem ne4:nS1≠nCt:=by decide +kernel
theorem ne5:nS1≠nGl:=by decide +kernel
theorem ne6:nS1≠nSl:=by decide +kernel
theorem ne7:nS1≠cR:=by decide +kernel
theorem i8 (fs:List (Str×V))(x:Str):Read (studied fs x) (fin x):=by
 unfold studied
 exact⟨by rw[am,if_neg ne2,am,if_neg ne1,am,if_pos rfl],by rw[am,if_neg ne3,am,if_pos rfl],by rw[am,if_pos rfl]⟩
theorem lW {fs:List (Str×V)}(x:Str)(h:look fs nS1=none):look (studied fs x) nS1=none:=by
 unfold studied
 rw[am,if_neg ne4,am,if_neg ne5,am,if_neg ne6];exact h
theorem s8 {fs:List (Str×V)}(x:Str)(h:look fs nS1=none):look (setd fs x) nS1=none:=by
 unfold setd
 rw[am,if_neg ne6,am,if_neg ne7];exact h
theorem lP {fs:List (Str×V)}{x:Str}(T:TextOk x)(h:fs.length≤890):Fresh (setd fs x) x:=by
 unfold setd
 refine⟨by rw[am,if_pos rfl],by rw[am,if_neg e8,am,if_pos rfl],T,?_⟩
 have h1:=dt (put fs cR (.d (.str x))) nSl (.d (.int 0))
 have h2:=dt fs cR (.d (.str x))
 exact Om.o101 h h1 h2
section
variable {C:Addr}{c:aa}{k dk:Nat}{fs:List (Str×V)}
theorem ParAt.set (p:ParAt C c k dk fs){fs':List (Str×V)}(hf:fsW (cset c dk (.ns fs')) (cset c dk (.ns fs')) fs' fs')(no:look fs' nS1=none):ParAt C (cset c dk (.ns fs')) k dk fs':=by
 have dkd:=ai p.d_
 have kne:k≠dk:=fun e=>by have:=p.k_;rw[e,p.d_] at this;simp at this
 exact⟨p.w.set p.d_ hf,by rw[au dkd,if_neg kne];exact p.k_,by rw[au dkd,if_pos rfl],no⟩
theorem ParAt.studied (p:ParAt C c k dk fs)(x:Str):ParAt C (cset c dk (.ns (studied fs x))) k dk (studied fs x):=by
 refine p.set ?_ (lW x p.no)
 unfold Mine.studied
 exact aE (vD _ _ _) (aE (vD _ _ _) (aE (vD _ _ _) (bD (fun j hj=>by rw[ah];exact hj) (p.w.fs p.d_))))
theorem ParAt.setd (p:ParAt C c k dk fs)(x:Str):ParAt C (cset c dk (.ns (setd fs x))) k dk (setd fs x):=by
 refine p.set ?_ (s8 x p.no)
 unfold Mine.setd
 exact aE (vD _ _ _) (aE (vD _ _ _) (bD (fun j hj=>by rw[ah];exact hj) (p.w.fs p.d_)))
end
section
variable {P:Pm}{pr:List Nat}
theorem eP {n:Nat}{e:IE}{r:List IS}{l:Sl}{c c':aa}{K:F→Sg'→Prop}(v:V)(he:∀K':V→aa→Prop,K' v c'→wpE P n e l c K')(h:wpB P pr (n+1) r ⟨l,c'⟩ K):wpB P pr (n+2) (.expr e::r) ⟨l,c⟩ K:=by
 exact he _ h
theorem fo {n:Nat}{e:IE}{r:List IS}{l:Sl}{c c':aa}{K:F→Sg'→Prop}(v:V)(he:∀K':V→aa→Prop,K' v c'→wpE P n e l c K')(h:K (.ret v) ⟨l,c'⟩):wpB P pr (n+2) (.ret (some e)::r) ⟨l,c⟩ K:=by
 exact he _ h
theorem jV {c:aa}{k dk:Nat}{fs:List (Str×V)}{K:List (Str×V)→Prop}(hk:ae c k=some (.inst P.C dk))(hdk:ae c dk=some (.ns fs))(h:K fs):gF P c (.obj k) K:=by
 show ey (ae c k) _
 rw[hk]
 refine⟨rfl,?_⟩
 rw[hdk]
 exact h
theorem gn {n i:Nat}{f:Addr}{nm:Str}{l:Sl}{c:aa}{k dk:Nat}{fs:List (Str×V)}(hi:aI l i=some (.obj k))(hk:ae c k=some (.inst P.C dk))(hdk:ae c dk=some (.ns fs))(hno:look fs nm=none)(hf:P.isFn f=true)(K':V→aa→Prop)
  (h:P.fn f [.obj k] c (fun v c3=>eW c c3∧K' v c3)):wpE P (n+3) (.umeth (.v i) f nm []) l c K':=by
 rw[iN]
 refine bv (n:=n+1) hi _ ?_
 refine⟨jV hk hdk hno,?_⟩
 exact⟨hf,h⟩
theorem lH {n i:Nat}{st:Addr}{g b:Nat}{l:Sl}{c:aa}{k dk:Nat}{fs:List (Str×V)}(hi:aI l i=some (.obj k))(p:ParAt P.C c k dk fs)(hf:P.isFn st=true)(hfn:P.fn st=d6 P.C g b)(K':V→aa→Prop)
  (h:(look fs nSl=some (.d (.int 1))∧K' (.d .none) c)∨∃x,Fresh fs x∧g∉dom c∧b∉dom c∧K' (.d .none) (cset c dk (.ns (studied fs x)))):wpE P (n+3) (.umeth (.v i) st nS1 []) l c K':=by
 refine gn hi p.k_ p.d_ p.no hf K' ?_
 rw[hfn]
 refine⟨k,dk,fs,rfl,p,?_⟩
 rcases h with ⟨h1,h2⟩|⟨x,h1,h2,h3,h4⟩
 ·exact .inl ⟨h1,fun _ q=>q,h2⟩
 ·exact .inr ⟨x,h1,h2,h3,fun j q=>by rw[ah];exact q,h4⟩
end
noncomputable def fu (K:Frag)(a:Addr):FuncData:=(ft K a).getD default
theorem ek:∀(names:List (Str×NameKind)) (n:Nat) (acc:List (Str×Addr)) (x:Str),(acc.lookup x).isSome=true→((cellsFrom n names acc).lookup x).isSome=true
 | [],n,acc,x,h=>h
 | (name,kind)::r,n,acc,x,h=>by
  unfold cellsFrom
  split
  ·refine ek r _ _ x ?_
   rw[List.lookup_cons]
   split
   ·rfl
   ·exact h
  ·exact ek r _ _ x h
theorem dZ:∀(names:List (Str×NameKind)) (n:Nat) (acc:List (Str×Addr)) (x:Str),(x,NameKind.cell)∈names→((cellsFrom n names acc).lookup x).isSome=true
 | (name,kind)::r,n,acc,x,h=>by
  unfold cellsFrom
  rcases List.mem_cons.mp h with h|h
  ·cases h
   rw[if_pos (by decide)]
   refine ek r _ _ name ?_
   simp
  ·split
   ·exact dZ r _ _ x h
   ·exact dZ r _ _ x h
noncomputable def uU (K:Frag)(a:Addr)(ps:List Str):Bool:=
 let fd:=fu K a
 (ft K a).isSome&&codeIn K fd.code fd.qualname&&fd.closure.isEmpty&&(match fd.body with | .stmts _=>true|_=>false)&&decide ps.Nodup &&
 (ps.all fun p=>fd.scope.names.lookup p==some .local||fd.scope.names.lookup p==some .cell)&&!fd.scope.isCoroutine&&!fd.scope.isGenerator&&fd.scope.kind==.function&&fd.globals==mainGlobals&&fd.builtins==builtinsNs
theorem dG {K:Frag}{hb:Heap}(X:K.In hb)(lim:hb.NoLimit){a:Addr}{T:Tb}{ib:List IS}{m:Nat}{ps rest:List Str}(chk:uU K a ps=true)
  (hbind:∀ws:List Value,ws.length=ps.length→bindArgs (fu K a) ⟨ws,[]⟩=pure (ps.zip ws)) (hT:T.kinds=eM K a) (hn:T.names=ps++rest) (nd:decide T.names.Nodup=true) (comp:bG m T (bh K a)=some ib) :
  FnT hb a T ib ps rest (fu K a) (bh K a) m:=by
 unfold uU at chk
 simp only[Bool.and_eq_true] at chk
 obtain⟨⟨⟨⟨⟨⟨⟨⟨⟨⟨c1,c2⟩,c3⟩,c4⟩,c5⟩,c6⟩,c7⟩,c8⟩,c9⟩,c10⟩,c11⟩:=chk
 obtain⟨fd,hfd⟩:=Option.isSome_iff_exists.mp c1
 have e:fu K a=fd:=by unfold fu;rw[hfd];rfl
 have hk:eM K a=fd.scope.names:=by unfold eM;rw[hfd]
 have hb':fd.body=.stmts (bh K a):=by
  unfold bh;rw[hfd];dsimp only
  rw[e] at c4
  split at c4
  ·rename_i b q;rw[q]
  ·contradiction
 rw[e] at c2 c3 c6 c7 c8 c9 c10 c11 hbind ⊢
 have at_:∃o,hb.get? a=some o∧o.data=.func fd:=by
  unfold ft at hfd
  split at hfd
  ·rename_i o ho
   split at hfd
   ·rename_i fd' hd;cases hfd;exact⟨o,X _ _ ho,hd⟩
   ·contradiction
  ·contradiction
 refine⟨⟨at_,lim,codeRec_of X c2,hb',List.isEmpty_iff.mp c3,hbind,of_decide_eq_true c5,fun p hp=>?_,by simpa using c7,by simpa using c8,beq_iff_eq.mp c9⟩,hT.trans hk,hn,of_decide_eq_true nd,fun p hp hc n=>?_,beq_iff_eq.mp c10,beq_iff_eq.mp c11,comp⟩
 ·have:=List.all_eq_true.mp c6 p hp
  simp only[Bool.or_eq_true] at this
  rcases this with q|q
  ·exact .inl (beq_iff_eq.mp q)
  ·exact .inr ⟨beq_iff_eq.mp q,fun n=>dZ _ _ _ _ (mem_of_lookup (beq_iff_eq.mp q))⟩
 ·obtain⟨x,k⟩:=p
  subst hc
  exact dZ _ _ _ _ hp
theorem nw {prog:Program}{w:World}{hb:Heap}{mg:Str→Option Value}(hg:hb.Ns mainGlobals mg){x:Str}{g:Value}{v:V}(e:mg x=some g)(iv:∀c α h,IsV c α h v g):dJ prog w hb x v:=by
 refine⟨g,iv,fun env A s Q EO h1 h2 hk base hq=>?_⟩
 rw[loadName_read EO.kind hk]
 refine Calls.loadGlobal_global (mg:=mg) ?_ e hq
 rw[h1];exact hg.keeps base
theorem sR {prog:Program}{w:World}{hb:Heap}{mg mb:Str→Option Value}(hg:hb.Ns mainGlobals mg)(hb':hb.Ns builtinsNs mb){x:Str}{g:Value}{v:V}(e:mg x=none)(e2:mb x=some g)(iv:∀c α h,IsV c α h v g):dJ prog w hb x v:=by
 refine⟨g,iv,fun env A s Q EO h1 h2 hk base hq=>?_⟩
 rw[loadName_read EO.kind hk]
 refine Calls.loadGlobal_builtin (mg:=mg) (mb:=mb) ?_ e ?_ e2 hq
 ·rw[h1];exact hg.keeps base
 ·rw[h2];exact hb'.keeps base
theorem mg_of {K:Frag}{hb:Heap}(X:K.In hb){mg:Str→Option Value}(hg:hb.Ns mainGlobals mg)(hk:(K.lookup mainGlobals).isSome=true)(x:Str):mg x=nsFind (nsOf K mainGlobals) x:=by
 obtain⟨o,ho⟩:=Option.isSome_iff_exists.mp hk
 obtain⟨o',es,ep,h1,h2,h3,h4⟩:=hg
 rw[X _ _ ho] at h1;(injection h1 with h1;subst h1)
 unfold nsOf
 rw[ho];dsimp only
 rw[h2]
 exact (h4 x).symm
end Mine
end
section
namespace Mine
open PySem PyProof.Rows PySem.W PySem.StrLaws PySem.Builtin.Str
theorem iT (x:Str){hi i:Nat}(hh:hi≤x.length):StrLaws.At x ⟨#[10]⟩ hi i↔(sg x)[i]?=some 10∧i<hi:=by
 have h:=subAt_one x 10 i
 constructor
 ·rintro⟨h1,h2⟩
  have h1':i+1≤hi:=h1
  exact⟨h.mp ⟨Nat.le_trans h1 hh,h2⟩,by exact Om.o74 h1'⟩
 ·rintro⟨h1,h2⟩
  exact⟨(show i+1≤hi by exact Om.o82 h2),(h.mpr h1).2⟩
theorem ru {x:Str}{hi:Nat}(hh:hi≤x.length):(cP x ⟨#[10]⟩ 0 hi=-1∧∀i,i<hi→(sg x)[i]?≠some 10)∨∃i:Nat,cP x ⟨#[10]⟩ 0 hi=(i:Int)∧i<hi∧(sg x)[i]?=some 10∧∀k,i<k→k<hi→(sg x)[k]?≠some 10:=by
 unfold cP
 rw[last_eq]
 have key:=last_run x ⟨#[10]⟩ hi (List.range' 0 (hi+1-0)) [] none (fun _ h=>nomatch h) (fun _ h=>nomatch h) (by simpa using List.pairwise_lt_range' (s:=0) (n:=hi+1-0))
 have mem:∀i,i<hi→i∈[]++List.range' 0 (hi+1-0):=fun i h=>by simp[List.mem_range'];exact Om.o141 h
 cases hr:(forIn (List.range' 0 (hi+1-0)) none (lastBody x ⟨#[10]⟩ hi)).run with
 |none=>simp only[hr] at key;exact .inl ⟨rfl,fun i h q=>key i (mem i h) ((iT x hh).mpr ⟨q,h⟩)⟩
 |some a=>
  simp only[hr] at key
  obtain⟨h1,h2⟩:=(iT x hh).mp key.1
  exact .inr ⟨a,rfl,h2,h1,fun k hk h q=>key.2 k (mem k h) hk ((iT x hh).mpr ⟨q,h⟩)⟩
theorem mH {x:Str}{i hi:Nat}(hh:hi≤x.length)(h:∃j:Nat,i≤j∧j<hi∧(sg x)[j]?=some 10):∃j:Nat,er x ⟨#[10]⟩ i hi=(j:Int)∧i≤j∧j<hi∧(sg x)[j]?=some 10∧∀m:Nat,i≤m→m<j→(sg x)[m]?≠some 10:=by
 unfold er
 rw[occ_eq,fV x ⟨#[10]⟩ hi _ i (fun m hm=>by have:=List.mem_range'_1.mp hm;exact Om.o33 this)]
 have iff1:∀m,(decide (m+(⟨#[10]⟩:Str).length≤hi)&&subAt x ⟨#[10]⟩ m)=true↔(sg x)[m]?=some 10∧m<hi:=fun m=>by
  simp only[Bool.and_eq_true,decide_eq_true_eq];exact iT x hh
 cases hf:(List.range' i (hi+1-i)).find? (fun i=>decide (i+(⟨#[10]⟩:Str).length≤hi)&&subAt x ⟨#[10]⟩ i) with
 |none=>
  refine aA fun G9 back9=>?_;obtain⟨j,hj,hl,hc⟩:=h;refine back9 ?_
  exact absurd ((iff1 j).mpr ⟨hc,hl⟩) (List.find?_eq_none.mp hf j (List.mem_range'_1.mpr (by exact Om.o32 hj hl)))
 |some j=>
  obtain⟨hp,as,bs,hl,hall⟩:=List.find?_eq_some_iff_append.mp hf
  obtain⟨h1,h2⟩:=(iff1 j).mp hp
  have hmem:j∈List.range' i (hi+1-i):=by rw[hl];simp
  have hij:=(List.mem_range'_1.mp hmem).1
  refine⟨j,rfl,hij,h2,h1,fun m hm hlt q=>?_⟩
  have hm':m∈List.range' i (hi+1-i):=List.mem_range'_1.mpr (by exact Om.o140 h2 hm hlt)
  rw[hl] at hm'
  have pw:(as++j::bs).Pairwise (·<·):=by rw[←hl];exact List.pairwise_lt_range'
  rcases List.mem_append.mp hm' with hm'|hm'
  ·have:=hall m hm'
   rw[(iff1 m).mpr ⟨q,by exact Om.o123 h2 hlt⟩] at this
   contradiction
  ·rcases List.mem_cons.mp hm' with rfl|hm'
   ·exact Om.o30 hlt
   ·have:=(List.pairwise_cons.mp (List.pairwise_append.mp pw).2.1).1 m hm'
    exact Om.o29 hlt this
noncomputable def ar:List Nat→Nat→Nat
 |_,0=>0
 | [],_+1=>0
 |c::l,n+1=>if c=10 then 1+ar l n else 1+ar l (n+1)
noncomputable def nls:List Nat→Nat
 | []=>0
 |c::l=>(if c=10 then 1 else 0)+nls l
theorem bY (l:List Nat):ar l 0=0:=by cases l<;>rfl
theorem fH:∀(l:List Nat) (n:Nat),n<nls l→ar l n<ar l (n+1)∧l[ar l (n+1)-1]?=some 10∧∀k,ar l n≤k→k<ar l (n+1)-1→l[k]?≠some 10
 | [],n,h=>absurd h (Nat.not_lt_zero _)
 |c::l,n,h=>by
  unfold nls at h
  by_cases hc:c=10
  ·subst hc
   rw[if_pos rfl] at h
   cases n with
   |zero=>
    have e:ar (10::l) 1=1:=by unfold ar;rw[if_pos rfl];cases l<;>rfl
    rw[show (0:Nat)+1=1 from rfl,e]
    rw[bY]
    exact⟨by exact Om.o139,rfl,fun k _ hk=>by exact (Om.o138 hk).elim⟩
   |succ n=>
    obtain⟨h1,h2,h3⟩:=fH l n (by exact Om.o137 h)
    have e1:ar (10::l) (n+1)=1+ar l n:=by rw[ar,if_pos rfl]
    have e2:ar (10::l) (n+1+1)=1+ar l (n+1):=by rw[ar,if_pos rfl]
    rw[e1,e2]
    refine⟨by exact Om.o132 h1,?_,fun k hk hlt=>?_⟩
    ·simp only[show 1+ar l (n+1)-1=(ar l (n+1)-1)+1 by exact Om.o136 h1,List.getElem?_cons_succ];exact h2
    ·rw[show k=(k-1)+1 by exact Om.o130 hk,List.getElem?_cons_succ];exact h3 (k-1) (by exact Om.o129 hk) (by exact Om.o128 hk hlt)
  ·rw[if_neg hc,Nat.zero_add] at h
   obtain⟨h1,h2,h3⟩:=fH l n h
   have e2:ar (c::l) (n+1)=1+ar l (n+1):=by rw[ar,if_neg hc]
   have ep:0<ar l (n+1):=by exact Om.o135 h1
   rw[e2]
   cases n with
   |zero=>
    rw[bY]
    rw[bY] at h3
    refine⟨by exact Om.o134,?_,fun k hk hlt=>?_⟩
    ·simp only[show 1+ar l (0+1)-1=(ar l (0+1)-1)+1 by exact Om.o131 ep,List.getElem?_cons_succ];exact h2
    ·cases k with
     |zero=>simp[hc]
     |succ k=>simp only[List.getElem?_cons_succ];exact h3 k (Nat.zero_le _) (by exact Om.o133 hlt)
   |succ n=>
    have e1:ar (c::l) (n+1)=1+ar l (n+1):=by rw[ar,if_neg hc]
    rw[e1]
    refine⟨by exact Om.o132 h1,?_,fun k hk hlt=>?_⟩
    ·simp only[show 1+ar l (n+1+1)-1=(ar l (n+1+1)-1)+1 by exact Om.o131 ep,List.getElem?_cons_succ];exact h2
    ·rw[show k=(k-1)+1 by exact Om.o130 hk,List.getElem?_cons_succ];exact h3 (k-1) (by exact Om.o129 hk) (by exact Om.o128 hk hlt)
theorem mi:∀(l:List Nat),(l=[]∨l.getLast?=some 10)→ar l (nls l)=l.length
 | [],_=>rfl
 | [c],h=>by
  have:c=10:=by simpa using h
  subst this;rfl
 |c::d::l,h=>by
  have h':(d::l).getLast?=some 10:=by simpa [List.getLast?_cons_cons] using h
  have ih:=mi (d::l) (.inr h')
  have hp:0<nls (d::l):=by
   cases hn:nls (d::l) with
   |zero=>rw[hn] at ih;contradiction
   |succ n=>exact Om.o127
  unfold nls
  by_cases hc:c=10
  ·rw[if_pos hc,Nat.add_comm 1,ar,if_pos hc,ih];dsimp only[List.length_cons];exact Om.o126
  ·rw[if_neg hc,Nat.zero_add]
   obtain⟨m,hm⟩:∃m,nls (d::l)=m+1:=⟨_,(Nat.succ_pred_eq_of_pos hp).symm⟩
   rw[hm] at ih ⊢
   rw[ar,if_neg hc,ih];dsimp only[List.length_cons];exact Om.o126
theorem eE (l:List Nat){m n:Nat}(h:m<n)(hn:n≤nls l):ar l m<ar l n:=by
 induction n with
 |zero=>exact (Om.o125 h).elim
 |succ n ih=>
  have:=(fH l n (by exact Om.o74 hn)).1
  by_cases q:m=n
  ·subst q;exact this
  ·have:=ih (by exact Om.o124 h q) (by exact Om.o73 hn);exact Om.o123 ‹_› this
theorem ip (l:List Nat):∀n,n≤nls l→ar l n≤l.length
 |0,_=>by rw[bY];exact Nat.zero_le _
 |n+1,h=>by
  obtain⟨h1,h2,_⟩:=fH l n h
  have:=aY h2
  exact Om.o122 this
theorem yB {x:Str}{m:Nat}(h:m<nls (sg x)):cP x ⟨#[10]⟩ 0 (ar (sg x) (m+1)-1)+1=(ar (sg x) m:Nat):=by
 obtain⟨h1,h2,h3⟩:=fH (sg x) m h
 have hle:=ip (sg x) (m+1) h
 have hl:=aB x
 rcases ru (x:=x) (hi:=ar (sg x) (m+1)-1) (by exact Om.o121 hle) with ⟨e,hn⟩|⟨i,e,hi,hc,hn⟩
 ·rw[e]
  cases m with
  |zero=>rw[bY];rfl
  |succ m=>
   obtain⟨g1,g2,_⟩:=fH (sg x) m (by exact Om.o120 h)
   exact absurd g2 (hn _ (by exact Om.o119 h1 g1))
 ·rw[e]
  cases m with
  |zero=>exact absurd hc (h3 i (by rw[bY];exact Nat.zero_le _) hi)
  |succ m=>
   obtain⟨g1,g2,g3⟩:=fH (sg x) m (by exact Om.o120 h)
   have hnot:¬ar (sg x) (m+1)≤i:=fun q=>h3 i q hi hc
   have hnot2:¬i<ar (sg x) (m+1)-1:=fun q=>hn _ q (by exact Om.o119 h1 g1) g2
   exact Om.o118 hnot hnot2
theorem nU (s:St)(c:Nat):(step s c).ln=s.ln+if c=10 then 1 else 0:=by
 obtain⟨md,lv,ln,gd⟩:=s
 unfold step
 by_cases hc:c=10
 ·subst hc
  simp only[if_pos rfl]
  cases md with
  |Q1 d f=>cases d<;>rfl
  |Q2 d f=>cases d<;>rfl
  |S1 d f=>cases d<;>rfl
  |S1e d f=>cases d<;>rfl
  |S3 d k f=>cases d<;>rfl
  |S3e d f=>cases d<;>rfl
  |_=>rfl
 ·have hN:∀s:St,(aX s c).ln=s.ln:=fun s=>by
   unfold aX
   rw[if_neg hc]
   repeat (first | (split<;>try rfl))
  have hS:∀(s:St) d f,(bc s d f c).ln=s.ln:=fun s d f=>by
   unfold bc
   split
   ·rfl
   ·split<;>rfl
  have e:(if c=10 then 1 else 0:Nat)=0:=if_neg hc
  rw[e,Nat.add_zero]
  cases md with
  |N=>exact hN _
  |Nb=>exact hN _
  |E=>dsimp only;rw[if_neg hc];rfl
  |C=>dsimp only;rw[if_neg hc];rfl
  |Q1 d f=>dsimp only;split<;>first|rfl|exact hS _ _ _
  |Q2 d f=>dsimp only;split<;>first|rfl|exact hN _
  |S1 d f=>exact hS _ _ _
  |S1e d f=>dsimp only;rw[if_neg hc];rfl
  |S3 d k f=>
   dsimp only
   split
   ·split<;>rfl
   ·first | (split<;>rfl) | (rw[if_neg hc];split<;>rfl)
  |S3e d f=>dsimp only;rw[if_neg hc];rfl
theorem jI:∀(l:List Nat) (s:St),(scan s l).ln=s.ln+nls l
 | [],s=>rfl
 |c::l,s=>by simp only[bf,jI l,nU,nls];exact Om.o117
theorem lm (s:St)(c:Nat):(step s c).gd=s.gd∨((step s c).gd=s.gd++[s.ln+1]∧(step s c).ln=s.ln+1):=by
 obtain⟨md,lv,ln,gd⟩:=s
 have hnl:∀s:St,(nl s).gd=s.gd∨((nl s).gd=s.gd++[s.ln+1]∧(nl s).ln=s.ln+1):=fun s=>by
  unfold nl
  by_cases h:s.lv=0
  ·exact .inr ⟨if_pos h,rfl⟩
  ·exact .inl (if_neg h)
 have hN:∀s:St,(aX s c).gd=s.gd∨((aX s c).gd=s.gd++[s.ln+1]∧(aX s c).ln=s.ln+1):=fun s=>by
  unfold aX
  by_cases h:c=10
  ·rw[if_pos h];exact hnl s
  ·rw[if_neg h];left;repeat (first | (split<;>try rfl))
 have hS:∀(s:St) d f,(bc s d f c).gd=s.gd∨((bc s d f c).gd=s.gd++[s.ln+1]∧(bc s d f c).ln=s.ln+1):=fun s d f=>by
  unfold bc
  split
  ·exact .inl rfl
  ·split
   ·exact hnl s
   ·left;split<;>rfl
 unfold step
 cases md with
 |N=>exact hN _
 |Nb=>exact hN _
 |E=>dsimp only;left;split<;>rfl
 |C=>dsimp only;split<;>first|exact hnl _|exact .inl rfl
 |Q1 d f=>dsimp only;split<;>first|exact .inl rfl|exact hS _ _ _
 |Q2 d f=>dsimp only;split<;>first|exact .inl rfl|exact hN _
 |S1 d f=>exact hS _ _ _
 |S1e d f=>dsimp only;left;split<;>rfl
 |S3 d k f=>dsimp only;left;split<;>(split<;>first|rfl | (split<;>rfl))
 |S3e d f=>dsimp only;left;split<;>rfl
structure GdOk (s:St):Prop where
 up:s.gd.Pairwise (·<·)
 le:∀m∈s.gd,m≤s.ln
 hd:s.gd.head?=some 0
theorem GdOk.step {s:St}(h:GdOk s)(c:Nat):GdOk (step s c):=by
 have hl:=nU s c
 rcases lm s c with e|⟨e,e2⟩
 ·exact⟨by rw[e];exact h.up,fun m hm=>by rw[e] at hm;have:=h.le m hm;exact Om.o116 hl this,by rw[e];exact h.hd⟩
 ·refine⟨?_,fun m hm=>?_,?_⟩
  ·rw[e,List.pairwise_append]
   exact⟨h.up,List.pairwise_singleton _ _,fun a ha b hb=>by
                                  have:=h.le a ha;have:b=s.ln+1:=by simpa using hb
                                  exact Om.o115 ‹_› this⟩
  ·rw[e] at hm
   rcases List.mem_append.mp hm with hm|hm
   ·have:=h.le m hm;exact Om.o114 e2 this
   ·have:m=s.ln+1:=by simpa using hm
    exact Om.o113 e2 this
  ·simp only[e,List.head?_append,h.hd];rfl
theorem GdOk.scan:∀(l:List Nat) {s:St},GdOk s→GdOk (scan s l)
 | [],s,h=>h
 |c::l,s,h=>by simp only[bf];exact GdOk.scan l (h.step c)
theorem gd0:GdOk st0:=by
 refine⟨List.pairwise_singleton _ _,fun m hm=>?_,rfl⟩
 have:m=0:=by simpa [st0] using hm
 exact Om.o112 this
theorem ml:∀l:List Nat,nls (l.map tr)=nls l
 | []=>rfl
 |c::l=>by
  show (if tr c=10 then 1 else 0)+nls (l.map tr)=_
  simp only[ml l,nls]
  congr 1
  by_cases h:c=10
  ·subst h;rfl
  ·rw[if_neg h,if_neg]
   unfold tr
   split
   ·exact Om.o111
   ·split
    ·exact Om.o110
    ·split
     ·exact Om.o109 h
     ·exact Om.o108
structure GoodOk (x:Str)(gl:List Nat):Prop where
 up:gl.Pairwise (·<·)
 hd:gl.head?=some 0
 last:gl.getLast?=some (nls (sg x))
theorem sw (x:Str):GoodOk x (aR (fin x)):=by
 have G:GdOk (fin x):=GdOk.scan _ gd0
 have e:(fin x).ln=nls (sg x):=by unfold fin;rw[jI,ml];show 0+_=_;exact Om.o107
 unfold aR
 split
 ·rename_i h;exact⟨G.up,G.hd,by rw[h,e]⟩
 ·rename_i h
  refine⟨?_,by rw[List.head?_append,G.hd];rfl,by rw[List.getLast?_append,e];rfl⟩
  rw[List.pairwise_append]
  refine⟨G.up,List.pairwise_singleton _ _,fun a ha b hb=>?_⟩
  have hb:b=(fin x).ln:=by simpa using hb
  subst hb
  refine Nat.lt_of_le_of_ne (G.le a ha) fun q=>h ?_
  obtain⟨i,hi,hg⟩:=List.getElem_of_mem ha
  rw[List.getLast?_eq_getElem?]
  by_cases hl:i=(fin x).gd.length-1
  ·simp only[←hl,List.getElem?_eq_getElem hi,hg,q]
  ·have:=List.pairwise_iff_getElem.mp G.up i ((fin x).gd.length-1) hi (by exact Om.o105 hi) (by exact Om.o106 hi hl)
   have h2:=G.le ((fin x).gd[(fin x).gd.length-1]'(by exact Om.o105 hi)) (List.getElem_mem _)
   simp only[hg] at this;exact (Om.o104 q this h2).elim
theorem GoodOk.at_ {x:Str}{gl:List Nat}(G:GoodOk x gl){i a b:Nat}(ha:gl[i]?=some a)(hb:gl[i+1]?=some b):a<b∧b≤nls (sg x):=by
 obtain⟨h1,e1⟩:=List.getElem?_eq_some_iff.mp ha
 obtain⟨h2,e2⟩:=List.getElem?_eq_some_iff.mp hb
 refine⟨e1▸e2▸List.pairwise_iff_getElem.mp G.up i (i+1) h1 h2 (by exact Om.o43),?_⟩
 have hl:=G.last
 rw[List.getLast?_eq_getElem?] at hl
 obtain⟨h3,e3⟩:=List.getElem?_eq_some_iff.mp hl
 by_cases q:i+1=gl.length-1
 ·have:b=nls (sg x):=by
   rw[←q] at hl
   rw[hl] at hb;(injection hb with hb;subst hb);rfl
  exact Om.o14 this
 ·have:=List.pairwise_iff_getElem.mp G.up (i+1) (gl.length-1) h2 h3 (by exact Om.o103 h2 q)
  exact Om.o102 e2 e3 this
end Mine
end
section
namespace Mine
namespace Re
open PySem PySem.Sre
structure Z where
 code:Array Nat
 text:Array Nat
 lim:Nat
 start:Nat
structure Fr where
 wait:Wait
 pc:Nat
 pos:Nat
 om:Bool
 count:Int:=0
 whole:Bool:=false
 loop:Nat:=0
 began:Option Nat:=none
noncomputable def Fr.f (x:Fr):Sre.Frame:={wait:=x.wait,pc:=x.pc,pos:=x.pos,outermost:=x.om,count:=x.count,kept:={whole:=x.whole},loop:=x.loop,began:=x.began}
structure A where
 pc:Nat
 pos:Nat
 handed:Nat
 om:Bool
 loops:Array Loop
 inner:Option Nat
 frames:List Fr
 answer:Option Bool
noncomputable def mk (z:Z)(a:A)(se:Seen):M:=
 {code:=z.code,text:=z.text,lim:=z.lim,start:=z.start,pc:=a.pc,pos:=a.pos,handed:=a.handed,outermost:=a.om,marks:=#[],loops:=a.loops,inner:=a.inner,
  frames:=a.frames.map Fr.f,weight:=a.frames.length,answer:=a.answer,seen:=se}
noncomputable def it:Nat→M→M
 |0,m=>m
 |n+1,m=>it n m.step
def End (z:Z)(r:Option Nat)(m:M):Prop:=
 m.start=z.start∧m.lastindex=-1∧match r with
 |some e=>m.outcome=some .matched∧m.handed=e
 |none=>m.outcome=some .failed
def Ends (z:Z)(r:Option Nat)(N:Nat)(a:A):Prop:=∀se,∃n,n≤N∧End z r (it n (mk z a se))
theorem bq {z:Z}{r:Option Nat}{N:Nat}{a a':A}(h:∀se,∃se',(mk z a se).step=mk z a' se')(k:Ends z r N a'):Ends z r (N+1) a:=by
 intro se
 obtain⟨se',e⟩:=h se
 obtain⟨n,hn,q⟩:=k se'
 exact⟨n+1,by exact Om.o11 hn,by show End z r (it n (mk z a se).step);rw[e];exact q⟩
theorem Ends.mono {z:Z}{r:Option Nat}{N N':Nat}{a:A}(h:Ends z r N a)(l:N≤N'):Ends z r N' a:=by
 intro se
 obtain⟨n,hn,q⟩:=h se
 exact⟨n,by exact Om.o98 l hn,q⟩
section
variable {z:Z}{r:Option Nat}{N pc pos handed:Nat}{om:Bool}{loops:Array Loop}{inner:Option Nat}{fs:List Fr}
theorem sH:Ends z (some handed) 1 ⟨pc,pos,handed,om,loops,inner,[],some true⟩:=fun se=>⟨1,by exact Om.o142,rfl,rfl,rfl,rfl⟩
theorem fin_no:Ends z none 1 ⟨pc,pos,handed,om,loops,inner,[],some false⟩:=fun se=>⟨1,by exact Om.o142,rfl,rfl,rfl⟩
noncomputable def Fr.passes (f:Fr):Bool:=match f.wait with
 | .nextBranch | .giveBack | .closeLoop | .maxMore | .maxTail=>true
 |_=>false
theorem dq:∀{fs:List Fr} (hp:∀f∈fs,f.passes=true) {pc pos:Nat} {om:Bool} {loops:Array Loop} {inner:Option Nat},Ends z (some handed) (fs.length+1) ⟨pc,pos,handed,om,loops,inner,fs,some true⟩
 | [],_,_,_,_,_,_=>sH
 |f::fs,hp,pc,pos,om,loops,inner=>by
  obtain⟨wait,fpc,fpos,fom,count,whole,loop,began⟩:=f
  have ih:=fun {pc pos om loops inner}=>dq (fs:=fs) (fun f hf=>hp f (.tail _ hf)) (pc:=pc) (pos:=pos) (om:=om) (loops:=loops) (inner:=inner)
  have h0:=hp _ (.head _)
  cases wait with
  |nextBranch=>exact bq (a':=⟨fpc,fpos,handed,fom,loops,inner,fs,some true⟩) (fun se=>⟨se,rfl⟩) ih
  |giveBack=>exact bq (a':=⟨fpc,fpos,handed,fom,loops,inner,fs,some true⟩) (fun se=>⟨se,rfl⟩) ih
  |closeLoop=>exact bq (a':=⟨fpc,fpos,handed,fom,loops.pop,(loops.getD loop {pc:=0,outer:=none}).outer,fs,some true⟩) (fun se=>⟨se,rfl⟩) ih
  |maxMore=>exact bq (a':=⟨fpc,fpos,handed,fom,loops.modify loop fun l=>{l with began:=began},inner,fs,some true⟩) (fun se=>⟨se,rfl⟩) ih
  |maxTail=>exact bq (a':=⟨fpc,fpos,handed,fom,loops,some loop,fs,some true⟩) (fun se=>⟨se,rfl⟩) ih
  |_=>exact Bool.noConfusion h0
theorem bV {a:A}{se:Seen}(ha:a.answer=none)(hc:a.pc<z.code.size):(mk z a se).step=(mk z a se).exec:=by
 obtain⟨pc,pos,handed,om,loops,inner,fs,ans⟩:=a
 (subst ha)
 show (if pc<z.code.size then (mk z ⟨pc,pos,handed,om,loops,inner,fs,none⟩ se).exec else _)=_
 rw[if_pos hc]
noncomputable def okB:Except String (Bool×Seen)→Option Bool
 | .ok p=>some p.1
 | .error _=>none
theorem vE {x:Except String (Bool×Seen)}{b:Bool}(h:okB x=some b):∃se,x=.ok (b,se):=by
 cases x with
 |error e=>contradiction
 |ok p=>obtain⟨c,se⟩:=p;(injection h with h;subst h);exact⟨se,rfl⟩
theorem gQ (code:Array Nat)(c:Nat):∀(fuel i:Nat) (yes:Bool) (se se':Seen),okB (inSet code c fuel i yes se)=okB (inSet code c fuel i yes se')
 |0,_,_,_,_=>rfl
 |fuel+1,i,yes,se,se'=>by
  have ih:=gQ code c fuel
  unfold inSet
  dsimp only
  cases ops[code.getD (i+0) 0]? with
  |none=>rfl
  |some op=>
   cases op with
   |NEGATE=>exact ih _ _ _ _
   |LITERAL=>dsimp only;by_cases q:(c==code.getD (i+1) 0)=true<;>simp only[q,if_true,Bool.false_eq_true,if_false]<;>first|rfl|exact ih _ _ _ _
   |RANGE=>dsimp only;split<;>first|rfl|exact ih _ _ _ _
   |RANGE_UNI_IGNORE=>dsimp only;split<;>first|rfl|exact ih _ _ _ _
   |CHARSET=>dsimp only;split<;>first|rfl|exact ih _ _ _ _
   |BIGCHARSET=>dsimp only;split<;>first|rfl|exact ih _ _ _ _
   |CATEGORY=>
    dsimp only
    cases category (code.getD (i+1) 0) c with
    |error e=>rfl
    |ok b=>cases b<;>first|rfl|exact ih _ _ _ _
   |_=>rfl
end
end Re
end Mine
end
section
namespace Mine
namespace Re
open PySem PySem.Sre
section
variable {z:Z}{r:Option Nat}{N pc pos handed:Nat}{om:Bool}{loops:Array Loop}{inner:Option Nat}{fs:List Fr}
noncomputable def acc (code:Array Nat)(pc c:Nat):Option Bool:=okB (accepts code pc c {})
theorem mL {code:Array Nat}{pc c:Nat}{b:Bool}(h:acc code pc c=some b)(se:Seen):∃se',accepts code pc c se=.ok (b,se'):=by
 refine vE (h▸?_)
 unfold acc accepts
 dsimp only
 cases ops[code.getD pc 0]? with
 |none=>rfl
 |some op=>cases op<;>first|rfl|exact gQ ..
noncomputable def nN:Op→Bool
 | .ANY | .ANY_ALL | .LITERAL | .IN=>true
 |_=>false
theorem bU {a:A}{se:Seen}{op:Op}(h:ops[z.code.getD a.pc 0]?=some op):ops[(mk z a se).word 0]?=some op:=h
theorem jD {op:Op}(ho:ops[z.code.getD pc 0]?=some op)(h1:nN op=true)(hc:pc<z.code.size)(hl:pos<z.lim)(ha:acc z.code pc (z.text.getD pos 0)=some true)
  (k:Ends z r N ⟨pc+itemWidth z.code pc,pos+1,handed,om,loops,inner,fs,none⟩):Ends z r (N+1) ⟨pc,pos,handed,om,loops,inner,fs,none⟩:=by
 refine bq (fun se=>?_) k
 rw[bV rfl hc]
 unfold M.exec
 rw[bU ho]
 obtain⟨se',e⟩:=mL ha (se.add (z.code.getD pc 0))
 refine⟨se',?_⟩
 cases op<;>first
  |exact Bool.noConfusion h1
  | (show (if pos ≥ z.lim then _ else match accepts z.code pc (z.text.getD pos 0) (se.add (z.code.getD pc 0)) with | .error why=>_ | .ok (false,seen)=>_ | .ok (true,seen)=>_)=_;rw[if_neg (by exact Om.o145 hl),e];rfl)
theorem lN {op:Op}(ho:ops[z.code.getD pc 0]?=some op)(h1:nN op=true)(hc:pc<z.code.size)(ha:pos<z.lim→acc z.code pc (z.text.getD pos 0)=some false)
  (k:Ends z r N ⟨pc,pos,handed,om,loops,inner,fs,some false⟩):Ends z r (N+1) ⟨pc,pos,handed,om,loops,inner,fs,none⟩:=by
 refine bq (fun se=>?_) k
 rw[bV rfl hc]
 unfold M.exec
 rw[bU ho]
 by_cases hl:pos<z.lim
 ·obtain⟨se',e⟩:=mL (ha hl) (se.add (z.code.getD pc 0))
  refine⟨se',?_⟩
  cases op<;>first
   |exact Bool.noConfusion h1
   | (show (if pos ≥ z.lim then _ else match accepts z.code pc (z.text.getD pos 0) (se.add (z.code.getD pc 0)) with | .error why=>_ | .ok (false,seen)=>_ | .ok (true,seen)=>_)=_;rw[if_neg (by exact Om.o145 hl),e];rfl)
 ·refine⟨se.add (z.code.getD pc 0),?_⟩
  cases op<;>first
   |exact Bool.noConfusion h1
   | (show (if pos ≥ z.lim then _ else match accepts z.code pc (z.text.getD pos 0) (se.add (z.code.getD pc 0)) with | .error why=>_ | .ok (false,seen)=>_ | .ok (true,seen)=>_)=_;rw[if_pos (by exact Om.o144 hl)];rfl)
theorem dg (ho:ops[z.code.getD pc 0]?=some .SUCCESS)(hc:pc<z.code.size)(k:Ends z r N ⟨pc,pos,pos,om,loops,inner,fs,some true⟩):Ends z r (N+1) ⟨pc,pos,handed,om,loops,inner,fs,none⟩:=by
 refine bq (fun se=>⟨se.add (z.code.getD pc 0),?_⟩) k
 rw[bV rfl hc]
 unfold M.exec
 rw[bU ho]
 cases om<;>rfl
theorem rL (ho:ops[z.code.getD pc 0]?=some .JUMP)(hc:pc<z.code.size)(k:Ends z r N ⟨pc+1+z.code.getD (pc+1) 0,pos,handed,om,loops,inner,fs,none⟩):Ends z r (N+1) ⟨pc,pos,handed,om,loops,inner,fs,none⟩:=by
 refine bq (fun se=>⟨se.add (z.code.getD pc 0),?_⟩) k
 rw[bV rfl hc]
 unfold M.exec
 rw[bU ho]
 rfl
def room (fs:List Fr):Prop:=fs.length<16777216
theorem bn {a:A}{se:Seen}{x:Fr}{t p:Nat}{om:Bool}(hr:room a.frames):(mk z a se).attempt x.f t p om=mk z ⟨t,p,p,om,a.loops,a.inner,x::a.frames,a.answer⟩ se:=by
 unfold M.attempt
 have:¬(mk z a se).weight+1+x.f.kept.marks.size > 16777216:=by
  unfold room at hr;exact Om.o143 hr
 rw[if_neg this];rfl
theorem l6 (ho:ops[z.code.getD pc 0]?=some .BRANCH)(hc:pc<z.code.size)(hr:room fs)(h0:(z.code.getD (pc+1) 0==0)=false)
  (k:Ends z r N ⟨pc+1+1,pos,pos,om,loops,inner,{wait:=.nextBranch,pc:=pc+1,pos,om,whole:=inner.isSome}::fs,none⟩):Ends z r (N+1) ⟨pc,pos,handed,om,loops,inner,fs,none⟩:=by
 refine bq (fun se=>⟨se.add (z.code.getD pc 0),?_⟩) k
 rw[bV rfl hc]
 unfold M.exec
 rw[bU ho]
 show (if (z.code.getD (pc+1) 0==0)=true then _ else _)=_
 rw[if_neg (by rw[h0];exact Bool.false_ne_true)]
 cases inner<;>exact bn (a:=⟨pc,pos,handed,om,loops,_,fs,none⟩) (x:={wait:=.nextBranch,pc:=pc+1,pos,om,whole:=_}) hr
end
end Re
end Mine
end
section
namespace Mine
namespace Re
open PySem PySem.Sre
def At (z:Z)(pos:Nat)(w:List Nat):Prop:=pos+w.length=z.lim∧∀i c,w[i]?=some c→z.text.getD (pos+i) 0=c
theorem At.lt {z:Z}{pos c:Nat}{w:List Nat}(h:At z pos (c::w)):pos<z.lim:=by have:=h.1;simp only[List.length_cons] at this;exact Om.o156 this
theorem At.sign {z:Z}{pos c:Nat}{w:List Nat}(h:At z pos (c::w)):z.text.getD pos 0=c:=h.2 0 c rfl
theorem At.next {z:Z}{pos c:Nat}{w:List Nat}(h:At z pos (c::w)):At z (pos+1) w:=
 ⟨by have:=h.1;simp only[List.length_cons] at this;exact Om.o155 this,fun i d e=>by have:=h.2 (i+1) d e;rw[show pos+1+i=pos+(i+1) by exact Om.o23];exact this⟩
theorem At.drop {z:Z}:∀{n pos:Nat} {w:List Nat},At z pos w→n≤w.length→At z (pos+n) (w.drop n)
 |0,_,_,h,_=>h
 |n+1,pos,[],h,l=>absurd l (by simp)
 |n+1,pos,c::w,h,l=>by
  have:=h.next.drop (n:=n) (by simpa using l)
  simp only[show pos+(n+1)=pos+1+n by exact Om.o154];exact this
theorem At.nil {z:Z}{pos:Nat}(h:At z pos []):pos=z.lim:=by have:=h.1;simpa using this
section
variable {z:Z}{r:Option Nat}{N pc pos handed:Nat}{om:Bool}{loops:Array Loop}{inner:Option Nat}{fs:List Fr}
noncomputable abbrev dfl:Loop:={pc:=0,outer:=none}
theorem e5 {alt p pc0 pos0:Nat}{om0 wh:Bool}(hr:room fs)(h0:(z.code.getD (alt+z.code.getD alt 0) 0==0)=false)
  (k:Ends z r N ⟨alt+z.code.getD alt 0+1,p,p,om,loops,inner,{wait:=.nextBranch,pc:=alt+z.code.getD alt 0,pos:=p,om,whole:=wh}::fs,none⟩) :
  Ends z r (N+1) ⟨pc0,pos0,handed,om0,loops,inner,{wait:=.nextBranch,pc:=alt,pos:=p,om,whole:=wh}::fs,some false⟩:=by
 refine bq (fun se=>⟨se,?_⟩) k
 cases wh <;>
 ·show (if (z.code.getD (alt+z.code.getD alt 0) 0==0)=true then _ else _)=_
  rw[if_neg (by rw[h0];exact Bool.false_ne_true)]
  exact bn (a:=⟨alt,p,handed,om,loops,inner,fs,none⟩) (x:={wait:=.nextBranch,pc:=alt+z.code.getD alt 0,pos:=p,om,whole:=_}) hr
theorem vw {alt p pc0 pos0:Nat}{om0 wh:Bool}(h0:(z.code.getD (alt+z.code.getD alt 0) 0==0)=true)
  (k:Ends z r N ⟨alt,p,handed,om,loops,inner,fs,some false⟩):Ends z r (N+1) ⟨pc0,pos0,handed,om0,loops,inner,{wait:=.nextBranch,pc:=alt,pos:=p,om,whole:=wh}::fs,some false⟩:=by
 refine bq (fun se=>⟨se,?_⟩) k
 cases wh <;>
 ·show (if (z.code.getD (alt+z.code.getD alt 0) 0==0)=true then _ else _)=_
  rw[if_pos h0];rfl
theorem lS {f:Nat→Bool}{i:Nat}:∀{n:Nat} {w:List Nat} {pos:Nat},At z pos w→(∀c∈w,acc z.code i c=some (f c))→n≤w.length→∀found se,∃se',Sre.run z.code z.text i n pos found se=.ok (found+((w.take n).takeWhile f).length,se')
 |0,w,pos,h,ha,hn,found,se=>⟨se,rfl⟩
 |n+1,[],pos,h,ha,hn,found,se=>absurd hn (by simp)
 |n+1,c::w,pos,h,ha,hn,found,se=>by
  obtain⟨se1,e⟩:=mL (ha c (.head _)) se
  obtain⟨se2,e2⟩:=lS h.next (fun d hd=>ha d (.tail _ hd)) (n:=n) (by simpa using hn) (found+1) se1
  unfold Sre.run
  simp only[h.sign,e]
  show ∃se',(if f c=true then Sre.run z.code z.text i n (pos+1) (found+1) se1 else pure (found,se1))=_
  simp only[List.take_succ_cons,List.takeWhile_cons]
  by_cases q:f c=true
  ·rw[if_pos q,if_pos q,e2];exact⟨se2,by simp only[List.length_cons];congr 2;exact Om.o23⟩
  ·rw[if_neg q,if_neg q];exact⟨se1,rfl⟩
theorem cI (ho:ops[z.code.getD pc 0]?=some .REPEAT_ONE)(hc:pc<z.code.size)(hr:room fs){f:Nat→Bool}{w:List Nat}(hw:At z pos w)(ha:∀c∈w,acc z.code (pc+4) c=some (f c)){n m:Nat}
  (hm:min (z.code.getD (pc+3) 0) w.length=m) (hn:((w.take m).takeWhile f).length=n) (hl:z.code.getD (pc+2) 0≤n) (hl':z.code.getD (pc+2) 0≤w.length)
  (k:Ends z r N ⟨pc+1+z.code.getD (pc+1) 0,pos+n,pos+n,om,loops,inner,{wait:=.giveBack,pc,pos:=pos+n,om,count:=n,whole:=inner.isSome}::fs,none⟩):Ends z r (N+1) ⟨pc,pos,handed,om,loops,inner,fs,none⟩:=by
 refine bq (fun se=>?_) k
 rw[bV rfl hc]
 unfold M.exec
 rw[bU ho]
 have hroom:((z.lim:Int)-(pos:Int)).toNat=w.length:=by have:=hw.1;exact Om.o151 this
 obtain⟨se',e⟩:=lS (n:=m) hw ha (by exact Om.o150 hm) 0 ((se.add (z.code.getD pc 0)).add (z.code.getD (pc+4) 0))
 refine⟨se',?_⟩
 show (if ((z.code.getD (pc+2) 0:Nat):Int) > (z.lim:Int)-(pos:Int) then _ else match Sre.run z.code z.text (pc+4) (min (z.code.getD (pc+3) 0) ((z.lim:Int)-(pos:Int)).toNat) pos 0 ((se.add (z.code.getD pc 0)).add (z.code.getD (pc+4) 0)) with | .error why=>_ | .ok (n,seen)=>_)=_
 simp only[if_neg (by have:=hw.1;exact Om.o153 hl' this),hroom,hm,e]
 rw[if_neg (by exact Om.o152 hn hl),hn,Nat.zero_add]
 cases inner<;>exact bn (a:=⟨pc,pos+n,handed,om,loops,_,fs,none⟩) (x:={wait:=.giveBack,pc,pos:=pos+n,om,count:=n,whole:=_}) hr
theorem oy (ho:ops[z.code.getD pc 0]?=some .REPEAT_ONE)(hc:pc<z.code.size){f:Nat→Bool}{w:List Nat}(hw:At z pos w)(ha:∀c∈w,acc z.code (pc+4) c=some (f c)){m:Nat}
  (hm:min (z.code.getD (pc+3) 0) w.length=m) (hl:((w.take m).takeWhile f).length<z.code.getD (pc+2) 0)
  (k:∀p,Ends z r N ⟨pc,p,handed,om,loops,inner,fs,some false⟩):Ends z r (N+1) ⟨pc,pos,handed,om,loops,inner,fs,none⟩:=by
 refine bq (fun se=>?_) (k pos)
 rw[bV rfl hc]
 unfold M.exec
 rw[bU ho]
 have hroom:((z.lim:Int)-(pos:Int)).toNat=w.length:=by have:=hw.1;exact Om.o151 this
 obtain⟨se',e⟩:=lS (n:=m) hw ha (by exact Om.o150 hm) 0 ((se.add (z.code.getD pc 0)).add (z.code.getD (pc+4) 0))
 by_cases q:((z.code.getD (pc+2) 0:Nat):Int) > (z.lim:Int)-(pos:Int)
 ·refine⟨se.add (z.code.getD pc 0),?_⟩
  show (if ((z.code.getD (pc+2) 0:Nat):Int) > (z.lim:Int)-(pos:Int) then _ else match Sre.run z.code z.text (pc+4) (min (z.code.getD (pc+3) 0) ((z.lim:Int)-(pos:Int)).toNat) pos 0 ((se.add (z.code.getD pc 0)).add (z.code.getD (pc+4) 0)) with | .error why=>_ | .ok (n,seen)=>_)=_
  rw[if_pos q];rfl
 ·refine⟨se',?_⟩
  show (if ((z.code.getD (pc+2) 0:Nat):Int) > (z.lim:Int)-(pos:Int) then _ else match Sre.run z.code z.text (pc+4) (min (z.code.getD (pc+3) 0) ((z.lim:Int)-(pos:Int)).toNat) pos 0 ((se.add (z.code.getD pc 0)).add (z.code.getD (pc+4) 0)) with | .error why=>_ | .ok (n,seen)=>_)=_
  rw[if_neg q,hroom,hm,e]
  show (if 0+((w.take m).takeWhile f).length<z.code.getD (pc+2) 0 then _ else _)=_
  rw[if_pos (by exact Om.o149 hl)];rfl
theorem oe {pc0 pos0 p n:Nat}{om0 wh:Bool}(hr:room fs)(hl:z.code.getD (pc+2) 0≤n)
  (k:Ends z r N ⟨pc+1+z.code.getD (pc+1) 0,p,p,om,loops,inner,{wait:=.giveBack,pc,pos:=p,om,count:=n,whole:=wh}::fs,none⟩) :
  Ends z r (N+1) ⟨pc0,pos0,handed,om0,loops,inner,{wait:=.giveBack,pc,pos:=p+1,om,count:=(n+1:Nat),whole:=wh}::fs,some false⟩:=by
 refine bq (fun se=>⟨se,?_⟩) k
 have e:(((n+1:Nat):Int)-1)=(n:Int):=by exact Om.o88
 cases wh <;>
 ·show (if ((n+1:Nat):Int)-1<((z.code.getD (pc+2) 0:Nat):Int) then _ else _)=_
  rw[if_neg (by exact Om.o148 hl)]
  exact (bn (a:=⟨pc,p,handed,om,loops,inner,fs,none⟩) (x:={wait:=.giveBack,pc,pos:=p,om,count:=((n+1:Nat):Int)-1,whole:=_}) hr).trans (by simp only[e];rfl)
theorem n4 {pc0 pos0 p n:Nat}{om0 wh:Bool}(hl:n≤z.code.getD (pc+2) 0)(k:Ends z r N ⟨pc,p,handed,om,loops,inner,fs,some false⟩) :
  Ends z r (N+1) ⟨pc0,pos0,handed,om0,loops,inner,{wait:=.giveBack,pc,pos:=p,om,count:=(n:Nat),whole:=wh}::fs,some false⟩:=by
 refine bq (fun se=>⟨se,?_⟩) k
 cases wh <;>
 ·show (if ((n:Nat):Int)-1<((z.code.getD (pc+2) 0:Nat):Int) then _ else _)=_
  rw[if_pos (by exact Om.o147 hl)];rfl
theorem rep (ho:ops[z.code.getD pc 0]?=some .REPEAT)(hc:pc<z.code.size)(hr:room fs)
  (k:Ends z r N ⟨pc+1+z.code.getD (pc+1) 0,pos,pos,om,loops.push {pc,outer:=inner},some loops.size,{wait:=.closeLoop,pc,pos,om,loop:=loops.size}::fs,none⟩):Ends z r (N+1) ⟨pc,pos,handed,om,loops,inner,fs,none⟩:=by
 refine bq (fun se=>⟨se.add (z.code.getD pc 0),?_⟩) k
 rw[bV rfl hc]
 unfold M.exec
 rw[bU ho]
 exact bn (a:=⟨pc,pos,handed,om,loops.push {pc,outer:=inner},some loops.size,fs,none⟩) (x:={wait:=.closeLoop,pc,pos,om,loop:=loops.size}) hr
theorem bR (ho:ops[z.code.getD pc 0]?=some .MAX_UNTIL)(hc:pc<z.code.size)(hr:room fs){i:Nat}{l:Loop}(hl:loops.getD i dfl=l)(h0:decide (l.count+1<((z.code.getD (l.pc+2) 0:Nat):Int))=false)
  (hm:decide (l.count+1<((z.code.getD (l.pc+3) 0:Nat):Int))=true) (hb:l.began≠some pos)
  (k:Ends z r N ⟨l.pc+4,pos,pos,om,loops.modify i (fun l=>{l with count:=l.count+1,began:=some pos}),some i,{wait:=.maxMore,pc:=pc+1,pos,om,loop:=i,count:=l.count+1,whole:=true,began:=l.began}::fs,none⟩) :
  Ends z r (N+1) ⟨pc,pos,handed,om,loops,some i,fs,none⟩:=by
 refine bq (fun se=>⟨se.add (z.code.getD pc 0),?_⟩) k
 rw[bV rfl hc]
 unfold M.exec
 rw[bU ho]
 have hmod:(loops.modify i fun l'=>{l' with count:=l.count+1,began:=some pos})=loops.modify i (fun l=>{l with count:=l.count+1,began:=some pos}):=by
  subst hl
  apply Array.ext
  ·simp
  ·intro j h1 h2
   simp only[Array.getElem_modify,Array.getElem_modify]
   by_cases e:i=j
   ·subst e;rw[if_pos rfl,if_pos rfl]
    have:i<loops.size:=by simpa using h1
    simp[Array.getD,this]
   ·simp only[if_neg e,if_neg e]
 subst hl
 show (if (loops.getD i dfl).count+1<((z.code.getD ((loops.getD i dfl).pc+2) 0:Nat):Int) then _ else if (!true)=true then _ else if ((decide ((loops.getD i dfl).count+1<((z.code.getD ((loops.getD i dfl).pc+3) 0:Nat):Int))||z.code.getD ((loops.getD i dfl).pc+3) 0==maxRepeat)&&(loops.getD i dfl).began != some pos)=true then _ else _)=_
 rw[if_neg (of_decide_eq_false h0),if_neg (by decide),if_pos (by simp only[hm,Bool.true_or,Bool.true_and];exact bne_iff_ne.mpr hb)]
 simp only[←hmod]
 exact bn (a:=⟨pc+1,pos,handed,om,_,some i,fs,none⟩) (x:={wait:=.maxMore,pc:=pc+1,pos,om,loop:=i,count:=(loops.getD i dfl).count+1,whole:=true,began:=(loops.getD i dfl).began}) hr
theorem gc (ho:ops[z.code.getD pc 0]?=some .MAX_UNTIL)(hc:pc<z.code.size)(hr:room fs){i:Nat}{l:Loop}(hl:loops.getD i dfl=l)(h0:decide (l.count+1<((z.code.getD (l.pc+2) 0:Nat):Int))=false)
  (hm:decide (l.count+1<((z.code.getD (l.pc+3) 0:Nat):Int))=false) (hx:(z.code.getD (l.pc+3) 0==maxRepeat)=false)
  (k:Ends z r N ⟨pc+1,pos,pos,om,loops,l.outer,{wait:=.maxTail,pc:=pc+1,pos,om,loop:=i,count:=l.count+1}::fs,none⟩) :
  Ends z r (N+1) ⟨pc,pos,handed,om,loops,some i,fs,none⟩:=by
 refine bq (fun se=>⟨se.add (z.code.getD pc 0),?_⟩) k
 rw[bV rfl hc]
 unfold M.exec
 rw[bU ho]
 subst hl
 show (if (loops.getD i dfl).count+1<((z.code.getD ((loops.getD i dfl).pc+2) 0:Nat):Int) then _ else if (!true)=true then _ else if ((decide ((loops.getD i dfl).count+1<((z.code.getD ((loops.getD i dfl).pc+3) 0:Nat):Int))||z.code.getD ((loops.getD i dfl).pc+3) 0==maxRepeat)&&(loops.getD i dfl).began != some pos)=true then _ else _)=_
 rw[if_neg (of_decide_eq_false h0),if_neg (by decide),if_neg (by simp only[hm,hx];exact Bool.false_ne_true)]
 exact bn (a:=⟨pc+1,pos,handed,om,loops,(loops.getD i dfl).outer,fs,none⟩) (x:={wait:=.maxTail,pc:=pc+1,pos,om,loop:=i,count:=(loops.getD i dfl).count+1}) hr
theorem eQ {pc0 pos0:Nat}{om0:Bool}{i:Nat}{n:Int}{b:Option Nat}(hr:room fs){ls:Array Loop}(hls:(loops.modify i fun l=>{l with began:=b}).modify i (fun l=>{l with count:=n-1})=ls)
  (k:Ends z r N ⟨pc,pos,pos,om,ls,(ls.getD i dfl).outer,{wait:=.maxTail,pc,pos,om,loop:=i,count:=n}::fs,none⟩) :
  Ends z r (N+1) ⟨pc0,pos0,handed,om0,loops,inner,{wait:=.maxMore,pc,pos,om,loop:=i,count:=n,whole:=true,began:=b}::fs,some false⟩:=by
 refine bq (fun se=>⟨se,?_⟩) k
 subst hls
 exact bn (a:=⟨pc,pos,handed,om,_,_,fs,none⟩) (x:={wait:=.maxTail,pc,pos,om,loop:=i,count:=n}) hr
theorem s7 {pc0 pos0:Nat}{om0 wh:Bool}{i:Nat}{n:Int}{b:Option Nat}(k:Ends z r N ⟨pc,pos,handed,om,loops,some i,fs,some false⟩) :
  Ends z r (N+1) ⟨pc0,pos0,handed,om0,loops,inner,{wait:=.maxTail,pc,pos,om,loop:=i,count:=n,whole:=wh,began:=b}::fs,some false⟩:=bq (fun se=>⟨se,rfl⟩) k
theorem qZ {pc0 pos0:Nat}{om0 wh:Bool}{i:Nat}{n:Int}{b:Option Nat}(k:Ends z r N ⟨pc,pos,handed,om,loops.pop,(loops.getD i dfl).outer,fs,some false⟩) :
  Ends z r (N+1) ⟨pc0,pos0,handed,om0,loops,inner,{wait:=.closeLoop,pc,pos,om,loop:=i,count:=n,whole:=wh,began:=b}::fs,some false⟩:=bq (fun se=>⟨se,rfl⟩) k
theorem f5 (ho:ops[z.code.getD pc 0]?=some .ASSERT_NOT)(hc:pc<z.code.size)(hr:room fs)(h2:z.code.getD (pc+2) 0=0)
  (k:Ends z r N ⟨pc+3,pos,pos,false,loops,inner,{wait:=.lookNot,pc,pos,om,whole:=inner.isSome}::fs,none⟩):Ends z r (N+1) ⟨pc,pos,handed,om,loops,inner,fs,none⟩:=by
 refine bq (fun se=>⟨se.add (z.code.getD pc 0),?_⟩) k
 rw[bV rfl hc]
 unfold M.exec
 rw[bU ho]
 show (if pos<z.code.getD (pc+2) 0 then _ else M.attempt _ _ (pc+3) (pos-z.code.getD (pc+2) 0) false)=_
 rw[h2,if_neg (by exact Om.o146)]
 cases inner<;>exact bn (a:=⟨pc,pos,handed,om,loops,_,fs,none⟩) (x:={wait:=.lookNot,pc,pos,om,whole:=_}) hr
theorem rP {pc0 pos0:Nat}{om0 wh:Bool}{i:Nat}{n:Int}{b:Option Nat}(k:Ends z r N ⟨pc,pos,handed,om,loops,inner,fs,some false⟩) :
  Ends z r (N+1) ⟨pc0,pos0,handed,om0,loops,inner,{wait:=.lookNot,pc,pos,om,loop:=i,count:=n,whole:=wh,began:=b}::fs,some true⟩:=bq (fun se=>⟨se,rfl⟩) k
theorem tW {pc0 pos0:Nat}{om0 wh:Bool}{i:Nat}{n:Int}{b:Option Nat}(k:Ends z r N ⟨pc+1+z.code.getD (pc+1) 0,pos,handed,om,loops,inner,fs,none⟩) :
  Ends z r (N+1) ⟨pc0,pos0,handed,om0,loops,inner,{wait:=.lookNot,pc,pos,om,loop:=i,count:=n,whole:=wh,began:=b}::fs,some false⟩:=by
 cases wh<;>exact bq (fun se=>⟨se,rfl⟩) k
end
end Re
end Mine
end
section
namespace Mine
namespace Re
open PySem PySem.Sre
noncomputable def chewC:Array Nat:=#[14,4,0,1,4294967295,24,17,1,4294967295,13,12,21,9,0,908,939524096,671088640,0,0,0,0,0,1,1]
noncomputable def junkC:Array Nat:=#[14,4,0,1,4294967295,24,11,0,4294967295,13,6,16,32,16,9,0,1,23,16,0,1,16,35,13,4,8,13,0,24,5,0,4294967295,2,1,18,16,10,1]
noncomputable def special (c:Nat):Bool:=c==91||c==93||c==40||c==41||c==123||c==125||c==35||c==39||c==34||c==92
noncomputable def ord_ (c:Nat):Bool:=!special c
noncomputable def bH (c:Nat):Bool:=c==32||c==9
noncomputable def ii (c:Nat):Bool:=(9≤c&&c≤13)||(28≤c&&c≤31)||c==32
theorem wM {p:Nat→Bool}(h:(List.range 128).all p=true){c:Nat}(hc:c<128):p c=true:=List.all_eq_true.mp h c (List.mem_range.mpr hc)
theorem de {code:Array Nat}{pc:Nat}{f:Nat→Bool}(h:((List.range 128).all fun c=>acc code pc c==some (f c))=true){c:Nat}(hc:c<128):acc code pc c=some (f c):=by
 simpa using wM h hc
theorem qx:((List.range 128).all fun c=>acc chewC 9 c==some (ord_ c))=true:=by decide +kernel
theorem l5:((List.range 128).all fun c=>acc junkC 9 c==some (bH c))=true:=by decide +kernel
theorem dT:((List.range 128).all fun c=>acc junkC 21 c==some (c==35))=true:=by decide +kernel
theorem kC:((List.range 128).all fun c=>acc junkC 23 c==some (!ii c))=true:=by decide +kernel
theorem qf:((List.range 128).all fun c=>acc junkC 32 c==some (c != 10))=true:=by decide +kernel
theorem jy:((List.range 128).all fun c=>acc junkC 35 c==some (c==10))=true:=by decide +kernel
def Low (w:List Nat):Prop:=∀c∈w,c<128
noncomputable def start (pc pos:Nat):A:=⟨pc,pos,pos,true,#[],none,[],none⟩
theorem ac {a b:Nat}(h:Nat.ble (a+1) b=true):a<b:=Nat.le_of_ble_eq_true h
theorem nh {a b:Nat}(h:Nat.ble a b=true):a≤b:=Nat.le_of_ble_eq_true h
theorem cM {n:Nat}(h:n≤4294967295):min 4294967295 n=n:=by exact Om.o163 h
theorem aj {f:Fr}{fs:List Fr}(h:f.passes=true)(k:∀f∈fs,f.passes=true):∀g∈f::fs,g.passes=true:=by
 intro g hg;cases hg with|head=>exact h|tail _ h=>exact k g h
theorem cA:∀f∈([]:List Fr),f.passes=true:=fun _ h=>by contradiction
theorem chew_ok {text:Array Nat}{lim st pos:Nat}{w:List Nat}(hw:At ⟨chewC,text,lim,st⟩ pos w)(hl:Low w)(hn:w.length≤4294967295) :
  Ends ⟨chewC,text,lim,st⟩ (if (w.takeWhile ord_).length=0 then none else some (pos+(w.takeWhile ord_).length)) 4 (start 5 pos):=by
 have ha:∀c∈w,acc chewC 9 c=some (ord_ c):=fun c hc=>de qx (hl c hc)
 have ht:w.take w.length=w:=List.take_length
 by_cases q:(w.takeWhile ord_).length=0
 ·rw[if_pos q]
  refine (oy (N:=1) rfl (ac rfl) hw ha (m:=w.length) (cM hn) (by rw[ht,q];exact ac rfl) fun p=>fin_no).mono (by decide)
 ·rw[if_neg q]
  have hle:(w.takeWhile ord_).length≤w.length:=(List.takeWhile_sublist _).length_le
  refine (cI (N:=3) rfl (ac rfl) (ac rfl) hw ha (m:=w.length) (cM hn) (n:=(w.takeWhile ord_).length) (by rw[ht]) (Nat.pos_of_ne_zero q) (Nat.le_trans (Nat.pos_of_ne_zero q) hle) ?_).mono (by decide)
  refine dg (pc:=23) rfl (ac rfl) ((dq (aj rfl cA)).mono (nh rfl))
noncomputable def junkB (w:List Nat):Bool:=match w.dropWhile bH with
 |10::_=>true
 |35::c::_=>!ii c
 |_=>false
section
variable {text:Array Nat}{lim st:Nat}
variable {p n N h:Nat}{w:List Nat}{r:Option Nat}
noncomputable abbrev jG (p n:Nat):Fr:={wait:=.giveBack,pc:=5,pos:=p,om:=true,count:=n}
noncomputable abbrev jC (p:Nat):Fr:={wait:=.closeLoop,pc:=17,pos:=p,om:=true,loop:=0}
noncomputable abbrev jM (p:Nat):Fr:={wait:=.maxMore,pc:=35,pos:=p,om:=true,loop:=0,count:=0,whole:=true}
noncomputable abbrev jZ (text:Array Nat) (lim st:Nat):Z:=⟨junkC,text,lim,st⟩
abbrev No (z:Z) (r:Option Nat) (N:Nat) (loops:Array Loop) (inner:Option Nat) (fs:List Fr):Prop:=∀h pc pos om,Ends z r N ⟨pc,pos,h,om,loops,inner,fs,some false⟩
theorem ju {z:Z}{pc pos N h:Nat}{om:Bool}{loops:Array Loop}{inner:Option Nat}{fs:List Fr}{op:Op}(ho:ops[z.code.getD pc 0]?=some op)(h1:nN op=true)(hc:pc<z.code.size){f:Nat→Bool}
  (hf:((List.range 128).all fun c=>acc z.code pc c==some (f c))=true) {w:List Nat} (hw:At z pos w) (hl:Low w) (hno:∀c s,w=c::s→f c=false) (k:No z r N loops inner fs):Ends z r (N+1) ⟨pc,pos,h,om,loops,inner,fs,none⟩:=by
 refine lN ho h1 hc (fun hp=>?_) (k _ _ _ _)
 cases w with
 |nil=>have:=hw.nil;exact (Om.o87 hp this).elim
 |cons c s=>rw[hw.sign,de hf (hl c (.head _)),hno c s rfl]
theorem eV {z:Z}{pc pos N h c:Nat}{om:Bool}{loops:Array Loop}{inner:Option Nat}{fs:List Fr}{op:Op}(ho:ops[z.code.getD pc 0]?=some op)(h1:nN op=true)(hc:pc<z.code.size){f:Nat→Bool}
  (hf:((List.range 128).all fun c=>acc z.code pc c==some (f c))=true) {w:List Nat} (hw:At z pos (c::w)) (hl:Low (c::w)) (hy:f c=true) (k:Ends z r N ⟨pc+itemWidth z.code pc,pos+1,h,om,loops,inner,fs,none⟩):Ends z r (N+1) ⟨pc,pos,h,om,loops,inner,fs,none⟩:=
 jD ho h1 hc hw.lt (by rw[hw.sign,de hf (hl c (.head _)),hy]) k
theorem jN (hw:At (jZ text lim st) p w)(hl:Low w)(hno:∀c s,w=c::s→c≠10)(k:No (jZ text lim st) r N #[] none [jG p n]) :
  No (jZ text lim st) r (N+4) #[⟨17,0,some p,none⟩] (some 0) [jM p,jC p,jG p n]:=by
 intro h pc pos om
 refine eQ (ls:=#[⟨17,-1,none,none⟩]) (ac rfl) rfl ?_
 refine ju (op:=.LITERAL) rfl rfl (ac rfl) jy hw hl (fun c s e=>by simpa using hno c s e) fun h pc pos om=>?_
 exact s7 (qZ (k _ _ _ _))
theorem nD (hw:At (jZ text lim st) p w)(hl:Low w)(hno:∀c s,w=c::s→c≠10∧(c=35→∀d t,s=d::t→ii d=true))(k:No (jZ text lim st) r N #[] none [jG p n]) :
  Ends (jZ text lim st) r (N+8) ⟨17,p,h,true,#[],none,[jG p n],none⟩:=by
 have k':=jN hw hl (fun c s e=>(hno c s e).1) k
 refine rep rfl (ac rfl) (ac rfl) ?_
 refine bR (pc:=34) (i:=0) (l:=⟨17,-1,none,none⟩) rfl (ac rfl) (ac rfl) rfl rfl rfl (fun e=>by contradiction) ?_
 by_cases q:∃s,w=35::s
 ·obtain⟨s,rfl⟩:=q
  refine eV (pc:=21) (op:=.LITERAL) rfl rfl (ac rfl) dT hw hl rfl ?_
  exact ju (pc:=23) (op:=.IN) rfl rfl (ac rfl) kC hw.next (fun c hc=>hl c (.tail _ hc)) (fun d t e=>by rw[(hno 35 s rfl).2 rfl d t e];rfl) k'
 ·refine (ju (pc:=21) (op:=.LITERAL) rfl rfl (ac rfl) dT hw hl (fun c s e=>?_) k').mono (by exact Om.o162)
  cases hc:(c==35) with
  |false=>rfl
  |true=>exact absurd ⟨s,by rw[e,eq_of_beq hc]⟩ q
theorem ly (hw:At (jZ text lim st) p (10::w))(hl:Low (10::w)):Ends (jZ text lim st) (some (p+1)) 10 ⟨17,p,h,true,#[],none,[jG p n],none⟩:=by
 refine (rep (N:=9) rfl (ac rfl) (ac rfl) ?_)
 refine bR (pc:=34) (i:=0) (l:=⟨17,-1,none,none⟩) rfl (ac rfl) (ac rfl) rfl rfl rfl (fun e=>by contradiction) ?_
 refine ju (pc:=21) (op:=.LITERAL) rfl rfl (ac rfl) dT hw hl (fun c s e=>by (injection e with e;subst e);rfl) fun h pc pos om=>?_
 refine eQ (ls:=#[⟨17,-1,none,none⟩]) (ac rfl) rfl ?_
 refine eV (pc:=35) (op:=.LITERAL) rfl rfl (ac rfl) jy hw hl rfl ?_
 exact dg (pc:=37) rfl (ac rfl) ((dq (aj rfl (aj rfl (aj rfl cA)))).mono (nh rfl))
theorem jm {d:Nat}{u v:List Nat}(hw:At (jZ text lim st) p (35::d::(u++10::v)))(hl:Low (35::d::(u++10::v)))(hd:ii d=false)(hu:∀c∈u,(c != 10)=true)(hn:(u++10::v).length≤4294967295) :
  Ends (jZ text lim st) (some (p+2+u.length+1)) 14 ⟨17,p,h,true,#[],none,[jG p n],none⟩:=by
 refine (rep (N:=13) rfl (ac rfl) (ac rfl) ?_)
 refine bR (pc:=34) (i:=0) (l:=⟨17,-1,none,none⟩) rfl (ac rfl) (ac rfl) rfl rfl rfl (fun e=>by contradiction) ?_
 have l1:Low (d::(u++10::v)):=fun c hc=>hl c (.tail _ hc)
 have l2:Low (u++10::v):=fun c hc=>l1 c (.tail _ hc)
 refine eV (pc:=21) (op:=.LITERAL) rfl rfl (ac rfl) dT hw hl rfl ?_
 refine eV (pc:=23) (op:=.IN) rfl rfl (ac rfl) kC hw.next l1 (by rw[hd];rfl) ?_
 have tw:(u++10::v).takeWhile (fun c=>c != 10)=u:=by
  rw[List.takeWhile_append_of_pos hu];simp
 refine cI (pc:=28) (f:=fun c=>c != 10) rfl (ac rfl) (ac rfl) hw.next.next (fun c hc=>de qf (l2 c hc)) (cM hn) (n:=u.length) (by rw[List.take_length,tw]) (nh rfl) (Nat.zero_le _) ?_
 refine gc (pc:=34) (i:=0) (l:=⟨17,0,some p,none⟩) rfl (ac rfl) (ac rfl) rfl rfl rfl rfl ?_
 have hw':=hw.next.next.drop (n:=u.length) (by simp)
 rw[List.drop_left] at hw'
 refine eV (pc:=35) (op:=.LITERAL) rfl rfl (ac rfl) jy hw' (fun c hc=>l2 c (List.mem_append_right _ hc)) rfl ?_
 exact dg (pc:=37) rfl (ac rfl) ((dq (aj rfl (aj rfl (aj rfl (aj rfl (aj rfl cA)))))).mono (nh rfl))
theorem tw_drop (f:Nat→Bool):∀w:List Nat,w.drop (w.takeWhile f).length=w.dropWhile f
 | []=>rfl
 |c::w=>by
  rw[List.takeWhile_cons,List.dropWhile_cons]
  cases f c with
  |true=>exact tw_drop f w
  |false=>rfl
theorem tw_take (f:Nat→Bool):∀w:List Nat,w.take (w.takeWhile f).length=w.takeWhile f
 | []=>rfl
 |c::w=>by
  rw[List.takeWhile_cons]
  cases f c with
  |true=>exact congrArg _ (tw_take f w)
  |false=>rfl
theorem tw_all (f:Nat→Bool):∀(w:List Nat) (c:Nat),c∈w.takeWhile f→f c=true
 | [],c,h=>by contradiction
 |d::w,c,h=>by
  rw[List.takeWhile_cons] at h
  cases q:f d with
  |true=>
   rw[q] at h
   rcases List.mem_cons.mp h with h|h
   ·rw[h];exact q
   ·exact tw_all f w c h
  |false=>rw[q] at h;contradiction
theorem iK:∀{n:Nat},At (jZ text lim st) p w→Low w→n≤w.length→(∀c∈w.take n,bH c=true)→No (jZ text lim st) none (9*n+2) #[] none [jG (p+n) n]
 |0,hw,hl,hn,hb=>fun h pc pos om=>n4 (Nat.zero_le _) fin_no
 |n+1,hw,hl,hn,hb=>fun h pc pos om=>by
  have ih:=iK (n:=n) hw hl (by exact Om.o73 hn) (fun c hc=>hb c (by rw[List.take_add_one];exact List.mem_append_left _ hc))
  refine (oe (N:=9*n+2+8) (p:=p+n) (ac rfl) (Nat.zero_le _) ?_).mono (by exact Om.o161)
  have hw':=hw.drop (n:=n) (by exact Om.o73 hn)
  refine nD hw' (fun c hc=>hl c (List.mem_of_mem_drop hc)) (fun c s e=>?_) ih
  have hc:bH c=true:=by
   refine hb c ?_
   have:w[n]?=some c:=by rw[←List.head?_drop,e];rfl
   rw[List.take_add_one,this];exact List.mem_append_right _ (.head _)
  constructor
  ·rintro rfl;contradiction
  ·rintro rfl;contradiction
theorem junk_ok (hw:At (jZ text lim st) p w)(hl:Low w)(hn:w.length≤4294967295)(hnl:10∈w) :
  ∃r,r.isSome=junkB w∧Ends (jZ text lim st) r (9*w.length+20) (start 5 p):=by
 have e:w=w.takeWhile bH++w.dropWhile bH:=(List.takeWhile_append_dropWhile ..).symm
 have hlen:(w.takeWhile bH).length≤w.length:=(List.takeWhile_sublist _).length_le
 have hd:=tw_drop bH w
 have htk:=tw_take bH w
 have hall:=tw_all bH w
 have hw':=hw.drop (n:=(w.takeWhile bH).length) hlen
 rw[hd] at hw'
 have hl':Low (w.dropWhile bH):=fun c hc=>hl c ((List.dropWhile_sublist _).mem hc)
 have first:∀{r N},Ends (jZ text lim st) r N ⟨17,p+(w.takeWhile bH).length,p+(w.takeWhile bH).length,true,#[],none,[jG (p+(w.takeWhile bH).length) (w.takeWhile bH).length],none⟩→Ends (jZ text lim st) r (N+1) (start 5 p):=fun k=>
  cI (pc:=5) (f:=bH) rfl (ac rfl) (ac rfl) hw (fun c hc=>de l5 (hl c hc)) (cM hn) (n:=(w.takeWhile bH).length) (by rw[List.take_length]) (Nat.zero_le _) (Nat.zero_le _) k
 have noC:(∀c s,w.dropWhile bH=c::s→c≠10∧(c=35→∀d t,s=d::t→ii d=true))→Ends (jZ text lim st) none (9*w.length+20) (start 5 p):=fun hno=>
  (first (nD hw' hl' hno (iK (n:=(w.takeWhile bH).length) hw hl hlen (by rw[htk];exact hall)))).mono (by exact Om.o160 hlen)
 unfold junkB
 split
 ·rename_i s e1
  rw[e1] at hw' hl'
  exact⟨_,rfl,(first (ly hw' hl')).mono (by exact Om.o159)⟩
 ·rename_i c s e1
  cases hs:ii c with
  |true=>
   refine⟨none,rfl,noC fun a b e2=>?_⟩
   rw[e1] at e2;(injection e2 with e2 e2_;subst e2 e2_)
   exact⟨by decide,fun _ d t e3=>by (injection e3 with e3;subst e3);exact hs⟩
  |false=>
   have hin:10∈s:=by
    have h1:10∈w.dropWhile bH:=by
     rw[e] at hnl
     rcases List.mem_append.mp hnl with h|h
     ·exact absurd (hall 10 h) (by decide)
     ·exact h
    rw[e1] at h1
    rcases List.mem_cons.mp h1 with h|h
    ·exact absurd h (by decide)
    ·rcases List.mem_cons.mp h with h|h
     ·rw[←h] at hs;exact absurd hs (by decide)
     ·exact h
   have hs1:s=s.takeWhile (fun c=>c != 10)++s.dropWhile (fun c=>c != 10):=(List.takeWhile_append_dropWhile ..).symm
   obtain⟨v,hv⟩:∃v,s.dropWhile (fun c=>c != 10)=10::v:=by
    cases hdw:s.dropWhile (fun c=>c != 10) with
    |nil=>
     rw[hdw,List.append_nil] at hs1
     rw[hs1] at hin
     exact absurd (tw_all _ _ _ hin) (by decide)
    |cons a v=>
     have:=List.head?_dropWhile_not (fun c=>c != 10) s
     rw[hdw] at this
     have:a=10:=by simpa using this
     rw[this];exact⟨v,rfl⟩
   rw[hv] at hs1
   rw[e1] at hw' hl'
   have hlen2:s.length≤4294967295:=by
    have:(w.dropWhile bH).length≤w.length:=(List.dropWhile_sublist _).length_le
    rw[e1] at this;simp only[List.length_cons] at this;exact Om.o158 hn this
   rw[hs1] at hw' hl' hlen2
   exact⟨_,rfl,(first (jm hw' hl' hs (tw_all _ _) hlen2)).mono (by exact Om.o157)⟩
 ·rename_i h1 h2
  refine⟨none,rfl,noC fun c s e1=>⟨?_,?_⟩⟩
  ·rintro rfl;exact h1 s e1
  ·rintro rfl d t rfl;exact absurd e1 (h2 d t)
end
end Re
end Mine
end
section
namespace Mine
open PySem PyProof.Rows PySem.W PySem.Builtin PySem.Builtin.Re
noncomputable abbrev mId:String:="re.Pattern.match"
noncomputable abbrev vz (pv fv:Value) (tup:Addr):Obj:={cls:=.type "re.Pattern",data:=.fields #[pv,fv,.int 0 0,.none,.none,.ref tup,.int 0 0]}
noncomputable abbrev wP (sv:Value) (pat:Addr) (a b:Nat) (tup:Addr):Obj:={cls:=.type "re.Match",data:=.fields #[sv,.ref pat,.int a 0,.int b 0,.int (-1) 0,.ref tup]}
theorem oc:isSubtype (.type "re.Pattern") (.type "module")=pure false:=by rw[isSubtype_type];kernel_rfl
theorem mf:builtinKind mId=some .method:=by decide +kernel
theorem kt:entryFor table mId=some Builtin.«re.Pattern.match»:=entryFor_of_tree (by kernel_rfl)
theorem kQ (a b c:Value):(match Manifest.signature? mId with|some sig=>Bind.checkArgs mId {sig with full:=toString (Bind.lastOf "re.Pattern")++toString "."++toString (Bind.lastOf mId)} ⟨[a,b,c],[]⟩|none=>pure ())=pure ():=by kernel_rfl
theorem kW (a b c d:Value):(match Manifest.signature? mId with|some sig=>Bind.checkArgs mId {sig with full:=toString (Bind.lastOf "re.Pattern")++toString "."++toString (Bind.lastOf mId)} ⟨[a,b,c,d],[]⟩|none=>pure ())=pure ():=by kernel_rfl
theorem wH (a b:Value):reNamed mId "match" ["string","pos","endpos"] 1 [a,b] []=pure [some a,some b,none]:=by rfl
theorem vy (a b c:Value):reNamed mId "match" ["string","pos","endpos"] 1 [a,b,c] []=pure [some a,some b,some c]:=by rfl
section
open Sre
theorem pC {m:M}(h:m.outcome.isSome=true):m.step=m:=by unfold M.step;rw[if_pos h]
theorem fT {m:M}(h:m.outcome.isSome=true):∀n,Re.it n m=m
 |0=>rfl
 |n+1=>by show Re.it n m.step=m;rw[pC h];exact fT h n
theorem iQ:∀(n:Nat) (m:M),M.runFor n m=Re.it n m
 |0,m=>rfl
 |n+1,m=>by
  unfold M.runFor
  cases h:m.outcome.isSome with
  |true=>rw[if_pos rfl];exact (fT h _).symm
  |false=>rw[if_neg (by decide)];exact iQ n m.step
theorem jx:∀(a b:Nat) (m:M),Re.it (a+b) m=Re.it b (Re.it a m)
 |0,b,m=>by rw[Nat.zero_add];rfl
 |a+1,b,m=>by rw[Nat.add_right_comm];exact jx a b m.step
end
section
variable {M:Model}{A:Around}{E:Value→Shared→Prop}{s:Shared}
theorem kU:∀{turns n:Nat} {m:Sre.M} {Q:Sre.M→Shared→Prop},n<4*turns→(Re.it n m).outcome.isSome=true→Q (Re.it n m) s→wpAny M A (reDrive turns m) Q E s
 |0,n,m,Q,hn,_,_=>absurd hn (by exact Om.o167)
 |turns+1,n,m,Q,hn,ho,h=>by
  unfold reDrive reTurnSteps
  show wpAny M A (if (Sre.M.runFor 4 m).outcome.isSome=true then pure (Sre.M.runFor 4 m) else _) Q E s
  rw[iQ]
  by_cases q:n≤4
  ·have e:Re.it 4 m=Re.it n m:=by
    rw[show 4=n+(4-n) by exact Om.o166 q,jx];exact fT ho _
   rw[e,if_pos ho];exact wpAny_pure h
  ·cases hs:(Re.it 4 m).outcome.isSome with
   |true=>
    have e:Re.it n m=Re.it 4 m:=by rw[show n=4+(n-4) by exact Om.o165 q,jx];exact fT hs _
    rw[if_pos rfl];rw[e] at h;exact wpAny_pure h
   |false=>
    rw[if_neg (by decide)]
    refine wpAny_bind (wpAny_rule ?_)
    have e:Re.it n m=Re.it (n-4) (Re.it 4 m):=by rw[←jx];congr 1;exact Om.o165 q
    rw[e] at ho h
    exact kU (by exact Om.o164 hn q) ho h
theorem fZ {m:Sre.M}{Q:PUnit→Shared→Prop}(h:Q ⟨⟩ s):∀(l:List Nat),wpAny M A (forIn l PUnit.unit fun i (_:PUnit)=>if m.seen.has i=true then (do rule (Sre.names.getD i "");pure (ForInStep.yield PUnit.unit)) else pure (ForInStep.yield PUnit.unit)) Q E s
 | []=>by rw[List.forIn_nil];exact wpAny_pure h
 |i::l=>by
  rw[List.forIn_cons]
  refine wpAny_bind ?_
  split
  ·exact wpAny_bind (wpAny_rule (wpAny_pure (fZ h l)))
  ·exact wpAny_pure (fZ h l)
theorem ud {z:Re.Z}{r:Option Nat}{N:Nat}{a:Re.A}{se:Sre.Seen}{Q:Option Sre.M→Shared→Prop}(h:Re.Ends z r N a)(hN:N<2 ^ 60)
  (hq:match r with|some e=>∀m:Sre.M,m.start=z.start→m.lastindex=-1→m.handed=e→Q (some m) s|none=>Q none s):wpAny M A (reRunToEnd (Re.mk z a se)) Q E s:=by
 obtain⟨n,hn,h1,h2,h3⟩:=h se
 unfold reRunToEnd
 refine wpAny_bind (kU (n:=n) (by omega) ?_ ?_)
 ·cases r with
  |none=>rw[h3];rfl
  |some e=>rw[h3.1];rfl
 ·refine wpAny_bind ?_
  refine fZ ?_ _
  cases r with
  |none=>rw[h3];exact wpAny_pure hq
  |some e=>rw[h3.1];exact wpAny_pure (hq _ h1 h2 h3.2)
end
section
variable {M:Model}{A:Around}{E:Value→Shared→Prop}{s:Shared}
theorem gU {i:Int}{t:Tok}{Q:Int→Shared→Prop}(h0:0≤i)(h1:i≤1048576)(h:Q i s):wpAny M A (reSsize (.int i t)) Q E s:=by
 unfold reSsize
 refine wpAny_bind (wpAny_of_eq (a:=i) rfl ?_)
 have e:(decide (i < -(2 ^ 63))||decide (i ≥ 2 ^ 63))=false:=by rw[decide_eq_false (by omega),decide_eq_false (by omega)];rfl
 show wpAny M A (if (decide (i < -(2 ^ 63))||decide (i ≥ 2 ^ 63))=true then _ else _) Q E s
 rw[e,if_neg (by decide)]
 exact wpAny_pure h
structure PatAt (h:Heap)(m pat:Addr)(code:Array Nat):Prop where
 fn:h.get? m=some (kJ mId pat)
 ob:∃pv fv tup ep,h.get? pat=some (vz pv fv tup)∧h.get? tup=some (bj "tuple" (code.toList.map fun (w:Nat)=>rawInt w) ep)
theorem qj (code:Array Nat):(((code.toList.map fun (w:Nat)=>rawInt w).toArray).map reRawOf).map (·.toNat)=code:=by
 apply Array.ext
 ·simp
 ·intro i h1 h2;simp[rawInt,reRawOf]
theorem gH {m pat:Addr}{code:Array Nat}(P:PatAt s.heap m pat code){x:Str}{t:Tok}{pos lim:Int}{Q:ReTarget→Shared→Prop}
  (h:Q {pattern:=.ref pat,string:=.str x t,code,text:=x.cps,kind:=0,groups:=0,pos:=min pos.toNat x.cps.size,lim:=min lim.toNat x.cps.size} s) :
  wpAny M A (do
   let fs ←fieldsOf (.ref pat)
   let (text,kind) ←reTextOf (.str x t)
   let want:=reRawNat (fs.getD 6 .none)
   if want==0&&kind==1 then raiseError "TypeError" "cannot use a string pattern on a bytes-like object"
   if want==1&&kind==0 then raiseError "TypeError" "cannot use a bytes pattern on a string-like object"
   reNoCollectionInside (.str x t) kind
   let clip (i:Int):Nat:=min i.toNat text.size
   pure {pattern:=.ref pat,string:=.str x t,code:=(←reRawItems (fs.getD 5 .none)).map (·.toNat),text,kind,groups:=reRawNat (fs.getD 2 .none),pos:=clip pos,lim:=clip lim:ReTarget}) Q E s:=by
 obtain⟨pv,fv,tup,ep,h1,h2⟩:=P.ob
 refine wpAny_bind (wpAny_fieldsOf h1 rfl ?_)
 refine wpAny_bind (wpAny_of_eq (a:=(x.cps,0)) rfl ?_)
 refine wpAny_bind (wpAny_of_eq (a:=()) rfl ?_)
 refine wpAny_bind ?_
 show wpAny M A (seqItems? (.ref tup)>>=fun o=>pure ((o.getD #[]).map reRawOf)) _ E s
 refine wpAny_bind (wpAny_seqItems h2 rfl (wpAny_pure ?_))
 show wpAny M A (pure {pattern:=.ref pat,string:=.str x t,code:=(((code.toList.map fun (w:Nat)=>rawInt w).toArray).map reRawOf).map (·.toNat),text:=x.cps,kind:=0,groups:=0,pos:=min pos.toNat x.cps.size,lim:=min lim.toNat x.cps.size:ReTarget}) Q E s
 rw[qj]
 exact wpAny_pure h
theorem uE {m pat:Addr}{code:Array Nat}(P:PatAt s.heap m pat code){x:Str}{t tp:Tok}{pos:Int}(h0:0≤pos)(h1:pos≤1048576)(hx:x.cps.size≤1048576){Q:ReTarget→Shared→Prop}
  (h:Q {pattern:=.ref pat,string:=.str x t,code,text:=x.cps,kind:=0,groups:=0,pos:=min pos.toNat x.cps.size,lim:=x.cps.size} s) :
  wpAny M A (reTarget mId "match" ⟨[.ref pat,.str x t,.int pos tp],[]⟩) Q E s:=by
 unfold reTarget
 refine wpAny_bind (wpAny_of_eq (wH _ _) ?_)
 refine wpAny_bind (gU h0 h1 ?_)
 refine wpAny_bind (wpAny_of_eq (a:=(2 ^ 63-1:Int)) rfl ?_)
 refine gH P ?_
 have e:min ((2 ^ 63-1:Int)).toNat x.cps.size=x.cps.size:=by
  have:((2 ^ 63-1:Int)).toNat=9223372036854775807:=by decide
  rw[this];exact Om.o170 hx
 rw[e];exact h
theorem sU {m pat:Addr}{code:Array Nat}(P:PatAt s.heap m pat code){x:Str}{t tp tq:Tok}{pos lim:Int}(h0:0≤pos)(h1:pos≤1048576)(h2:0≤lim)(h3:lim≤1048576){Q:ReTarget→Shared→Prop}
  (h:Q {pattern:=.ref pat,string:=.str x t,code,text:=x.cps,kind:=0,groups:=0,pos:=min pos.toNat x.cps.size,lim:=min lim.toNat x.cps.size} s) :
  wpAny M A (reTarget mId "match" ⟨[.ref pat,.str x t,.int pos tp,.int lim tq],[]⟩) Q E s:=by
 unfold reTarget
 refine wpAny_bind (wpAny_of_eq (vy _ _ _) ?_)
 refine wpAny_bind (gU h0 h1 ?_)
 refine wpAny_bind (gU h2 h3 ?_)
 exact gH P h
def zp (s:Shared)(sv:Value)(pat:Addr)(pos lim:Nat)(Q:Value→Shared→Prop):Option Nat→Prop
 |none=>Q .none s
 |some e=>Q (.ref (s.heap.objs.size+1)) {s with heap:=(s.heap.push (bj "tuple" [rawInt pos,rawInt e] 0)).push (wP sv pat pos lim s.heap.objs.size)}
theorem ku {code text:Array Nat}{pos lim:Nat}(h:(Sre.header code).1≤lim-pos):∃se,Sre.forMatch code text 0 pos lim false false=Re.mk ⟨code,text,lim,pos⟩ (Re.start (Sre.header code).2 pos) se:=by
 unfold Sre.forMatch
 refine⟨if (Sre.header code).2==0 then {} else ({}:Sre.Seen).add 14,?_⟩
 rw[if_neg (by simp only[Bool.and_eq_true,decide_eq_true_eq,not_and];intro _ _;exact Om.o169 h ‹_›)]
 rfl
theorem gt {code text:Array Nat}{pos lim:Nat}(hl:pos≤lim)(h:lim-pos<(Sre.header code).1):∃se,Sre.forMatch code text 0 pos lim false false=Re.mk ⟨code,text,lim,pos⟩ {Re.start (Sre.header code).2 pos with answer:=some false} se:=by
 unfold Sre.forMatch
 refine⟨if (Sre.header code).2==0 then {} else ({}:Sre.Seen).add 14,?_⟩
 rw[if_pos (by simp only[Bool.and_eq_true,decide_eq_true_eq,bne_iff_ne];exact Om.o168 hl h)]
 rfl
theorem pB {code text:Array Nat}{pos lim N:Nat}{sv:Value}{pat:Addr}{r:Option Nat}(hl:pos≤lim)(hN:N<2 ^ 60)(hN1:1≤N)(hr:Re.Ends ⟨code,text,lim,pos⟩ r N (Re.start (Sre.header code).2 pos)∧(Sre.header code).1≤lim-pos∨r=none∧lim-pos<(Sre.header code).1){Q:Fin→Shared→Prop}
  (h:zp s sv pat pos lim (fun v s=>Q (.done (.ret v)) s) r) :
  wpAny M A (reAnswer {pattern:=.ref pat,string:=sv,code,text,kind:=0,groups:=0,pos,lim} (Sre.forMatch code text 0 pos lim false false)) Q E s:=by
 have go:∀{a se},Re.Ends ⟨code,text,lim,pos⟩ r N a→wpAny M A (reAnswer {pattern:=.ref pat,string:=sv,code,text,kind:=0,groups:=0,pos,lim} (Re.mk ⟨code,text,lim,pos⟩ a se)) Q E s:=by
  intro a se he
  unfold reAnswer
  refine wpAny_bind (ud he hN ?_)
  cases r with
  |none=>exact wpAny_pure h
  |some e=>
   intro m h1 h2 h3
   refine wpAny_bind ?_
   unfold reNewMatch
   refine wpAny_bind (wpAny_newTuple ?_ ?_)
   ·rw[h1,h3]
    refine wpAny_newObj_type ?_ (by show (6:Nat)≤sizeLine+2;rw[sizeLine_eq];decide)
    show wpAny M A (ret (.ref (s.heap.push _).objs.size)) Q E _
    rw[Heap.size_push,h2]
    exact wpAny_pure h
   ·show (2:Nat)≤sizeLine;rw[sizeLine_eq];decide
 rcases hr with ⟨he,h1⟩|⟨rfl,h1⟩
 ·obtain⟨se,e⟩:=ku (text:=text) h1
  rw[e];exact go he
 ·obtain⟨se,e⟩:=gt (text:=text) hl h1
  rw[e];exact go (Re.Ends.mono Re.fin_no hN1)
end
section
variable {prog:Program}{w:World}{A:Around}{E:Value→Shared→Prop}{s:Shared}{m pat:Addr}{code:Array Nat}
theorem lQ {pv fv:Value}{tup:Addr}(hG:s.heap.get? pat=some (vz pv fv tup)){Q:Bool→Shared→Prop}(h:Q false s):wpAny (model prog w) A (isType (.ref pat)) Q E s:=by
 have hT:s.TypeIs (.ref pat) "re.Pattern":=⟨_,hG,rfl⟩
 unfold isType
 repeat (any_goals (first|assumption|wp_step))
theorem kI {args:List Value}(hG:∃pv fv tup,s.heap.get? pat=some (vz pv fv tup)){Q:Unit→Shared→Prop}
  (ht:(match Manifest.signature? mId with|some sig=>Bind.checkArgs mId {sig with full:=toString (Bind.lastOf "re.Pattern")++toString "."++toString (Bind.lastOf mId)} ⟨.ref pat::args,[]⟩|none=>pure ())=pure ()) (h:Q () s) :
  wpAny (model prog w) A (checkBoundCall mId ⟨.ref pat::args,[]⟩) Q E s:=by
 obtain⟨pv,fv,tup,hG⟩:=hG
 have hT:s.TypeIs (.ref pat) "re.Pattern":=⟨_,hG,rfl⟩
 unfold checkBoundCall
 cases hsig:Manifest.signature? mId with
 |none=>exact wpAny_pure h
 |some sig=>
  rw[hsig] at ht
  simp only[mf]
  rw[if_neg (by decide)]
  refine wpAny_bind (wpAny_isInstance hT oc ?_)
  rw[if_neg (by decide +kernel)]
  refine wpAny_bind (lQ hG ?_)
  rw[if_neg (by decide)]
  refine wpAny_bind (wpAny_typeOf hT ?_)
  exact wpAny_of_eq ht h
end
section
variable {prog:Program}{w:World}{A:Around}{s:Shared}{m pat:Addr}{code:Array Nat}
theorem lA {args:List Value}(P:PatAt s.heap m pat code){R:Result→Shared→Prop}
  (ht:(match Manifest.signature? mId with|some sig=>Bind.checkArgs mId {sig with full:=toString (Bind.lastOf "re.Pattern")++toString "."++toString (Bind.lastOf mId)} ⟨.ref pat::args,[]⟩|none=>pure ())=pure ())
  (h:∀(A':Around) (E:Value→Shared→Prop),wpAny (model prog w) A' (Builtin.«re.Pattern.match» ⟨.ref pat::args,[]⟩) (fun f s'=>∃v,f=.done (.ret v)∧R (.ok (.ret v)) s') E s):codeAny (model prog w) A (.call (.ref m) ⟨args,[]⟩) R s:=by
 refine codeAny_of_tree ?_
 refine wpAny_bind (wpAny_load P.fn ?_)
 show wpAny _ A.in1 (if (Value.type "builtin_function_or_method" != Value.type "method")=true then (do checkBoundCall mId ⟨.ref pat::args,[]⟩;again (.builtin mId ⟨.ref pat::args,[]⟩)) else _) _ _ _
 rw[if_pos (by decide)]
 refine aA fun G9 back9=>?_;obtain⟨pv,fv,tup,ep,h1,h2⟩:=P.ob;refine back9 ?_
 refine wpAny_bind (kI ⟨_,_,_,h1⟩ ht (wpAny_pure ?_))
 refine⟨Code.quiet_builtin _ (by decide +kernel),?_⟩
 refine codeAny_builtin kt ?_
 refine wpAny_mono (h _ _) (fun f s' hf=>?_) (fun _ _ x=>x)
 obtain⟨v,rfl,hv⟩:=hf
 exact hv
end
noncomputable def aS (code:Array Nat):Spec:=fun vs c K=>∃(x:Str) (p q:Nat) (r:Option Nat) (N:Nat),
 (vs=[.d (.str x),.d (.int p)]∧q=x.length∨vs=[.d (.str x),.d (.int p),.d (.int q)])∧p≤q∧q≤x.length∧x.length≤big∧(1≤N∧N<2 ^ 60)∧
 (Re.Ends ⟨code,x.cps,q,p⟩ r N (Re.start (Sre.header code).2 p)∧(Sre.header code).1≤q-p∨r=none∧q-p<(Sre.header code).1)∧
 match r with
 |some e=>K (.mt e) c
 |none=>K (.d .none) c
theorem eu {M:Model}{h:Heap}{m pat:Addr}{code:Array Nat}(P:PatAt h m pat code):∃k,Looks M h (keeperOf (.ref m)) k:=by
 refine⟨.machine,fun A Q E s k q=>?_⟩
 unfold keeperOf
 refine wpAny_bind (wpAny_load (k _ _ P.fn) ?_)
 exact wpAny_pure q
theorem PatAt.keeps {h h':Heap}{m pat:Addr}{code:Array Nat}(P:PatAt h m pat code)(k:∀b o,h.get? b=some o→h'.get? b=some o):PatAt h' m pat code:=by
 obtain⟨pv,fv,tup,ep,h1,h2⟩:=P.ob
 exact⟨k _ _ P.fn,pv,fv,tup,ep,k _ _ h1,k _ _ h2⟩
theorem mA {prog:Program}{w:World}{hb:Heap}{d:Nat}{m pat:Addr}{code:Array Nat}(P:PatAt hb m pat code):FnOk prog w hb d m (aS code):=by
 intro A _ vs ws c α s K R hs C iv hsp hq
 obtain⟨x,p,q,r,N,hv,hpq,hql,hxl,⟨hN1,hN⟩,he,hK⟩:=hsp
 have P':=P.keeps C.base
 have hxs:x.cps.size=x.length:=rfl
 unfold big at hxl
 have fin:∀{t:Tok} {A':Around} {E:Value→Shared→Prop},wpAny (model prog w) A' (reAnswer {pattern:=.ref pat,string:=.str x t,code,text:=x.cps,kind:=0,groups:=0,pos:=p,lim:=q} (Sre.forMatch code x.cps 0 p q false false)) (fun f s'=>∃v,f=.done (.ret v)∧R (.ok (.ret v)) s') E s:=by
  intro t A' E
  refine pB hpq hN hN1 he ?_
  cases r with
  |none=>exact⟨_,rfl,hq _ c α _ s.heap s.toks hK C (Le.refl ..) .none⟩
  |some e=>
   refine⟨_,rfl,?_⟩
   have hk:∀b o,s.heap.get? b=some o→((s.heap.push (bj "tuple" [rawInt p,rawInt e] 0)).push (wP (.str x t) pat p q s.heap.objs.size)).get? b=some o:=fun b o g=>Heap.get?_push_of_some _ (Heap.get?_push_of_some _ g)
   obtain⟨C',L'⟩:=C.keeps hk
   refine hq _ c α _ _ s.toks hK C' L' ⟨_,rfl,⟨⟨#[.str x t,.ref pat,.int p 0,.int q 0,.int (-1) 0,.ref s.heap.objs.size],s.heap.objs.size,p,0,?_,rfl,Heap.get?_push_of_some _ (Heap.get?_push_size _ rfl),a9 C⟩,?_⟩⟩
   ·have:=Heap.get?_push_size (s.heap.push (bj "tuple" [rawInt p,rawInt e] 0)) (o:=wP (.str x t) pat p q s.heap.objs.size) rfl
    rw[Heap.size_push] at this;exact this
   ·rintro⟨k,hk,e⟩
    obtain⟨q,g⟩:=C.ex hk
    rw[e] at g
    exact absurd (Heap.lt_size g) (by show ¬s.heap.objs.size+1<s.heap.objs.size;exact Om.o177)
 rcases hv with ⟨rfl,rfl⟩|rfl
 ·refine aA fun G9 back9=>?_;obtain⟨v,v',rfl,i,j⟩:=iv.two;refine back9 ?_
  cases i;cases j
  refine lA P' (kQ _ _ _) fun A' E=>?_
  unfold Builtin.«re.Pattern.match»
  refine wpAny_bind (uE P' (by exact Om.o72) (by exact Om.o176 hxl hpq) (by exact Om.o175 hxl) ?_)
  rw[show min ((p:Int)).toNat x.cps.size=p by exact Om.o171 hpq]
  exact fin
 ·obtain⟨u,us,rfl,i1,ir⟩:=iv.uncons
  obtain⟨v,v',rfl,i2,i3⟩:=ir.two
  cases i1;cases i2;cases i3
  refine lA P' (kW _ _ _ _) fun A' E=>?_
  unfold Builtin.«re.Pattern.match»
  refine wpAny_bind (sU P' (by exact Om.o72) (by exact Om.o174 hpq hql hxl) (by exact Om.o72) (by exact Om.o173 hql hxl) ?_)
  simp only[show min ((p:Int)).toNat x.cps.size=p by exact Om.o172 hpq hql,show min ((q:Int)).toNat x.cps.size=q by exact Om.o171 hql]
  exact fin
end Mine
end
section
namespace Mine
open PySem PyProof.Rows PySem.W
noncomputable def fB:List IS:=[.asg 4 (.bin .Add (.meth (.v 1) .rfind [(.c (.str ⟨#[10]⟩)),(.c (.int 0)),(.bin .Sub (.v 4) (.c (.int 1)))]) (.c (.int 1)))]
noncomputable def vX:IS:=.for_ 6 (.call (.g (.bi .range)) [(.item (.v 2) (.bin .Sub (.v 3) (.c (.int 1)))),(.item (.v 2) (.v 3))] none) fB
noncomputable def l1B (jr:Addr):List IS:=[.assert (.v 4),.asg 5 (.v 4),vX,
 .if_ (.call (.g (.val (.ref jr))) [(.v 1),(.v 4)] none) [.asg 3 (.bin .Sub (.v 3) (.c (.int 1)))] [.brk]]
noncomputable abbrev S1 (k:Nat) (x:Str) (gl:List Nat) (i p q nn:Option V):Sl:=[some (.obj k),some (.d (.str x)),some (.d (.lst (aP gl))),i,p,q,nn,none,none,none,none,none,none,none]
noncomputable abbrev I_ (i:Nat):Option V:=some (.d (.int (i:Nat)))
noncomputable def bd (x:Str)(gl:List Nat):Nat→Nat×Nat
 |0=>(0,0)
 |i+1=>if Re.junkB ((sg x).drop (ar (sg x) (gl.getD i 0)))=true then bd x gl i else (ar (sg x) (gl.getD i 0),ar (sg x) (gl.getD (i+1) 0))
section
variable {P:Pm}{pr:List Nat}{k:Nat}{x:Str}{gl:List Nat}{c:aa}
theorem uS (hk:k∈dom c)(hc:b6 c c c)(hp:∀j∈pr,j∈dom c){i p:Nat}{q q' nn nn':Option V}(hq:q'=none∨∃d,q=some (.d d)∧q'=q)(hn:nn'=none∨∃d,nn=some (.d d)∧nn'=nn) :
  Wk pr ⟨S1 k x gl (I_ i) (I_ p) q nn,c⟩ ⟨S1 k x gl (I_ i) (I_ p) q' nn',c⟩:=by
 refine⟨?_,rfl,hc,hp⟩
 refine⟨⟨_,rfl,.inl ⟨rfl,hk⟩⟩,⟨_,rfl,vD _ _ _⟩,⟨_,rfl,vD _ _ _⟩,⟨_,rfl,vD _ _ _⟩,⟨_,rfl,vD _ _ _⟩,?_⟩
 have tl:slW (S1 k x gl (I_ i) (I_ p) q nn) c c 7 [none,none,none,none,none,none,none]:=trivial
 have tn:slW (S1 k x gl (I_ i) (I_ p) q nn) c c 6 (nn'::[none,none,none,none,none,none,none]):=by
  rcases hn with rfl|⟨d,e,rfl⟩
  ·exact tl
  ·rw[e];exact⟨⟨_,e▸rfl,vD _ _ _⟩,tl⟩
 rcases hq with rfl|⟨d,e,rfl⟩
 ·exact tn
 ·rw[e];rw[e] at tn;exact⟨⟨_,rfl,vD _ _ _⟩,tn⟩
theorem lc {l:List Nat}{i a:Nat}(h:l[i]?=some a):(aP l)[i]?=some (.int (a:Nat)):=by simp[aP,h]
theorem t0 {a b j:Nat}{d:D}(h:(bQ (a:Int) (b:Int))[j]?=some d):a+j<b:=by
 unfold bQ at h
 have:=(List.getElem?_eq_some_iff.mp h).1
 simp at this;exact Om.o194 this
theorem uJ (a b:Nat):(bQ (a:Int) (b:Int)).length=b-a:=by simp[bQ]
theorem gX {n:Nat}{f e1 e2:IE}{kk:Option Nat}{l:Sl}{u v1 v2:V}{K:V→aa→Prop}(hf:∀K':V→aa→Prop,K' u c→wpE P (n+3) f l c K')(h1:∀K':V→aa→Prop,K' v1 c→wpE P (n+2) e1 l c K')(h2:∀K':V→aa→Prop,K' v2 c→wpE P (n+1) e2 l c K')
  (h:ef P c kk u [v1,v2] K):wpE P (n+4) (.call f [e1,e2] kk) l c K:=by
 rw[e6]
 refine hf _ ?_
 rw[aZ]
 refine h1 _ ?_
 rw[aZ]
 refine h2 _ ?_
 exact h
theorem iP {i a:Nat}(h:gl[i]?=some a)(hl:gl.length≤big){K:D→Prop}(hK:K (.int (a:Nat))):ee c (.d (.lst (aP gl))) (.d (.int (i:Nat))) K:=by
 have hi:=(List.getElem?_eq_some_iff.mp h).1
 have hl':(aP gl).length=gl.length:=by simp[aP]
 refine⟨by rw[hl'];exact hl,i,.int (a:Nat),?_,lc h,hK⟩
 rw[hl']
 unfold seqIndex?
 have h1:¬((i:Int)<0):=by exact Om.o17
 simp only[h1,if_false]
 rw[decide_eq_true (by exact Om.o72),decide_eq_true (by exact Om.o53 hi)]
 simp
theorem qu (hk:k∈dom c)(hc:b6 c c c)(hp:∀j∈pr,j∈dom c)(T:TextOk x){n i a b:Nat}(ha:gl[i]?=some a)(hb:gl[i+1]?=some b)(hab:a<b)(hbn:b≤nls (sg x))(hgl:gl.length≤big){K:F→Sg'→Prop}
  (h:∀nn,(nn=none∨∃d,nn=some (.d d))→K .next ⟨S1 k x gl (I_ (i+1)) (I_ (ar (sg x) a)) (I_ (ar (sg x) b)) nn,c⟩) {nn:Option V} (hnn:nn=none∨∃d,nn=some (.d d)) :
  wpS P pr (n+20) vX ⟨S1 k x gl (I_ (i+1)) (I_ (ar (sg x) b)) (I_ (ar (sg x) b)) nn,c⟩ K:=by
 have hbx:b≤big:=by
  have h1:=eE (sg x) (m:=b-1) (n:=b) (by exact Om.o105 hab) hbn
  have h2:∀m,m≤nls (sg x)→m≤ar (sg x) m:=by
   intro m
   induction m with
   |zero=>intro _;exact Nat.zero_le _
   |succ m ih=>intro hm;have:=eE (sg x) (m:=m) (n:=m+1) (by exact Om.o43) hm;have:=ih (by exact Om.o73 hm);exact Om.o193 ‹_› this
  have h3:=h2 b hbn
  have h4:=ip (sg x) b hbn
  have:=T.len
  exact Om.o192 h3 h4 this
 have hlx:=T.len
 have hle:ar (sg x) b≤(sg x).length:=ip (sg x) b hbn
 have hsl:=aB x
 unfold vX
 rw[jn]
 refine gX (n:=n+15) (u:=.bi .range) (v1:=.d (.int (a:Nat))) (v2:=.d (.int (b:Nat))) (fun K' h=>h) (fun K' h=>?_) (fun K' h=>?_) ?_
 ·refine bN (n:=n+16) (.d (.lst (aP gl))) (.d (.int (i:Nat))) (fun K' h=>h) (fun K' h=>?_) (iP ha hgl h)
  have e:(((i+1:Nat):Int)-1)=(i:Nat):=by exact Om.o88
  show K' (.d (.int (((i+1:Nat):Int)-1))) c
  rw[e];exact h
 ·exact bN (n:=n+15) (.d (.lst (aP gl))) (.d (.int ((i+1:Nat)))) (fun K' h=>h) (fun K' h=>h) (iP hb hgl h)
 unfold big at hbx
 refine⟨⟨by exact Om.o190,by exact Om.o191 hab hbx,by exact Om.o190,by exact Om.o189 hbx⟩,bQ (a:Int) (b:Int),rfl,fun j τ=>∃nn,(nn=none∨∃d,nn=some (.d d))∧j≤b-a∧τ=⟨S1 k x gl (I_ (i+1)) (I_ (ar (sg x) (b-j))) (I_ (ar (sg x) b)) nn,c⟩,⟨nn,hnn,Nat.zero_le _,rfl⟩,?_,?_⟩
 ·rintro j d τ hd ⟨nn,hn,hj,rfl⟩
  have hj':=t0 hd
  have hm:b-j-1<nls (sg x):=by exact Om.o188 hbn hj'
  have bk:=yB (x:=x) hm
  rw[show b-j-1+1=b-j by exact Om.o187 hj'] at bk
  have hpos:0<ar (sg x) (b-j):=by have:=eE (sg x) (m:=0) (n:=b-j) (by exact Om.o186 hj') (by exact Om.o185 hbn);rw[bY] at this;exact this
  have hle':ar (sg x) (b-j)≤(sg x).length:=ip (sg x) (b-j) (by exact Om.o185 hbn)
  refine⟨by show 6<14;exact Om.o184,?_⟩
  unfold fB
  refine aq (n:=n+17) (.d (.int ((ar (sg x) (b-(j+1)):Nat)))) (fun K' h=>?_) ?_
  ·refine⟨rfl,rfl,⟨by decide,?_,?_⟩,?_⟩
   ·show (0:Int)≤((ar (sg x) (b-j):Nat):Int)-1;exact Om.o183 hpos
   ·show ((ar (sg x) (b-j):Nat):Int)-1≤((x.length:Nat):Int);exact Om.o182 hle'
   ·show K' (.d (.int (cP x ⟨#[10]⟩ (0:Int).toNat (((ar (sg x) (b-j):Nat):Int)-1).toNat+1))) c
    rw[show (((ar (sg x) (b-j):Nat):Int)-1).toNat=ar (sg x) (b-j)-1 by exact Om.o181,show (0:Int).toNat=0 from rfl,bk,show b-j-1=b-(j+1) by exact Om.o180]
    exact h
  ·refine al ⟨_,uS hk hc hp (.inr ⟨_,rfl,rfl⟩) (.inr ⟨d,rfl,rfl⟩),some (.d d),.inr ⟨d,rfl⟩,by exact Om.o179 hj',rfl⟩
 ·rintro τ ⟨nn,hn,hj,rfl⟩
  rw[uJ,show b-(b-a)=a by exact Om.o178 hab]
  exact h nn hn
end
theorem rU (x:Str){p q st:Nat}{code:Array Nat}(hpq:p≤q)(hq:q≤x.length):Re.At ⟨code,x.cps,q,st⟩ p (((sg x).take q).drop p):=by
 have hl:=aB x
 refine⟨by show p+(((sg x).take q).drop p).length=q;rw[List.length_drop,List.length_take];exact Om.o203 hpq hq,fun i c h=>?_⟩
 rw[List.getElem?_drop,List.getElem?_take] at h
 split at h
 ·have h':x.cps[p+i]?=some c:=by rw[←Array.getElem?_toList];exact h
  show x.cps.getD (p+i) 0=c
  rw[Array.getD_eq_getD_getElem?,h'];rfl
 ·contradiction
theorem lI {x:Str}(T:TextOk x)(p q:Nat):Re.Low (((sg x).take q).drop p):=fun c hc=>T.ascii c (List.mem_of_mem_take (List.mem_of_mem_drop hc))
section
variable {P:Pm}{pr:List Nat}{k:Nat}{x:Str}{gl:List Nat}{c:aa}
theorem uj (T:TextOk x){p:Nat}(hp:p<x.length):10∈(sg x).drop p:=by
 have hl:=aB x
 rcases T.ends with h|h
 ·rw[h] at hl;simp at hl;exact (Om.o202 hp hl).elim
 ·rw[List.getLast?_eq_getElem?] at h
  have:((sg x).drop p)[(sg x).length-1-p]?=some 10:=by rw[List.getElem?_drop,show p+((sg x).length-1-p)=(sg x).length-1 by exact Om.o201 hp];exact h
  exact List.mem_of_getElem? this
theorem oF {jr:Addr}(T:TextOk x)(hj:P.isFn jr=true)(hjf:P.fn jr=aS Re.junkC){p n:Nat}(hp:p<x.length){l:Sl}(h1:aI l 1=some (.d (.str x)))(h4:aI l 4=some (.d (.int (p:Nat))))(K':Bool→aa→Prop)(h:K' (Re.junkB ((sg x).drop p)) c) :
  wpT P (n+5) (.call (.g (.val (.ref jr))) [(.v 1),(.v 4)] none) l c K':=by
 have hl:=aB x
 have hT:=T.len
 have hb:x.length≤big:=by exact Om.o63 hT
 have e:((sg x).take x.length).drop p=(sg x).drop p:=by rw[←hl,List.take_length]
 have hA:=rU x (p:=p) (q:=x.length) (st:=p) (code:=Re.junkC) (by exact Om.o58 hp) (Nat.le_refl _)
 rw[e] at hA
 have hlow:Re.Low ((sg x).drop p):=e▸lI T p x.length
 have hlen:((sg x).drop p).length≤1048576:=by rw[List.length_drop];unfold big at hT;exact Om.o200 hT
 obtain⟨r,hr,he⟩:=Re.junk_ok (text:=x.cps) (lim:=x.length) (st:=p) hA hlow (by exact Om.o199 hlen) (uj T hp)
 show wpE P (n+4) (.call (.g (.val (.ref jr))) [(.v 1),(.v 4)] none) l c (fun u c1=>bJ c1 u fun r=>K' r c1)
 refine gX (n:=n) (u:=.val (.ref jr)) (v1:=.d (.str x)) (v2:=.d (.int (p:Nat))) (fun K' h=>h) (bv h1) (bv h4) ?_
 refine⟨hj,?_⟩
 rw[hjf]
 refine⟨x,p,x.length,r,_,.inl ⟨rfl,rfl⟩,by exact Om.o58 hp,Nat.le_refl _,hb,⟨?_,?_⟩,.inl ⟨he,by show 1≤x.length-p;exact Om.o198 hp⟩,?_⟩
 ·exact Om.o197
 ·omega
 ·cases r with
  |none=>exact⟨fun _ q=>q,by rw[←hr] at h;exact h⟩
  |some e=>exact⟨fun _ q=>q,by rw[←hr] at h;exact h⟩
theorem rO {jr:Addr}(T:TextOk x)(G:GoodOk x gl)(hgl:gl.length≤big)(hj:P.isFn jr=true)(hjf:P.fn jr=aS Re.junkC)(hk:k∈dom c)(hc:b6 c c c)(hp:∀j∈pr,j∈dom c){n:Nat}{K:F→Sg'→Prop}
  (h0:bd x gl (gl.length-1)=(0,0)→K .next ⟨S1 k x gl (I_ 0) (I_ 0) none none,c⟩)
  (h1:∀i a b nn,(nn=none∨∃d,nn=some (.d d))→gl[i]?=some a→gl[i+1]?=some b→bd x gl (gl.length-1)=(ar (sg x) a,ar (sg x) b)→K .next ⟨S1 k x gl (I_ (i+1)) (I_ (ar (sg x) a)) (I_ (ar (sg x) b)) nn,c⟩) :
  wpS P pr (n+30) (.while_ (.v 3) (l1B jr) []) ⟨S1 k x gl (I_ (gl.length-1)) (I_ x.length) none none,c⟩ K:=by
 have hlx:=aB x
 have hlast:=G.last
 rw[List.getLast?_eq_getElem?] at hlast
 refine⟨fun k' τ=>∃i g,k'=i∧gl[i]?=some g∧bd x gl i=bd x gl (gl.length-1)∧τ=⟨S1 k x gl (I_ i) (I_ (ar (sg x) g)) none none,c⟩,gl.length-1,⟨_,_,rfl,hlast,rfl,by rw[mi (sg x) T.ends,hlx]⟩,?_⟩
 rintro i τ ⟨_,g,rfl,hg,hst,rfl⟩
 show ((((i:Nat):Int) != 0)=true→_)∧((((i:Nat):Int) != 0)=false→_)
 refine⟨fun hne=>?_,fun he=>?_⟩
 ·cases i with
  |zero=>contradiction
  |succ i=>
   have hi1:=(List.getElem?_eq_some_iff.mp hg).1
   obtain⟨a,ha⟩:∃a,gl[i]?=some a:=⟨_,List.getElem?_eq_getElem (by exact Om.o120 hi1)⟩
   obtain⟨hab,hbn⟩:=G.at_ ha hg
   have hpos:ar (sg x) a<ar (sg x) g:=eE (sg x) hab hbn
   have hle:=ip (sg x) g hbn
   unfold l1B
   refine b9 (n:=n+27) (c':=c) (fun K' h=>?_) ?_
   ·show K' (((ar (sg x) g:Nat):Int) != 0) c
    rw[show ((((ar (sg x) g:Nat):Int) != 0)=true) from bne_iff_ne.mpr (by exact Om.o196 hpos)];exact h
   refine aq (n:=n+26) (.d (.int ((ar (sg x) g:Nat)))) (fun K' h=>h) ?_
   refine cG (n:=n+26) (qu (n:=n+6) hk hc hp T ha hg hab hbn hgl (fun nn hnn=>?_) (.inl rfl))
   have jk:bd x gl (i+1)=if Re.junkB ((sg x).drop (ar (sg x) a))=true then bd x gl i else (ar (sg x) a,ar (sg x) g):=by
    rw[bd,List.getD_eq_getElem?_getD,List.getD_eq_getElem?_getD,ha,hg];rfl
   refine bb (n:=n+24) (Re.junkB ((sg x).drop (ar (sg x) a))) (c':=c) (fun K' h=>oF (n:=n+19) T hj hjf (by exact Om.o195 hpos hle) rfl rfl K' h) ?_
   cases hq:Re.junkB ((sg x).drop (ar (sg x) a)) with
   |true=>
    rw[hq,if_pos rfl] at jk
    refine aq (n:=n+22) (.d (.int ((i:Nat)))) (fun K' h=>?_) (al (al ⟨i,_,Nat.lt_succ_self _,uS (i:=i) hk hc hp (.inl rfl) (.inl rfl),i,a,rfl,ha,jk▸hst,rfl⟩))
    have e:(((i+1:Nat):Int)-1)=(i:Nat):=by exact Om.o88
    show K' (.d (.int (((i+1:Nat):Int)-1))) c
    rw[e];exact h
   |false=>
    rw[hq,if_neg (by decide)] at jk
    exact h1 i a g nn hnn ha hg (by rw[←hst,jk])
 ·have hi0:i=0:=by
   have:((i:Nat):Int)=0:=by simpa using he
   exact Om.o49 this
  subst hi0
  have:g=0:=by
   have h2:=G.hd
   rw[List.head?_eq_getElem?,hg] at h2
   cases h2;rfl
  subst this
  rw[bY]
  exact al (h0 (by rw[←hst];rfl))
end
end Mine
end
section
namespace Mine
namespace Re
open PySem PySem.Sre
noncomputable def strC:Array Nat:=#[14,9,4,1,4294967295,16,34,16,39,0,7,72,16,34,16,34,16,34,24,12,0,4294967295,13,7,21,16,34,16,92,0,1,23,37,0,4294967295,7,6,16,92,3,15,15,13,16,34,5,7,0,16,34,16,34,1,15,2,0,24,12,0,4294967295,13,7,21,16,34,16,92,0,1,18,23,9,0,1,16,34,16,34,16,34,18,15,186,56,16,34,24,17,0,4294967295,13,12,21,9,1024,4,268435456,0,0,0,0,0,0,1,23,24,0,4294967295,16,92,3,24,17,0,4294967295,13,12,21,9,1024,4,268435456,0,0,0,0,0,0,1,18,24,6,0,1,16,34,1,15,130,72,16,39,16,39,16,39,24,12,0,4294967295,13,7,21,16,39,16,92,0,1,23,37,0,4294967295,7,6,16,92,3,15,15,13,16,39,5,7,0,16,39,16,39,1,15,2,0,24,12,0,4294967295,13,7,21,16,39,16,92,0,1,18,23,9,0,1,16,39,16,39,16,39,18,15,58,56,16,39,24,17,0,4294967295,13,12,21,9,1024,128,268435456,0,0,0,0,0,0,1,23,24,0,4294967295,16,92,3,24,17,0,4294967295,13,12,21,9,1024,128,268435456,0,0,0,0,0,0,1,18,24,6,0,1,16,39,1,15,2,0,1]
noncomputable def qt (b:Bool):Nat:=if b then 39 else 34
noncomputable def of (b:Bool):Nat:=if b then 128 else 0
noncomputable def f3 (q c:Nat):Bool:=c != q&&c != 92
noncomputable def f1 (q c:Nat):Bool:=c != q&&c != 92&&c != 10
noncomputable def sEnd3 (q:Nat):List Nat→Nat
 | []=>0
 | [c]=>if c=92 then 0 else 1
 |c::d::r=>if c=92 then 2+sEnd3 q r else if c=q∧d=q∧r.head?=some q then 3 else 1+sEnd3 q (d::r)
noncomputable def sEnd1 (q:Nat):List Nat→Nat
 | []=>0
 | [c]=>if c=92∨c=10 then 0 else 1
 |c::d::r=>if c=92 then 2+sEnd1 q r else if c=10 then 0 else if c=q then 1 else 1+sEnd1 q (d::r)
theorem fw (q:Nat):∀w:List Nat,sEnd3 q w=(w.takeWhile (f3 q)).length+sEnd3 q (w.dropWhile (f3 q))
 | []=>rfl
 | [c]=>by
  rw[List.takeWhile_cons,List.dropWhile_cons]
  cases h:f3 q c with
  |false=>simp
  |true=>
   have:c≠92:=by rintro rfl;simp[f3] at h
   simp[sEnd3,this]
 |c::d::r=>by
  rw[List.takeWhile_cons,List.dropWhile_cons]
  cases h:f3 q c with
  |false=>simp
  |true=>
   have h1:c≠92:=by rintro rfl;simp[f3] at h
   have h2:c≠q:=by rintro rfl;simp[f3] at h
   rw[if_pos rfl,if_pos rfl,sEnd3,if_neg h1,if_neg (fun e=>h2 e.1),fw q (d::r),List.length_cons];exact Om.o264
theorem ff (q:Nat):∀w:List Nat,sEnd1 q w=(w.takeWhile (f1 q)).length+sEnd1 q (w.dropWhile (f1 q))
 | []=>rfl
 | [c]=>by
  rw[List.takeWhile_cons,List.dropWhile_cons]
  cases h:f1 q c with
  |false=>simp
  |true=>
   have h1:c≠92:=by rintro rfl;simp[f1] at h
   have h2:c≠10:=by rintro rfl;simp[f1] at h
   simp[sEnd1,h1,h2]
 |c::d::r=>by
  rw[List.takeWhile_cons,List.dropWhile_cons]
  cases h:f1 q c with
  |false=>simp
  |true=>
   have h1:c≠92:=by rintro rfl;simp[f1] at h
   have h2:c≠q:=by rintro rfl;simp[f1] at h
   have h3:c≠10:=by rintro rfl;simp[f1] at h
   rw[if_pos rfl,if_pos rfl,sEnd1,if_neg h1,if_neg h3,if_neg h2,ff q (d::r),List.length_cons];exact Om.o264
theorem jl {code:Array Nat}{pc x:Nat}(ho:ops[code.getD pc 0]?=some .LITERAL)(hx:code.getD (pc+1) 0=x)(c:Nat):acc code pc c=some (c==x):=by
 unfold acc accepts;rw[ho,hx];rfl
theorem t7 {code:Array Nat}{pc:Nat}(ho:ops[code.getD pc 0]?=some .ANY_ALL)(c:Nat):acc code pc c=some true:=by
 unfold acc accepts;simp only[ho];rfl
section
variable {z:Z}{r:Option Nat}{N pc pos h x:Nat}{om:Bool}{loops:Array Loop}{inner:Option Nat}{fs:List Fr}{w:List Nat}
theorem lw (ho:ops[z.code.getD pc 0]?=some .LITERAL):itemWidth z.code pc=2:=by unfold itemWidth;rw[ho]
theorem cF (ho:ops[z.code.getD pc 0]?=some .LITERAL)(hc:pc<z.code.size)(hx:z.code.getD (pc+1) 0=x)(hw:At z pos (x::w))(k:Ends z r N ⟨pc+2,pos+1,h,om,loops,inner,fs,none⟩):Ends z r (N+1) ⟨pc,pos,h,om,loops,inner,fs,none⟩:=
 jD ho rfl hc hw.lt (by simp only[hw.sign,jl ho hx,beq_self_eq_true]) (by rw[lw ho];exact k)
theorem d8 (ho:ops[z.code.getD pc 0]?=some .LITERAL)(hc:pc<z.code.size)(hx:z.code.getD (pc+1) 0=x)(hw:At z pos w)(hno:∀s,w≠x::s)(k:No z r N loops inner fs):Ends z r (N+1) ⟨pc,pos,h,om,loops,inner,fs,none⟩:=by
 refine lN ho rfl hc (fun hp=>?_) (k _ _ _ _)
 cases w with
 |nil=>have:=hw.nil;exact (Om.o87 hp this).elim
 |cons c s=>
  rw[hw.sign,jl ho hx]
  cases q:(c==x) with
  |false=>rfl
  |true=>exact absurd (by rw[eq_of_beq q]) (hno s)
theorem yj {c:Nat}(ho:ops[z.code.getD pc 0]?=some .ANY_ALL)(hc:pc<z.code.size)(hw:At z pos (c::w))(k:Ends z r N ⟨pc+1,pos+1,h,om,loops,inner,fs,none⟩):Ends z r (N+1) ⟨pc,pos,h,om,loops,inner,fs,none⟩:=
 jD ho rfl hc hw.lt (t7 ho _) (by rw[show itemWidth z.code pc=1 by unfold itemWidth;rw[ho]];exact k)
theorem yy (ho:ops[z.code.getD pc 0]?=some .ANY_ALL)(hc:pc<z.code.size)(hw:At z pos [])(k:No z r N loops inner fs):Ends z r (N+1) ⟨pc,pos,h,om,loops,inner,fs,none⟩:=
 lN ho rfl hc (fun hp=>by have:=hw.nil;exact (Om.o87 hp this).elim) (k _ _ _ _)
end
theorem in3 (b:Bool):((List.range 128).all fun c=>acc strC (of b+22) c==some (f3 (qt b) c))=true:=by cases b<;>decide +kernel
theorem zy (b:Bool):((List.range 128).all fun c=>acc strC (of b+60) c==some (f3 (qt b) c))=true:=by cases b<;>decide +kernel
theorem in1 (b:Bool):((List.range 128).all fun c=>acc strC (of b+90) c==some (f1 (qt b) c))=true:=by cases b<;>decide +kernel
theorem zD (b:Bool):((List.range 128).all fun c=>acc strC (of b+115) c==some (f1 (qt b) c))=true:=by cases b<;>decide +kernel
section
variable {text:Array Nat}{lim st:Nat}
noncomputable abbrev sZ (text:Array Nat) (lim st:Nat):Z:=⟨strC,text,lim,st⟩
theorem fJ {f:Fr}{fs:List Fr}{n:Nat}(h:fs.length+(n+1)<16777216):(f::fs).length+n<16777216:=by simp only[List.length_cons];exact Om.o263 h
theorem bM {fs:List Fr}{n:Nat}(h:fs.length+n<16777216):room fs:=by unfold room;exact Om.o262 h
theorem oL (b:Bool){pos h:Nat}{w:List Nat}{fs:List Fr}{loops:Array Loop}(hs:loops.size=1)(hw:At (sZ text lim st) pos w)(hp:∀f∈fs,f.passes=true)(hr:fs.length+6<16777216){e:Nat}
  (he:(∃s,w=qt b::qt b::qt b::s)∧e=pos+3∨(¬ ∃s,w=qt b::qt b::qt b::s)∧e=pos) :
  Ends (sZ text lim st) (some e) (fs.length+16) ⟨of b+70,pos,h,true,loops,none,fs,none⟩:=by
 obtain⟨l0,rfl⟩:∃l0,loops=#[l0]:=by
  obtain⟨ls⟩:=loops
  match ls,hs with
  | [l],_=>exact⟨l,rfl⟩
 rcases he with ⟨⟨s,rfl⟩,he⟩|⟨hno,he⟩<;>rw[he]
 ·cases b <;>
  ·refine rep rfl (ac rfl) (bM hr) ?_
   refine bR (i:=1) (l:=⟨_,-1,none,none⟩) rfl (ac rfl) (bM (n:=4) (fJ (by exact Om.o256 hr))) rfl rfl rfl (fun e=>by contradiction) ?_
   refine cF rfl (ac rfl) rfl hw (cF rfl (ac rfl) rfl hw.next (cF rfl (ac rfl) rfl hw.next.next ?_))
   refine gc (i:=1) (l:=⟨_,0,some pos,none⟩) rfl (ac rfl) (bM (n:=3) (fJ (fJ (by exact Om.o261 hr)))) rfl rfl rfl rfl ?_
   refine rL rfl (ac rfl) (dg rfl (ac rfl) ?_)
   exact (dq (aj rfl (aj rfl (aj rfl hp)))).mono (by dsimp only[List.length_cons];exact Om.o260)
 ·have no3:∀N fs',No (sZ text lim st) (some pos) N #[l0,⟨of b+70,0,some pos,none⟩] (some 1) fs'→Ends (sZ text lim st) (some pos) (N+3) ⟨of b+74,pos,pos,true,#[l0,⟨of b+70,0,some pos,none⟩],some 1,fs',none⟩:=by
   intro N fs' k
   by_cases q1:∃s,w=qt b::s
   ·obtain⟨s1,rfl⟩:=q1
    by_cases q2:∃s,s1=qt b::s
    ·obtain⟨s2,rfl⟩:=q2
     have q3:∀s,s2≠qt b::s:=fun s e=>hno ⟨s,by rw[e]⟩
     cases b<;>exact cF rfl (ac rfl) rfl hw (cF rfl (ac rfl) rfl hw.next (d8 rfl (ac rfl) rfl hw.next.next q3 k))
    ·have q2':∀s,s1≠qt b::s:=fun s e=>q2 ⟨s,e⟩
     refine Ends.mono (N:=N+2) ?_ (by exact Om.o259)
     cases b<;>exact cF rfl (ac rfl) rfl hw (d8 rfl (ac rfl) rfl hw.next q2' k)
   ·have q1':∀s,w≠qt b::s:=fun s e=>q1 ⟨s,e⟩
    refine Ends.mono (N:=N+1) ?_ (by exact Om.o258)
    cases b<;>exact d8 rfl (ac rfl) rfl hw q1' k
  cases b <;>
  ·refine rep rfl (ac rfl) (bM hr) ?_
   refine bR (i:=1) (l:=⟨_,-1,none,none⟩) rfl (ac rfl) (bM (n:=4) (fJ (by exact Om.o256 hr))) rfl rfl rfl (fun e=>by contradiction) ?_
   refine (no3 (fs.length+6) _ fun h pc p om=>?_).mono (by exact Om.o257)
   refine eQ (ls:=#[l0,⟨_,-1,none,none⟩]) (bM (n:=4) (fJ (by exact Om.o256 hr))) rfl ?_
   refine rL rfl (ac rfl) (dg rfl (ac rfl) ?_)
   exact (dq (aj rfl (aj rfl hp))).mono (by dsimp only[List.length_cons];exact Om.o255)
theorem eY {w:List Nat}(hl:Low w)(n:Nat):Low (w.drop n):=fun c hc=>hl c (List.mem_of_mem_drop hc)
theorem low_next {c:Nat}{w:List Nat}(hl:Low (c::w)):Low w:=fun d hd=>hl d (.tail _ hd)
theorem mR (b:Bool){pos h pc N:Nat}{w:List Nat}{fs:List Fr}{loops:Array Loop}{inner:Option Nat}{r:Option Nat}(hp:pc=18∨pc=56)(hw:At (sZ text lim st) pos w)(hl:Low w)(hn:w.length≤4294967295)(hr:room fs)
  (k:∀n,n=(w.takeWhile (f3 (qt b))).length→Ends (sZ text lim st) r N ⟨of b+(pc+13),pos+n,pos+n,true,loops,inner,{wait:=.giveBack,pc:=of b+pc,pos:=pos+n,om:=true,count:=n,whole:=inner.isSome}::fs,none⟩) :
  Ends (sZ text lim st) r (N+1) ⟨of b+pc,pos,h,true,loops,inner,fs,none⟩:=by
 have k':=k _ rfl
 rcases hp with rfl|rfl
 ·have ha:∀c∈w,acc strC (of b+22) c=some (f3 (qt b) c):=fun c hc=>de (in3 b) (hl c hc)
  cases b<;>exact cI rfl (ac rfl) hr hw ha (cM hn) (by rw[List.take_length]) (Nat.zero_le _) (Nat.zero_le _) k'
 ·have ha:∀c∈w,acc strC (of b+60) c=some (f3 (qt b) c):=fun c hc=>de (zy b) (hl c hc)
  cases b<;>exact cI rfl (ac rfl) hr hw ha (cM hn) (by rw[List.take_length]) (Nat.zero_le _) (Nat.zero_le _) k'
theorem kK (b:Bool){pos h pc N:Nat}{w:List Nat}{fs:List Fr}{loops:Array Loop}{inner:Option Nat}{r:Option Nat}(hp:pc=86∨pc=111)(hw:At (sZ text lim st) pos w)(hl:Low w)(hn:w.length≤4294967295)(hr:room fs)
  (k:∀n,n=(w.takeWhile (f1 (qt b))).length→Ends (sZ text lim st) r N ⟨of b+(pc+18),pos+n,pos+n,true,loops,inner,{wait:=.giveBack,pc:=of b+pc,pos:=pos+n,om:=true,count:=n,whole:=inner.isSome}::fs,none⟩) :
  Ends (sZ text lim st) r (N+1) ⟨of b+pc,pos,h,true,loops,inner,fs,none⟩:=by
 have k':=k _ rfl
 rcases hp with rfl|rfl
 ·have ha:∀c∈w,acc strC (of b+90) c=some (f1 (qt b) c):=fun c hc=>de (in1 b) (hl c hc)
  cases b<;>exact cI rfl (ac rfl) hr hw ha (cM hn) (by rw[List.take_length]) (Nat.zero_le _) (Nat.zero_le _) k'
 ·have ha:∀c∈w,acc strC (of b+115) c=some (f1 (qt b) c):=fun c hc=>de (zD b) (hl c hc)
  cases b<;>exact cI rfl (ac rfl) hr hw ha (cM hn) (by rw[List.take_length]) (Nat.zero_le _) (Nat.zero_le _) k'
theorem gN (b:Bool){pos:Nat}{cnt:Int}{bg:Option Nat}{w:List Nat}{fs:List Fr}(hw:At (sZ text lim st) pos w)(hp:∀f∈fs,f.passes=true)(hr:fs.length+7<16777216){e:Nat}
  (he:(∃s,w=qt b::qt b::qt b::s)∧e=pos+3∨(¬ ∃s,w=qt b::qt b::qt b::s)∧e=pos) :
  No (sZ text lim st) (some e) (fs.length+18) #[⟨of b+31,cnt+1,some pos,none⟩] (some 0) ({wait:=.maxMore,pc:=of b+70,pos,om:=true,loop:=0,count:=cnt+1,whole:=true,began:=bg}::fs):=by
 intro h pc p om
 refine eQ (ls:=#[⟨of b+31,cnt+1-1,bg,none⟩]) (bM (n:=7) hr) rfl ?_
 exact (oL b rfl hw (aj rfl hp) (fJ (n:=6) hr) he).mono (by dsimp only[List.length_cons];exact Om.o254)
theorem km {q:Nat}(hq:q≠92){w:List Nat}(h:¬ ∃s,w=q::q::s):sEnd3 q (q::w)=1+sEnd3 q w:=by
 cases w with
 |nil=>simp[sEnd3,hq]
 |cons d r=>
  rw[sEnd3,if_neg hq,if_neg]
  rintro⟨-,rfl,e⟩
  cases r with
  |nil=>contradiction
  |cons a s=>(injection e with e;subst e);exact h ⟨s,rfl⟩
theorem vb (b:Bool):qt b≠92:=by cases b<;>decide
theorem dw_head {f:Nat→Bool}{w:List Nat}{c:Nat}{s:List Nat}(e:w.dropWhile f=c::s):f c=false:=by
 have:=List.head?_dropWhile_not f w
 rw[e] at this
 simpa using this
section
variable {pos h N:Nat}{r:Option Nat}{cnt:Int}{bg:Option Nat}{fs:List Fr}
noncomputable abbrev tM (b:Bool) (pos:Nat) (cnt:Int) (bg:Option Nat):Fr:={wait:=.maxMore,pc:=of b+70,pos,om:=true,loop:=0,count:=cnt+1,whole:=true,began:=bg}
noncomputable abbrev tB (b:Bool) (pos:Nat):Fr:={wait:=.nextBranch,pc:=of b+36,pos,om:=true,whole:=true}
noncomputable abbrev tB2 (b:Bool) (pos:Nat):Fr:={wait:=.nextBranch,pc:=of b+42,pos,om:=true,whole:=true}
noncomputable abbrev tL (b:Bool) (pos:Nat) (cnt:Int):Array Loop:=#[⟨of b+31,cnt+1,some pos,none⟩]
theorem rt (b:Bool)(hc:-1≤cnt)(hc2:cnt<4294967290)(hbg:bg≠some pos)(hr:fs.length+2<16777216)
  (k:Ends (sZ text lim st) r N ⟨of b+37,pos,pos,true,tL b pos cnt,some 0,tB b pos::tM b pos cnt bg::fs,none⟩) :
  Ends (sZ text lim st) r (N+2) ⟨of b+69,pos,h,true,#[⟨of b+31,cnt,bg,none⟩],some 0,fs,none⟩:=by
 have h0:decide (cnt+1<((strC.getD (of b+31+2) 0:Nat):Int))=false:=by
  rw[show strC.getD (of b+31+2) 0=0 by cases b<;>rfl];exact decide_eq_false (by exact Om.o232 hc)
 have hm:decide (cnt+1<((strC.getD (of b+31+3) 0:Nat):Int))=true:=by
  rw[show strC.getD (of b+31+3) 0=4294967295 by cases b<;>rfl];exact decide_eq_true (by exact Om.o253 hc2)
 cases b<;>exact bR (i:=0) rfl (ac rfl) (bM hr) rfl h0 hm hbg (l6 rfl (ac rfl) (bM (n:=1) (fJ hr)) rfl k)
theorem mU (b:Bool)(hr:fs.length+2<16777216)(k:Ends (sZ text lim st) r N ⟨of b+43,pos,pos,true,tL b pos cnt,some 0,tB2 b pos::tM b pos cnt bg::fs,none⟩) :
  No (sZ text lim st) r (N+1) (tL b pos cnt) (some 0) (tB b pos::tM b pos cnt bg::fs):=by
 intro h pc p om
 cases b<;>exact e5 (bM (n:=1) (fJ hr)) rfl k
theorem mj (b:Bool)(k:No (sZ text lim st) r N (tL b pos cnt) (some 0) (tM b pos cnt bg::fs)):No (sZ text lim st) r (N+1) (tL b pos cnt) (some 0) (tB2 b pos::tM b pos cnt bg::fs):=by
 intro h pc p om
 cases b<;>exact vw rfl (k _ _ _ _)
end
theorem oo (b:Bool):∀(k:Nat) {pos h:Nat} {w:List Nat} {fs:List Fr} {cnt:Int} {bg:Option Nat},w.length<k→At (sZ text lim st) pos w→Low w→(∀c s,w=c::s→f3 (qt b) c=false)→-1≤cnt→cnt+w.length<4294967290→
  (∀p,bg=some p→p<pos)→(∀f∈fs,f.passes=true)→fs.length+3*w.length+12<16777216→
  Ends (sZ text lim st) (some (pos+sEnd3 (qt b) w)) (20*w.length+fs.length+30) ⟨of b+69,pos,h,true,#[⟨of b+31,cnt,bg,none⟩],some 0,fs,none⟩:=by
 intro k
 induction k with
 |zero=>intro _ _ w _ _ _ hk;exact absurd hk (Nat.not_lt_zero _)
 |succ k ih=>
  intro pos h w fs cnt bg hk hw hl hf hc hc2 hbg hp hr
  have hb1:bg≠some pos:=fun e=>Nat.lt_irrefl _ (hbg pos e)
  have qn:=vb b
  have again:∀(p:Nat) (v:List Nat) (F1 F2:Fr),At (sZ text lim st) p v→Low v→v.length<w.length→pos<p→F1.passes=true→F2.passes=true→
    ∀h,Ends (sZ text lim st) (some (p+sEnd3 (qt b) v)) (20*v.length+fs.length+34) ⟨of b+56,p,h,true,tL b pos cnt,some 0,F1::F2::fs,none⟩:=by
   intro p v F1 F2 hv lv hlt hpp h1 h2 h
   have hn:v.length≤4294967295:=by exact Om.o252 hr hlt
   refine mR b (pc:=56) (.inr rfl) hv lv hn (bM (n:=0) (by dsimp only[List.length_cons];exact Om.o237 hr)) fun n hn=>?_
   have hd:=tw_drop (f3 (qt b)) v
   rw[←hn] at hd
   have hln:n≤v.length:=by rw[hn];exact (List.takeWhile_sublist _).length_le
   have hv':=hv.drop (n:=n) hln
   have hl':(v.drop n).length=v.length-n:=List.length_drop
   rw[hd] at hv' hl'
   have e:p+sEnd3 (qt b) v=p+n+sEnd3 (qt b) (v.dropWhile (f3 (qt b))):=by rw[fw (qt b) v,←hn];exact Om.o251
   simp only[e]
   refine Ends.mono (ih (w:=v.dropWhile (f3 (qt b))) (cnt:=cnt+1) (bg:=some pos) (by exact Om.o250 hk hlt hl') hv' (by simp only[←hd];exact eY lv n) (fun c s e=>dw_head e) (by exact Om.o225 hc) (by exact Om.o249 hc2 hlt hl') (fun q hq=>by (injection hq with hq;subst hq);exact Om.o248 hpp) (aj rfl (aj h1 (aj h2 hp))) (by simp only[List.length_cons];exact Om.o247 hr hlt hl')) ?_
   dsimp only[List.length_cons];exact Om.o246 hl'
  match w,hw,hl,hf,hk,hr,again with
  | [],hw,hl,hf,hk,hr,_=>
   have out:=mj b (gN b (cnt:=cnt) (bg:=bg) hw hp (by exact Om.o240 ‹_›) (e:=pos) (.inr ⟨(fun ⟨s,e⟩=>by contradiction),rfl⟩))
   refine Ends.mono (rt b (N:=fs.length+22) hc (by exact Om.o236 hc2) hb1 (by exact Om.o235 ‹_›) ?_) (by exact Om.o245)
   have n92:∀s,([]:List Nat)≠92::s:=fun s e=>by contradiction
   have nq:∀s,([]:List Nat)≠qt b::s:=fun s e=>by contradiction
   have a2:Ends (sZ text lim st) (some pos) (fs.length+20) ⟨of b+43,pos,pos,true,tL b pos cnt,some 0,tB2 b pos::tM b pos cnt bg::fs,none⟩:=by
    cases b<;>exact d8 rfl (ac rfl) rfl hw nq out
   have a3:=mU b (by exact Om.o235 ‹_›) a2
   cases b<;>exact d8 rfl (ac rfl) rfl hw n92 a3
  |c::r,hw,hl,hf,hk,hr,again=>
   have hlen:(c::r).length=r.length+1:=rfl
   by_cases h92:c=92
   ·subst h92
    have nq:∀s,92::r≠qt b::s:=fun s e=>qn (List.cons.inj e).1.symm
    cases r with
    |nil=>
     have out:=mj b (gN b (cnt:=cnt) (bg:=bg) hw hp (by exact Om.o240 ‹_›) (e:=pos) (.inr ⟨(fun ⟨s,e⟩=>qn (List.cons.inj e).1.symm),rfl⟩))
     have a2:Ends (sZ text lim st) (some pos) (fs.length+20) ⟨of b+43,pos,pos,true,tL b pos cnt,some 0,tB2 b pos::tM b pos cnt bg::fs,none⟩:=by
      cases b<;>exact d8 rfl (ac rfl) rfl hw nq out
     have a3:=mU b (by exact Om.o235 ‹_›) a2
     refine Ends.mono (rt b (N:=fs.length+23) hc (by exact Om.o236 hc2) hb1 (by exact Om.o235 ‹_›) ?_) (by exact Om.o244)
     cases b<;>exact cF rfl (ac rfl) rfl hw (yy rfl (ac rfl) hw.next a3)
    |cons d r=>
     have e:pos+sEnd3 (qt b) (92::d::r)=pos+1+1+sEnd3 (qt b) r:=by rw[sEnd3,if_pos rfl];exact Om.o230
     have ag:=again (pos+1+1) r (tB b pos) (tM b pos cnt bg) hw.next.next (low_next (low_next hl)) (by dsimp only[List.length_cons];exact Om.o243) (by exact Om.o243) rfl rfl
     simp only[e]
     dsimp only[List.length_cons] at hlen hr ⊢
     refine Ends.mono (rt b (N:=20*r.length+fs.length+37) hc (by dsimp only[List.length_cons] at hc2;exact Om.o242 hc2) hb1 (by exact Om.o235 ‹_›) ?_) (by exact Om.o241)
     cases b<;>exact cF rfl (ac rfl) rfl hw (yj rfl (ac rfl) hw.next (rL rfl (ac rfl) (ag _)))
   ·have hq:c=qt b:=by
     have:=hf c r rfl
     unfold f3 at this
     simp only[show (c != 92)=true from bne_iff_ne.mpr h92,Bool.and_true] at this
     simpa using this
    subst hq
    have n92:∀s,qt b::r≠92::s:=fun s e=>qn (List.cons.inj e).1
    by_cases h3:∃s,r=qt b::qt b::s
    ·obtain⟨s,rfl⟩:=h3
     have out:=mj b (gN b (cnt:=cnt) (bg:=bg) hw hp (by exact Om.o240 ‹_›) (e:=pos+3) (.inl ⟨⟨s,rfl⟩,rfl⟩))
     have e:pos+sEnd3 (qt b) (qt b::qt b::qt b::s)=pos+3:=by rw[sEnd3,if_neg qn,if_pos ⟨rfl,rfl,rfl⟩]
     simp only[e]
     have a2:Ends (sZ text lim st) (some (pos+3)) (fs.length+25) ⟨of b+43,pos,pos,true,tL b pos cnt,some 0,tB2 b pos::tM b pos cnt bg::fs,none⟩:=by
      cases b<;>exact cF rfl (ac rfl) rfl hw (f5 rfl (ac rfl) (bM (n:=0) (by dsimp only[List.length_cons];exact Om.o237 ‹_›)) rfl (cF rfl (ac rfl) rfl hw.next (cF rfl (ac rfl) rfl hw.next.next (dg rfl (ac rfl) (rP (out _ _ _ _))))))
     have a3:=mU b (by exact Om.o235 ‹_›) a2
     dsimp only[List.length_cons]
     refine Ends.mono (rt b (N:=fs.length+27) hc (by exact Om.o236 hc2) hb1 (by exact Om.o235 ‹_›) ?_) (by exact Om.o239)
     cases b<;>exact d8 rfl (ac rfl) rfl hw n92 a3
    ·rw[km qn h3,←Nat.add_assoc]
     have ag:=again (pos+1) r (tB2 b pos) (tM b pos cnt bg) hw.next (low_next hl) (by dsimp only[List.length_cons];exact Om.o43) (by exact Om.o43) rfl rfl
     have la:No (sZ text lim st) (some (pos+1+sEnd3 (qt b) r)) (20*r.length+fs.length+36) (tL b pos cnt) (some 0) ({wait:=.lookNot,pc:=of b+45,pos:=pos+1,om:=true,whole:=true}::tB2 b pos::tM b pos cnt bg::fs):=by
      intro h pc p om
      cases b<;>exact tW (rL rfl (ac rfl) (ag _))
     have lb:∀h,Ends (sZ text lim st) (some (pos+1+sEnd3 (qt b) r)) (20*r.length+fs.length+38) ⟨of b+48,pos+1,h,false,tL b pos cnt,some 0,{wait:=.lookNot,pc:=of b+45,pos:=pos+1,om:=true,whole:=true}::tB2 b pos::tM b pos cnt bg::fs,none⟩:=by
      intro h
      by_cases q1:∃s,r=qt b::s
      ·obtain⟨s,rfl⟩:=q1
       have q2:∀t,s≠qt b::t:=fun t e=>h3 ⟨t,by rw[e]⟩
       cases b<;>exact cF rfl (ac rfl) rfl hw.next (d8 rfl (ac rfl) rfl hw.next.next q2 la)
      ·have q2:∀t,r≠qt b::t:=fun t e=>q1 ⟨t,e⟩
       refine Ends.mono (N:=20*r.length+fs.length+37) ?_ (by exact Om.o238)
       cases b<;>exact d8 rfl (ac rfl) rfl hw.next q2 la
     have a2:Ends (sZ text lim st) (some (pos+1+sEnd3 (qt b) r)) (20*r.length+fs.length+40) ⟨of b+43,pos,pos,true,tL b pos cnt,some 0,tB2 b pos::tM b pos cnt bg::fs,none⟩:=by
      cases b<;>exact cF rfl (ac rfl) rfl hw (f5 rfl (ac rfl) (bM (n:=0) (by dsimp only[List.length_cons];exact Om.o237 ‹_›)) rfl (lb _))
     have a3:=mU b (by exact Om.o235 ‹_›) a2
     refine Ends.mono (rt b (N:=20*r.length+fs.length+42) hc (by exact Om.o236 hc2) hb1 (by exact Om.o235 ‹_›) ?_) (by exact Om.o234 hlen)
     cases b<;>exact d8 rfl (ac rfl) rfl hw n92 a3
theorem mI {q:Nat}{w:List Nat}(hf:∀c s,w=c::s→f1 q c=false)(h92:¬ ∃d s,w=92::d::s)(hq:q≠92)(hq':q≠10):sEnd1 q w=((w.take 1).takeWhile (fun c=>c==q)).length:=by
 match w with
 | []=>rfl
 | [c]=>
  have:=hf c [] rfl
  by_cases e:c=q
  ·subst e;simp[sEnd1,hq,hq']
  ·have h2:c=92∨c=10:=by unfold f1 at this;simp only[Bool.and_eq_false_iff,bne_eq_false_iff_eq] at this;rcases this with (h|h)|h;exact absurd h e;exact .inl h;exact .inr h
   have:(c==q)=false:=beq_eq_false_iff_ne.mpr e
   simp[sEnd1,h2,this]
 |c::d::r=>
  have:=hf c (d::r) rfl
  have n92:c≠92:=by rintro rfl;exact h92 ⟨d,r,rfl⟩
  by_cases e:c=q
  ·subst e;simp[sEnd1,hq,hq']
  ·have h2:c=10:=by unfold f1 at this;simp only[Bool.and_eq_false_iff,bne_eq_false_iff_eq] at this;rcases this with (h|h)|h;exact absurd h e;exact absurd h n92;exact h
   have:(c==q)=false:=beq_eq_false_iff_ne.mpr e
   rw[sEnd1,if_neg n92,if_pos h2];simp[this]
theorem pG (b:Bool){pos h:Nat}{w:List Nat}{fs:List Fr}{loops:Array Loop}{inner:Option Nat}(hw:At (sZ text lim st) pos w)(hl:Low w)(hp:∀f∈fs,f.passes=true)(hr:fs.length+1<16777216) :
  Ends (sZ text lim st) (some (pos+((w.take 1).takeWhile (fun c=>c==qt b)).length)) (fs.length+5) ⟨of b+130,pos,h,true,loops,inner,fs,none⟩:=by
 have ha:∀c∈w,acc strC (of b+134) c=some (c==qt b):=fun c hc=>by cases b<;>exact jl rfl rfl c
 have hm:((w.take (min 1 w.length)).takeWhile (fun c=>c==qt b)).length=((w.take 1).takeWhile (fun c=>c==qt b)).length:=by
  cases w with
  |nil=>rfl
  |cons c s=>rw[show min 1 (c::s).length=1 by dsimp only[List.length_cons];exact Om.o233]
 cases b<;>exact cI (f:=fun c=>c==_) rfl (ac rfl) (bM hr) hw ha rfl hm (Nat.zero_le _) (Nat.zero_le _) (rL rfl (ac rfl) (dg rfl (ac rfl) (dq (aj rfl hp))))
theorem oK (b:Bool):∀(k:Nat) {pos h:Nat} {w:List Nat} {fs:List Fr} {cnt:Int} {bg:Option Nat},w.length<k→At (sZ text lim st) pos w→Low w→(∀c s,w=c::s→f1 (qt b) c=false)→-1≤cnt→cnt+w.length<4294967290→
  (∀p,bg=some p→p<pos)→(∀f∈fs,f.passes=true)→fs.length+3*w.length+12<16777216→
  Ends (sZ text lim st) (some (pos+sEnd1 (qt b) w)) (20*w.length+fs.length+30) ⟨of b+129,pos,h,true,#[⟨of b+104,cnt,bg,none⟩],some 0,fs,none⟩:=by
 intro k
 induction k with
 |zero=>intro _ _ w _ _ _ hk;exact absurd hk (Nat.not_lt_zero _)
 |succ k ih=>
  intro pos h w fs cnt bg hk hw hl hf hc hc2 hbg hp hr
  have hb1:bg≠some pos:=fun e=>Nat.lt_irrefl _ (hbg pos e)
  have qn:=vb b
  have h0:decide (cnt+1<((strC.getD (of b+104+2) 0:Nat):Int))=false:=by
   rw[show strC.getD (of b+104+2) 0=0 by cases b<;>rfl];exact decide_eq_false (by exact Om.o232 hc)
  have hm:decide (cnt+1<((strC.getD (of b+104+3) 0:Nat):Int))=true:=by
   rw[show strC.getD (of b+104+3) 0=4294967295 by cases b<;>rfl];exact decide_eq_true (by exact Om.o231 hc2)
  have inn:∀{r N},Ends (sZ text lim st) r N ⟨of b+108,pos,pos,true,#[⟨of b+104,cnt+1,some pos,none⟩],some 0,{wait:=.maxMore,pc:=of b+130,pos,om:=true,loop:=0,count:=cnt+1,whole:=true,began:=bg}::fs,none⟩→
    Ends (sZ text lim st) r (N+1) ⟨of b+129,pos,h,true,#[⟨of b+104,cnt,bg,none⟩],some 0,fs,none⟩:=by
   intro r N k
   cases b<;>exact bR (i:=0) rfl (ac rfl) (bM (n:=12) (by exact Om.o219 hr)) rfl h0 hm hb1 k
  by_cases h92:∃d s,w=92::d::s
  ·obtain⟨d,v,rfl⟩:=h92
   have e:pos+sEnd1 (qt b) (92::d::v)=pos+1+1+sEnd1 (qt b) v:=by rw[sEnd1,if_pos rfl];exact Om.o230
   simp only[e]
   dsimp only[List.length_cons] at hk hc2 hr ⊢
   have hn:v.length≤4294967295:=by exact Om.o229 hc hc2
   have ag:∀h,Ends (sZ text lim st) (some (pos+1+1+sEnd1 (qt b) v)) (20*v.length+fs.length+33) ⟨of b+111,pos+1+1,h,true,#[⟨of b+104,cnt+1,some pos,none⟩],some 0,{wait:=.maxMore,pc:=of b+130,pos,om:=true,loop:=0,count:=cnt+1,whole:=true,began:=bg}::fs,none⟩:=by
    intro h
    refine kK b (pc:=111) (.inr rfl) hw.next.next (low_next (low_next hl)) hn (bM (n:=0) (by dsimp only[List.length_cons];exact Om.o228 hr)) fun n hn=>?_
    have hd:=tw_drop (f1 (qt b)) v
    rw[←hn] at hd
    have hln:n≤v.length:=by rw[hn];exact (List.takeWhile_sublist _).length_le
    have hv':=hw.next.next.drop (n:=n) hln
    have hl':(v.drop n).length=v.length-n:=List.length_drop
    rw[hd] at hv' hl'
    have e:pos+1+1+sEnd1 (qt b) v=pos+1+1+n+sEnd1 (qt b) (v.dropWhile (f1 (qt b))):=by rw[ff (qt b) v,←hn];exact Om.o227
    simp only[e]
    refine Ends.mono (ih (w:=v.dropWhile (f1 (qt b))) (cnt:=cnt+1) (bg:=some pos) (by exact Om.o226 hk hl') hv' (by simp only[←hd];exact eY (low_next (low_next hl)) n) (fun c s e=>dw_head e) (by exact Om.o225 hc) (by exact Om.o224 hc2 hl') (fun q hq=>by (injection hq with hq;subst hq);exact Om.o223) (aj rfl (aj rfl hp)) (by simp only[List.length_cons];exact Om.o222 hr hl')) ?_
    dsimp only[List.length_cons];exact Om.o221 hl'
   refine Ends.mono (inn (N:=20*v.length+fs.length+35) ?_) (by exact Om.o220)
   cases b<;>exact cF rfl (ac rfl) rfl hw (yj rfl (ac rfl) hw.next (ag _))
  ·rw[mI hf h92 qn (by cases b<;>decide)]
   have out:No (sZ text lim st) (some (pos+((w.take 1).takeWhile (fun c=>c==qt b)).length)) (fs.length+7) #[⟨of b+104,cnt+1,some pos,none⟩] (some 0) ({wait:=.maxMore,pc:=of b+130,pos,om:=true,loop:=0,count:=cnt+1,whole:=true,began:=bg}::fs):=by
    intro h pc p om
    refine eQ (ls:=#[⟨of b+104,cnt+1-1,bg,none⟩]) (bM (n:=12) (by exact Om.o219 hr)) rfl ?_
    exact Ends.mono (pG b hw hl (aj rfl hp) (by dsimp only[List.length_cons];exact Om.o218 hr)) (by dsimp only[List.length_cons];exact Om.o217)
   refine Ends.mono (inn (N:=fs.length+9) ?_) (by exact Om.o216)
   by_cases q:∃s,w=92::s
   ·obtain⟨s,rfl⟩:=q
    cases s with
    |cons d s=>exact absurd ⟨d,s,rfl⟩ h92
    |nil=>cases b<;>exact cF rfl (ac rfl) rfl hw (yy rfl (ac rfl) hw.next out)
   ·have q2:∀t,w≠92::t:=fun t e=>q ⟨t,e⟩
    refine Ends.mono (N:=fs.length+8) ?_ (by exact Om.o215)
    cases b<;>exact d8 rfl (ac rfl) rfl hw q2 out
noncomputable def strEnd:List Nat→Nat
 | []=>0
 |q::r=>if r.head?=some q∧r.tail.head?=some q then 3+sEnd3 q (r.drop 2) else 1+sEnd1 q r
theorem s9 (b:Bool){pos h:Nat}{w:List Nat}{fs:List Fr}(hw:At (sZ text lim st) pos (qt b::qt b::qt b::w))(hl:Low w)(hp:∀f∈fs,f.passes=true)(hr:fs.length+3*w.length+20<16777216) :
  Ends (sZ text lim st) (some (pos+3+sEnd3 (qt b) w)) (20*w.length+fs.length+40) ⟨of b+12,pos,h,true,#[],none,fs,none⟩:=by
 have k1:∀h,Ends (sZ text lim st) (some (pos+1+1+1+sEnd3 (qt b) w)) (20*w.length+fs.length+35) ⟨of b+18,pos+1+1+1,h,true,#[],none,fs,none⟩:=by
  intro h
  refine mR b (pc:=18) (.inl rfl) hw.next.next.next hl (by exact Om.o212 hr) (bM (n:=0) (by exact Om.o211 hr)) fun n hn=>?_
  have hd:=tw_drop (f3 (qt b)) w
  rw[←hn] at hd
  have hln:n≤w.length:=by rw[hn];exact (List.takeWhile_sublist _).length_le
  have hv':=hw.next.next.next.drop (n:=n) hln
  have hl':(w.drop n).length=w.length-n:=List.length_drop
  rw[hd] at hv' hl'
  have e:pos+1+1+1+sEnd3 (qt b) w=pos+1+1+1+n+sEnd3 (qt b) (w.dropWhile (f3 (qt b))):=by rw[fw (qt b) w,←hn];exact Om.o214
  rw[e]
  have lp:=fun h=>oo b ((w.dropWhile (f3 (qt b))).length+1) (h:=h) (fs:={wait:=.closeLoop,pc:=of b+31,pos:=pos+1+1+1+n,om:=true,loop:=0}::{wait:=.giveBack,pc:=of b+18,pos:=pos+1+1+1+n,om:=true,count:=n}::fs) (cnt:=-1) (bg:=none) (Nat.lt_succ_self _) hv' (by simp only[←hd];exact eY hl n) (fun c s e=>dw_head e) (by exact Om.o209) (by exact Om.o208 hr hl') (fun q hq=>by contradiction) (aj rfl (aj rfl hp)) (by dsimp only[List.length_cons];exact Om.o207 hr hl')
  dsimp only[List.length_cons] at lp
  refine Ends.mono (N:=20*(w.dropWhile (f3 (qt b))).length+(fs.length+1+1)+30+1) ?_ (by exact Om.o206 hl')
  cases b<;>exact rep rfl (ac rfl) (bM (n:=0) (by dsimp only[List.length_cons];exact Om.o205 hr)) (lp _)
 refine Ends.mono (N:=20*w.length+fs.length+38) ?_ (by exact Om.o213)
 cases b<;>exact cF rfl (ac rfl) rfl hw (cF rfl (ac rfl) rfl hw.next (cF rfl (ac rfl) rfl hw.next.next (k1 _)))
theorem sA (b:Bool){pos h:Nat}{w:List Nat}{fs:List Fr}(hw:At (sZ text lim st) pos (qt b::w))(hl:Low w)(hp:∀f∈fs,f.passes=true)(hr:fs.length+3*w.length+20<16777216) :
  Ends (sZ text lim st) (some (pos+1+sEnd1 (qt b) w)) (20*w.length+fs.length+40) ⟨of b+84,pos,h,true,#[],none,fs,none⟩:=by
 have k1:∀h,Ends (sZ text lim st) (some (pos+1+sEnd1 (qt b) w)) (20*w.length+fs.length+35) ⟨of b+86,pos+1,h,true,#[],none,fs,none⟩:=by
  intro h
  refine kK b (pc:=86) (.inl rfl) hw.next hl (by exact Om.o212 hr) (bM (n:=0) (by exact Om.o211 hr)) fun n hn=>?_
  have hd:=tw_drop (f1 (qt b)) w
  rw[←hn] at hd
  have hln:n≤w.length:=by rw[hn];exact (List.takeWhile_sublist _).length_le
  have hv':=hw.next.drop (n:=n) hln
  have hl':(w.drop n).length=w.length-n:=List.length_drop
  rw[hd] at hv' hl'
  have e:pos+1+sEnd1 (qt b) w=pos+1+n+sEnd1 (qt b) (w.dropWhile (f1 (qt b))):=by rw[ff (qt b) w,←hn];exact Om.o210
  rw[e]
  have lp:=fun h=>oK b ((w.dropWhile (f1 (qt b))).length+1) (h:=h) (fs:={wait:=.closeLoop,pc:=of b+104,pos:=pos+1+n,om:=true,loop:=0}::{wait:=.giveBack,pc:=of b+86,pos:=pos+1+n,om:=true,count:=n}::fs) (cnt:=-1) (bg:=none) (Nat.lt_succ_self _) hv' (by simp only[←hd];exact eY hl n) (fun c s e=>dw_head e) (by exact Om.o209) (by exact Om.o208 hr hl') (fun q hq=>by contradiction) (aj rfl (aj rfl hp)) (by dsimp only[List.length_cons];exact Om.o207 hr hl')
  dsimp only[List.length_cons] at lp
  refine Ends.mono (N:=20*(w.dropWhile (f1 (qt b))).length+(fs.length+1+1)+30+1) ?_ (by exact Om.o206 hl')
  cases b<;>exact rep rfl (ac rfl) (bM (n:=0) (by dsimp only[List.length_cons];exact Om.o205 hr)) (lp _)
 refine Ends.mono (N:=20*w.length+fs.length+36) ?_ (by exact Om.o204)
 cases b<;>exact cF rfl (ac rfl) rfl hw (k1 _)
end
end Re
end Mine
end
section
namespace Mine
namespace Re
open PySem PySem.Sre
section
variable {text:Array Nat}{lim st:Nat}
theorem pQ (b:Bool){N pos h:Nat}{r:Option Nat}{w:List Nat}{fs:List Fr}(hw:At (sZ text lim st) pos w)(hno:∀s,w≠qt b::qt b::qt b::s)(k:No (sZ text lim st) r N #[] none fs) :
  Ends (sZ text lim st) r (N+3) ⟨of b+12,pos,h,true,#[],none,fs,none⟩:=by
 by_cases q1:∃s,w=qt b::s
 ·obtain⟨s1,rfl⟩:=q1
  by_cases q2:∃s,s1=qt b::s
  ·obtain⟨s2,rfl⟩:=q2
   have q3:∀s,s2≠qt b::s:=fun s e=>hno s (by rw[e])
   cases b<;>exact cF rfl (ac rfl) rfl hw (cF rfl (ac rfl) rfl hw.next (d8 rfl (ac rfl) rfl hw.next.next q3 k))
  ·have q2':∀s,s1≠qt b::s:=fun s e=>q2 ⟨s,e⟩
   refine Ends.mono (N:=N+2) ?_ (by exact Om.o259)
   cases b<;>exact cF rfl (ac rfl) rfl hw (d8 rfl (ac rfl) rfl hw.next q2' k)
 ·have q1':∀s,w≠qt b::s:=fun s e=>q1 ⟨s,e⟩
  refine Ends.mono (N:=N+1) ?_ (by exact Om.o258)
  cases b<;>exact d8 rfl (ac rfl) rfl hw q1' k
noncomputable abbrev sB (pc pos:Nat):Fr:={wait:=.nextBranch,pc,pos,om:=true}
theorem uL (q:Nat)(r:List Nat):strEnd (q::q::q::r)=3+sEnd3 q r:=if_pos ⟨rfl,rfl⟩
theorem uf {q:Nat}{r:List Nat}(h:∀s,q::r≠q::q::q::s):strEnd (q::r)=1+sEnd1 q r:=by
 refine if_neg fun ⟨e1,e2⟩=>?_
 match r,e1,e2 with
 |a::b::s,e1,e2=>(injection e1 with e1;subst e1);(injection e2 with e2;subst e2);exact h s rfl
theorem rs (b:Bool){pos:Nat}{w:List Nat}(hw:At (sZ text lim st) pos (qt b::w))(hl:Low w)(hr:3*w.length+30<16777216)(h:Nat) :
  Ends (sZ text lim st) (some (pos+strEnd (qt b::w))) (20*w.length+50) ⟨of b+12,pos,h,true,#[],none,[sB (of b+11) pos],none⟩:=by
 by_cases q:∃s,qt b::w=qt b::qt b::qt b::s
 ·obtain⟨s,e⟩:=q
  have e':=(List.cons.inj e).2
  subst e'
  dsimp only[List.length_cons] at hr ⊢
  rw[uL,←Nat.add_assoc]
  exact Ends.mono (s9 b hw (low_next (low_next hl)) (aj rfl cA) (by dsimp only[List.length_cons,List.length_nil];exact Om.o271 hr)) (by dsimp only[List.length_cons,List.length_nil];exact Om.o270)
 ·have q':∀s,qt b::w≠qt b::qt b::qt b::s:=fun s e=>q ⟨s,e⟩
  rw[uf q',←Nat.add_assoc]
  have go:∀h,Ends (sZ text lim st) (some (pos+1+sEnd1 (qt b) w)) (20*w.length+41) ⟨of b+84,pos,h,true,#[],none,[sB (of b+83) pos],none⟩:=fun h=>
   Ends.mono (sA b hw hl (aj rfl cA) (by dsimp only[List.length_cons,List.length_nil];exact Om.o269 hr)) (by dsimp only[List.length_cons,List.length_nil];exact Om.o268)
  refine Ends.mono (N:=20*w.length+42+3) (pQ b hw q' fun h pc p om=>?_) (by exact Om.o267)
  cases b<;>exact e5 (ac rfl) rfl (go _)
theorem str_ok (b:Bool){pos:Nat}{w:List Nat}(hw:At (sZ text lim st) pos (qt b::w))(hl:Low w)(hr:3*w.length+30<16777216) :
  Ends (sZ text lim st) (some (pos+strEnd (qt b::w))) (20*w.length+60) (start 10 pos):=by
 have k:=rs b hw hl hr
 cases b with
 |false=>exact Ends.mono (N:=20*w.length+51) (l6 rfl (ac rfl) (ac rfl) rfl (k _)) (by exact Om.o266)
 |true=>
  refine Ends.mono (N:=20*w.length+55) (l6 rfl (ac rfl) (ac rfl) rfl ?_) (by exact Om.o265)
  have nq:∀s,qt true::w≠34::s:=fun s e=>absurd (List.cons.inj e).1 (by decide)
  refine d8 rfl (ac rfl) rfl hw nq fun h pc p om=>?_
  refine e5 (ac rfl) rfl ?_
  refine d8 rfl (ac rfl) rfl hw nq fun h pc p om=>?_
  exact e5 (ac rfl) rfl (k _)
end
end Re
end Mine
end
section
namespace Mine
open PySem PyProof.Rows PySem.W PySem.StrLaws PySem.Builtin.Str
theorem hX (x:Str)(c:Nat):Txt.contains x ⟨#[c]⟩=(sg x).contains c:=by
 unfold Txt.contains
 rw[occ_eq,fV x ⟨#[c]⟩ x.length _ 0 (fun m _=>Nat.zero_le _)]
 cases hf:(List.range' 0 (x.length+1-0)).find? (fun i=>decide (i+(⟨#[c]⟩:Str).length≤x.length)&&subAt x ⟨#[c]⟩ i) with
 |none=>
  show false=_
  symm
  rw[List.contains_eq_mem,decide_eq_false_iff_not]
  intro hm
  obtain⟨i,hi⟩:=List.getElem?_of_mem hm
  have h2:=(subAt_one x c i).mpr hi
  have hlt:=(List.getElem?_eq_some_iff.mp hi).1
  have:=List.find?_eq_none.mp hf i (List.mem_range'_1.mpr (by have:=aB x;unfold sg at *;exact Om.o276 hlt))
  rw[Bool.and_eq_true,decide_eq_true_eq] at this
  exact this h2
 |some i=>
  show true=_
  symm
  have hp:=(List.find?_eq_some_iff_append.mp hf).1
  rw[Bool.and_eq_true,decide_eq_true_eq] at hp
  rw[List.contains_eq_mem,decide_eq_true_eq]
  exact List.mem_of_getElem? ((subAt_one x c i).mp hp)
structure L2 where
 p:Nat
 last:Str
 st:List Nat
 br:List (Nat×Nat)
noncomputable def cC (c:Nat):Bool:=c==32||c==9||c==10
noncomputable def cZ (l:List Nat):Option Nat:=l.reverse.find? fun c=>!cC c
theorem fy (l:List Nat)(c:Nat):cZ (l++[c])=if cC c=true then cZ l else some c:=by
 unfold cZ
 rw[List.reverse_append,List.reverse_singleton,List.singleton_append,List.find?_cons]
 cases cC c<;>rfl
noncomputable def lastOf (r:List Nat)(last:Str):Str:=match cZ r with
 |some c=>⟨#[c]⟩
 |none=>last
noncomputable def dc (p1:Nat)(last1:Str)(st:List Nat)(br:List (Nat×Nat))(w:List Nat):L2:=match w with
 | []=>⟨p1,last1,st,br⟩
 |ch::r=>
  if ch=40∨ch=91∨ch=123 then ⟨p1+1,⟨#[ch]⟩,st++[p1],br++[(p1,st.length+1)]⟩
  else if ch=41∨ch=93∨ch=125 then ⟨p1+1,⟨#[ch]⟩,st.dropLast,br++[(p1+1,st.dropLast.length)]⟩
  else if ch=34∨ch=39 then ⟨p1+Re.strEnd (ch::r),⟨#[ch]⟩,st,br++[(p1,st.length+1)]++[(p1+Re.strEnd (ch::r),st.length)]⟩
  else if ch=35 then ⟨p1+(r.takeWhile (fun c=>c != 10)).length+2,last1,st,br++[(p1,st.length+1)]++[(p1+(r.takeWhile (fun c=>c != 10)).length+2,st.length)]⟩
  else match r with
   | []=>⟨p1+1,last1,st,br⟩
   |d::_=>⟨p1+2,if d=10 then last1 else ⟨#[ch,d]⟩,st,br⟩
noncomputable def ao (x:Str)(q p:Nat):List Nat:=((sg x).take q).drop p
noncomputable def cX (x:Str)(q:Nat)(s:L2):L2:=
 dc (s.p+((ao x q s.p).takeWhile Re.ord_).length) (lastOf ((ao x q s.p).takeWhile Re.ord_) s.last) s.st s.br ((ao x q s.p).dropWhile Re.ord_)
section
variable {P:Pm}{pr:List Nat}{x:Str}{c:aa}
theorem li {n:Nat}{f e1 e2 e3:IE}{kk:Option Nat}{l:Sl}{u v1 v2 v3:V}{K:V→aa→Prop}(hf:∀K':V→aa→Prop,K' u c→wpE P (n+4) f l c K')(h1:∀K':V→aa→Prop,K' v1 c→wpE P (n+3) e1 l c K')(h2:∀K':V→aa→Prop,K' v2 c→wpE P (n+2) e2 l c K')
  (h3:∀K':V→aa→Prop,K' v3 c→wpE P (n+1) e3 l c K') (h:ef P c kk u [v1,v2,v3] K):wpE P (n+5) (.call f [e1,e2,e3] kk) l c K:=by
 rw[e6]
 refine hf _ ?_
 rw[aZ]
 refine h1 _ ?_
 rw[aZ]
 refine h2 _ ?_
 rw[aZ]
 refine h3 _ ?_
 exact h
theorem cj {q p:Nat}(hq:q≤x.length):(ao x q p).length=q-p:=by
 unfold ao;rw[List.length_drop,List.length_take];have:=aB x;exact Om.o275 hq
noncomputable def mOf:Option Nat→V
 |some e=>.mt (e:Nat)
 |none=>.d .none
theorem ke {a:Addr}{code:Array Nat}(T:TextOk x)(hj:P.isFn a=true)(hjf:P.fn a=aS code){p q n N:Nat}{r:Option Nat}(hpq:p<q)(hq:q≤x.length)(hN:1≤N∧N<2 ^ 60)
  (he:Re.Ends ⟨code,x.cps,q,p⟩ r N (Re.start (Sre.header code).2 p)) (hm:(Sre.header code).1=1) {l:Sl} (h1:aI l 1=some (.d (.str x))) (h4:aI l 4=some (.d (.int (p:Nat)))) (h5:aI l 5=some (.d (.int (q:Nat)))) (K':V→aa→Prop)
  (h:K' (mOf r) c):wpE P (n+5) (.call (.g (.val (.ref a))) [(.v 1),(.v 4),(.v 5)] none) l c K':=by
 have hl:=aB x
 have hT:=T.len
 refine li (n:=n) (u:=.val (.ref a)) (v1:=.d (.str x)) (v2:=.d (.int (p:Nat))) (v3:=.d (.int (q:Nat))) (fun K' h=>h) (bv h1) (bv h4) (bv h5) ?_
 refine⟨hj,?_⟩
 rw[hjf]
 refine⟨x,p,q,r,N,.inr rfl,by exact Om.o58 hpq,hq,by exact Om.o63 hT,hN,.inl ⟨he,by rw[hm];exact Om.o198 hpq⟩,?_⟩
 cases r with
 |none=>exact⟨fun _ q=>q,h⟩
 |some e=>exact⟨fun _ q=>q,h⟩
theorem oG {a:Addr}(T:TextOk x)(hj:P.isFn a=true)(hjf:P.fn a=aS Re.chewC){p q n:Nat}(hpq:p<q)(hq:q≤x.length){l:Sl}(h1:aI l 1=some (.d (.str x)))(h4:aI l 4=some (.d (.int (p:Nat))))(h5:aI l 5=some (.d (.int (q:Nat))))(K':V→aa→Prop)
  (h:K' (if ((ao x q p).takeWhile Re.ord_).length=0 then .d .none else .mt ((p+((ao x q p).takeWhile Re.ord_).length:Nat))) c):wpE P (n+5) (.call (.g (.val (.ref a))) [(.v 1),(.v 4),(.v 5)] none) l c K':=by
 have hT:=T.len
 have hl:=aB x
 have hlen:(ao x q p).length≤4294967295:=by rw[cj hq];unfold big at hT;exact Om.o274 hq hT
 refine ke T hj hjf hpq hq (N:=4) (by decide) (Re.chew_ok (rU x (by exact Om.o58 hpq) hq) (lI T p q) hlen) rfl h1 h4 h5 K' ?_
 show K' (mOf (if ((ao x q p).takeWhile Re.ord_).length=0 then none else some (p+((ao x q p).takeWhile Re.ord_).length))) c
 split at h
 ·rename_i e;rw[if_pos e];exact h
 ·rename_i e;rw[if_neg e];exact h
theorem pY {a:Addr}(T:TextOk x)(hj:P.isFn a=true)(hjf:P.fn a=aS Re.strC){p q n:Nat}(hpq:p<q)(hq:q≤x.length){ch:Nat}{r:List Nat}(hr:ao x q p=ch::r)(hch:ch=34∨ch=39){l:Sl}(h1:aI l 1=some (.d (.str x)))(h4:aI l 4=some (.d (.int (p:Nat))))(h5:aI l 5=some (.d (.int (q:Nat))))(K':V→aa→Prop)
  (h:K' (.mt ((p+Re.strEnd (ch::r):Nat))) c):wpE P (n+5) (.call (.g (.val (.ref a))) [(.v 1),(.v 4),(.v 5)] none) l c K':=by
 have hT:=T.len
 have hl:=aB x
 have hlen:(ao x q p).length=q-p:=cj hq
 have hA:=rU x (p:=p) (q:=q) (st:=p) (code:=Re.strC) (by exact Om.o58 hpq) hq
 have hlow:=lI T p q
 change Re.At _ p (ao x q p) at hA
 change Re.Low (ao x q p) at hlow
 rw[hr] at hA hlow hlen
 simp only[List.length_cons] at hlen
 unfold big at hT
 have he:Re.Ends ⟨Re.strC,x.cps,q,p⟩ (some (p+Re.strEnd (ch::r))) (20*r.length+60) (Re.start 10 p):=by
  rcases hch with rfl|rfl
  ·exact Re.str_ok false hA (Re.low_next hlow) (by exact Om.o273 hq hT hlen)
  ·exact Re.str_ok true hA (Re.low_next hlow) (by exact Om.o273 hq hT hlen)
 exact ke T hj hjf hpq hq (N:=20*r.length+60) ⟨by exact Om.o272,by omega⟩ he rfl h1 h4 h5 K' h
end
end Mine
end
section
namespace Mine
open PySem PyProof.Rows PySem.W
noncomputable def brD (br:List (Nat×Nat)):List D:=br.map fun r=>.tup [.int (r.1:Nat),.int (r.2:Nat)]
noncomputable def Cs (c0:aa)(A B Z:Nat)(st:List Nat)(br:List (Nat×Nat)):aa:=c0++[(A,.list (aP st))]++[(B,.bound "list.append" A)]++[(Z,.list (brD br))]
structure Cel2 (c0:aa)(A B Z k:Nat)(pr:List Nat):Prop where
 a:A∉dom c0
 b:B∉dom c0
 z:Z∉dom c0
 ab:A≠B
 az:A≠Z
 bz:B≠Z
 w:Wf c0
 k_:k∈dom c0
 pr:∀j∈pr,j∈dom c0
section
variable {c0:aa}{A B Z k:Nat}{pr:List Nat}(C:Cel2 c0 A B Z k pr){st:List Nat}{br:List (Nat×Nat)}
theorem q8:dom (Cs c0 A B Z st br)=dom c0++[A]++[B]++[Z]:=by unfold Cs;rw[af,af,af]
theorem ap {c:aa}{j i:Nat}{o:O}(h:j∉dom c):ae (c++[(j,o)]) i=if i=j then some o else ae c i:=aF h i
include C
theorem nb:B∉dom (c0++[(A,.list (aP st))]):=by rw[af];simp[C.b,Ne.symm C.ab]
theorem nz:Z∉dom (c0++[(A,.list (aP st))]++[(B,.bound "list.append" A)]):=by rw[af,af];simp[C.z,Ne.symm C.az,Ne.symm C.bz]
theorem qy:ae (Cs c0 A B Z st br) A=some (.list (aP st)):=by
 unfold Cs;rw[ap (nz C),if_neg C.az,ap (nb C),if_neg C.ab,ap C.a,if_pos rfl]
theorem wL:ae (Cs c0 A B Z st br) B=some (.bound "list.append" A):=by
 unfold Cs;rw[ap (nz C),if_neg C.bz,ap (nb C),if_pos rfl]
theorem qK:ae (Cs c0 A B Z st br) Z=some (.list (brD br)):=by
 unfold Cs;rw[ap (nz C),if_pos rfl]
theorem mT {j:Nat}(h:j∈dom c0):ae (Cs c0 A B Z st br) j=ae c0 j:=by
 have h1:j≠A:=fun e=>C.a (e▸h)
 have h2:j≠B:=fun e=>C.b (e▸h)
 have h3:j≠Z:=fun e=>C.z (e▸h)
 unfold Cs;rw[ap (nz C),if_neg h3,ap (nb C),if_neg h2,ap C.a,if_neg h1]
theorem lJ {j:Nat}(h:j∈dom c0):j∈dom (Cs c0 A B Z st br):=by rw[q8];simp[h]
theorem m3 (st':List Nat):cset (Cs c0 A B Z st br) A (.list (aP st'))=Cs c0 A B Z st' br:=by
 have h1:A∈dom (c0++[(A,O.list (aP st))]):=by rw[af];simp
 unfold Cs
 rw[aT (by rw[af];simp[h1]),aT h1,dU C.a]
theorem ux (br':List (Nat×Nat)):cset (Cs c0 A B Z st br) Z (.list (brD br'))=Cs c0 A B Z st br':=by
 unfold Cs
 rw[dU (nz C)]
theorem xP:b6 (Cs c0 A B Z st br) (Cs c0 A B Z st br) (Cs c0 A B Z st br):=by
 rw[celW_iff]
 intro p hp
 have hd:∀j∈dom c0,j∈dom (Cs c0 A B Z st br):=fun j hj=>lJ C hj
 have hA:A∈dom (Cs c0 A B Z st br):=by rw[q8];simp
 unfold Cs at hp
 rcases List.mem_append.mp hp with hp|hp
 ·rcases List.mem_append.mp hp with hp|hp
  ·rcases List.mem_append.mp hp with hp|hp
   ·obtain⟨o,h1,h2⟩:=celW_iff.mp C.w.w p hp
    exact⟨o,by rw[mT C (ai h1)];exact h1,eC hd h2⟩
   ·have e:p=(A,.list (aP st)):=by simpa using hp
    subst e;exact⟨_,qy C,rfl⟩
  ·have e:p=(B,.bound "list.append" A):=by simpa using hp
   subst e;exact⟨_,wL C,rfl,rfl,hA⟩
 ·have e:p=(Z,.list (brD br)):=by simpa using hp
  subst e;exact⟨_,qK C,rfl⟩
end
noncomputable abbrev S2 (k:Nat) (x:Str) (gl:List Nat) (A B Z:Nat) (i p q nn last m np ch:Option V):Sl:=[some (.obj k),some (.d (.str x)),some (.d (.lst (aP gl))),i,p,q,nn,last,some (.obj A),some (.obj B),some (.obj Z),m,np,ch]
def dr (C:aa)(o o':Option V):Prop:=o'=none∨∃v,o=some v∧o'=some v∧vOk C v
theorem db (C:aa)(o:Option V):dr C o none:=.inl rfl
theorem fR (C:aa)(d:D):dr C (some (.d d)) (some (.d d)):=.inr ⟨_,rfl,rfl,trivial⟩
theorem bZ {l r:Sl}{c:aa}{i:Nat}{o':Option V}(h:dr c (aI l i) o')(k:slW l c c (i+1) r):slW l c c i (o'::r):=by
 rcases h with rfl|⟨v,h1,rfl,h2⟩
 ·exact k
 ·exact⟨⟨v,h1,.inl ⟨rfl,h2⟩⟩,k⟩
theorem vd {c0:aa}{A B Z k:Nat}{pr:List Nat}(C:Cel2 c0 A B Z k pr){st:List Nat}{br:List (Nat×Nat)}{x:Str}{gl:List Nat}{i p q nn last m np ch i' nn' m' np' ch':Option V}
  (hi:dr (Cs c0 A B Z st br) i i') (hp:dr (Cs c0 A B Z st br) p p) (hq:dr (Cs c0 A B Z st br) q q) (hn:dr (Cs c0 A B Z st br) nn nn') (hl:dr (Cs c0 A B Z st br) last last) (hm:dr (Cs c0 A B Z st br) m m') (hnp:dr (Cs c0 A B Z st br) np np') (hch:dr (Cs c0 A B Z st br) ch ch') :
  Wk pr ⟨S2 k x gl A B Z i p q nn last m np ch,Cs c0 A B Z st br⟩ ⟨S2 k x gl A B Z i' p q nn' last m' np' ch',Cs c0 A B Z st br⟩:=by
 have o:∀j,j∈dom (Cs c0 A B Z st br)→dr (Cs c0 A B Z st br) (some (.obj j)) (some (.obj j)):=fun j hj=>.inr ⟨_,rfl,rfl,hj⟩
 refine⟨?_,rfl,xP C,fun j hj=>lJ C (C.pr j hj)⟩
 exact bZ (o k (lJ C C.k_)) (bZ (fR _ _) (bZ (fR _ _) (bZ hi (bZ hp (bZ hq (bZ hn (bZ hl (bZ (o A (ai (qy C))) (bZ (o B (ai (wL C))) (bZ (o Z (ai (qK C))) (bZ hm (bZ hnp (bZ hch trivial)))))))))))))
noncomputable def mq:IS:=.while_ (.and (.cmp .GtE (.v 3) (.v 4)) (.cmp .In (.item (.v 1) (.v 3)) (.c (.str ⟨#[32,9,10]⟩)))) [.asg 3 (.bin .Sub (.v 3) (.c (.int 1)))] []
section
variable {P:Pm}{c0:aa}{A B Z k:Nat}{pr:List Nat}{x:Str}{gl:List Nat}
theorem qh (C:Cel2 c0 A B Z k pr)(T:TextOk x){p q:Nat}{last:Str}{st:List Nat}{br:List (Nat×Nat)}{nn m np ch:Option V}(hnn:dr (Cs c0 A B Z st br) nn nn)(hm:dr (Cs c0 A B Z st br) m m)(hnp:dr (Cs c0 A B Z st br) np np)(hch:dr (Cs c0 A B Z st br) ch ch)
  {run:List Nat} (hrun:∀j d,run[j]?=some d→(sg x)[p+j]?=some d) {n:Nat} {K:F→Sg'→Prop}
  (h:∀j:Nat,(j=0∧cZ run=none∨∃d,0<j∧(sg x)[p+j-1]?=some d∧cZ run=some d)→K .next ⟨S2 k x gl A B Z (some (.d (.int (((p+j:Nat):Int)-1)))) (I_ p) (I_ q) nn (some (.d (.str last))) m np ch,Cs c0 A B Z st br⟩) :
  wpS P pr (n+20) mq ⟨S2 k x gl A B Z (some (.d (.int (((p+run.length:Nat):Int)-1)))) (I_ p) (I_ q) nn (some (.d (.str last))) m np ch,Cs c0 A B Z st br⟩ K:=by
 have hl:=aB x
 have hT:=T.len
 unfold mq
 refine⟨fun k' τ=>∃j,k'=j∧j≤run.length∧cZ (run.take j)=cZ run∧τ=⟨S2 k x gl A B Z (some (.d (.int (((p+j:Nat):Int)-1)))) (I_ p) (I_ q) nn (some (.d (.str last))) m np ch,Cs c0 A B Z st br⟩,run.length,⟨_,rfl,Nat.le_refl _,by rw[List.take_length],rfl⟩,?_⟩
 rintro j τ ⟨_,rfl,hj,hlast,rfl⟩
 show ((decide (((p:Nat):Int)≤((p+j:Nat):Int)-1))=false→_)∧((decide (((p:Nat):Int)≤((p+j:Nat):Int)-1))=true→_)
 refine⟨fun e=>?_,fun e=>?_⟩
 ·have hj0:j=0:=by have:=of_decide_eq_false e;exact Om.o282 this
  subst hj0
  refine⟨(fun e=>by contradiction),fun _=>al (h 0 (.inl ⟨rfl,?_⟩))⟩
  rw[←hlast];rfl
 ·obtain⟨j',rfl⟩:∃j',j=j'+1:=⟨j-1,by have:=of_decide_eq_true e;exact Om.o281 this⟩
  obtain⟨d,hd⟩:∃d,run[j']?=some d:=⟨_,List.getElem?_eq_getElem (by exact Om.o74 hj)⟩
  have hxd:=hrun j' d hd
  have hlt:=(List.getElem?_eq_some_iff.mp hxd).1
  have ei:(((p+(j'+1):Nat):Int)-1)=((p+j':Nat):Int):=by exact Om.o280
  have hit:=cg hxd
  have et:run.take (j'+1)=run.take j'++[d]:=by rw[List.take_add_one,hd];rfl
  refine bF (n:=n+17) (.d (.str (Txt.item x (((p+(j'+1):Nat):Int)-1)))) (.d (.str ⟨#[32,9,10]⟩)) (fun K' h=>?_) (fun K' h=>h) ?_
  ·refine bN (n:=n+16) (.d (.str x)) (.d (.int (((p+(j'+1):Nat):Int)-1))) (fun K' h=>h) (fun K' h=>h) ⟨by exact Om.o279,by exact Om.o278 hlt,by exact Om.o63 hT,h⟩
  ·rw[ei,hit]
   show (Txt.contains ⟨#[32,9,10]⟩ ⟨#[d]⟩=true→_)∧(Txt.contains ⟨#[32,9,10]⟩ ⟨#[d]⟩=false→_)
   have hb:Txt.contains ⟨#[32,9,10]⟩ ⟨#[d]⟩=cC d:=by
    rw[hX];show ([32,9,10]:List Nat).contains d=_
    unfold cC
    simp only[List.contains_cons,List.contains_nil,Bool.or_false,Bool.or_assoc]
   rw[hb]
   refine⟨fun e=>?_,fun e=>?_⟩
   ·refine aq (n:=n+17) (.d (.int (((p+j':Nat):Int)-1))) (fun K' h=>h) ?_
    refine al ?_
    show ∃k' υ',k'<j'+1∧_
    exact⟨j',_,Nat.lt_succ_self _,vd C (fR _ _) (fR _ _) (fR _ _) hnn (fR _ _) hm hnp hch,j',rfl,by exact Om.o73 hj,by rw[←hlast,et,fy,if_pos e],rfl⟩
   ·have:=h (j'+1) (.inr ⟨d,by exact Om.o127,(by rw[show p+(j'+1)-1=p+j' by exact Om.o277];exact hxd),(by rw[←hlast,et,fy,if_neg (by rw[e];decide)])⟩)
    rw[ei] at this
    exact al this
end
section
variable {P:Pm}{c0:aa}{A B Z k:Nat}{pr:List Nat}{x:Str}{gl:List Nat}{st:List Nat}{br:List (Nat×Nat)}
theorem xy (C:aa)(e:Int):dr C (some (.mt e)) (some (.mt e)):=.inr ⟨_,rfl,rfl,trivial⟩
theorem eF {n:Nat}{f e1:IE}{kk:Option Nat}{l:Sl}{c:aa}{u v1:V}{K:V→aa→Prop}(hf:∀K':V→aa→Prop,K' u c→wpE P (n+2) f l c K')(h1:∀K':V→aa→Prop,K' v1 c→wpE P (n+1) e1 l c K')
  (h:ef P c kk u [v1] K):wpE P (n+3) (.call f [e1] kk) l c K:=by
 rw[e6]
 refine hf _ ?_
 rw[aZ]
 refine h1 _ ?_
 exact h
theorem rX {n:Nat}{o e1:IE}{m:Mn}{l:Sl}{c:aa}{u v1:V}{K:V→aa→Prop}(ho:∀K':V→aa→Prop,K' u c→wpE P (n+2) o l c K')(hm:dz c u m)(h1:∀K':V→aa→Prop,K' v1 c→wpE P (n+1) e1 l c K')
  (h:nx c u m [v1] K):wpE P (n+3) (.meth o m [e1]) l c K:=by
 rw[eX]
 refine ho _ ⟨hm,?_⟩
 rw[aZ]
 refine h1 _ ?_
 exact h
theorem nu {n:Nat}{e1 e2:IE}{l:Sl}{c:aa}{d1 d2:D}{K:V→aa→Prop}(h1:∀K':V→aa→Prop,K' (.d d1) c→wpE P (n+2) e1 l c K')(h2:∀K':V→aa→Prop,K' (.d d2) c→wpE P (n+1) e2 l c K')
  (h:K (.d (.tup [d1,d2])) c):wpE P (n+4) (.tup [e1,e2]) l c K:=by
 rw[sI,aZ]
 refine h1 _ ?_
 rw[aZ]
 refine h2 _ ?_
 exact⟨(by show 2≤big;decide),h⟩
theorem bL (l:List Nat):(aP l).length=l.length:=by simp[aP]
theorem nH (l:List (Nat×Nat)):(brD l).length=l.length:=by simp[brD]
theorem ub (C:Cel2 c0 A B Z k pr):bX (Cs c0 A B Z st br) (.obj A)=some (false,aP st):=by
 show (match ae (Cs c0 A B Z st br) A with|some (.list xs)=>some (false,xs)|_=>none)=_
 rw[qy C]
theorem y4 (C:Cel2 c0 A B Z k pr):bX (Cs c0 A B Z st br) (.obj Z)=some (false,brD br):=by
 show (match ae (Cs c0 A B Z st br) Z with|some (.list xs)=>some (false,xs)|_=>none)=_
 rw[qK C]
theorem gS (C:Cel2 c0 A B Z k pr){n:Nat}{l:Sl}(h8:aI l 8=some (.obj A))(hs:st.length≤big)(K':V→aa→Prop)(h:K' (.d (.int (st.length:Nat))) (Cs c0 A B Z st br)) :
  wpE P (n+4) (.call (.g (.bi .len)) [(.v 8)] none) l (Cs c0 A B Z st br) K':=by
 refine eF (n:=n+1) (u:=.bi .len) (v1:=.obj A) (fun K' h=>h) (bv h8) ?_
 show tI (Cs c0 A B Z st br) (.obj A) K'
 show aw (bX (Cs c0 A B Z st br) (.obj A)) _
 rw[ub C]
 exact⟨by rw[bL];exact hs,by rw[bL];exact h⟩
theorem na (C:Cel2 c0 A B Z k pr){n:Nat}{l:Sl}(h8:aI l 8=some (.obj A))(hs:st.length≤big)(K':V→aa→Prop)(h:K' (.d (.int ((st.length+1:Nat)))) (Cs c0 A B Z st br)) :
  wpE P (n+5) (.bin .Add (.call (.g (.bi .len)) [(.v 8)] none) (.c (.int 1))) l (Cs c0 A B Z st br) K':=by
 rw[cp]
 refine gS C h8 hs _ ?_
 have e:((st.length:Nat):Int)+1=((st.length+1:Nat):Int):=by exact Om.o291
 show K' (.d (.int (((st.length:Nat):Int)+1))) _
 rw[e];exact h
theorem fc (C:Cel2 c0 A B Z k pr){n p v:Nat}{e:IE}{r:List IS}{l:Sl}{K:F→Sg'→Prop}(h10:aI l 10=some (.obj Z))(h4:aI l 4=some (.d (.int (p:Nat))))(hb:br.length≤big)
  (he:∀K':V→aa→Prop,K' (.d (.int (v:Nat))) (Cs c0 A B Z st br)→wpE P (n+1) e l (Cs c0 A B Z st br) K') (h:wpB P pr (n+7) r ⟨l,Cs c0 A B Z st (br++[(p,v)])⟩ K) :
  wpB P pr (n+8) (.expr (.meth (.v 10) .append [(.tup [(.v 4),e])])::r) ⟨l,Cs c0 A B Z st br⟩ K:=by
 refine eP (n:=n+6) (.d .none) (c':=Cs c0 A B Z st (br++[(p,v)])) (fun K' hK=>?_) h
 refine rX (n:=n+3) (u:=.obj Z) (v1:=.d (.tup [.int (p:Nat),.int (v:Nat)])) (bv h10) ?_ (fun K' h=>nu (n:=n) (bv h4) he h) ?_
 ·refine⟨rfl,?_⟩
  rw[qK C];trivial
 refine⟨rfl,?_⟩
 rw[qK C]
 show (brD br).length≤big∧K' (.d .none) (cset (Cs c0 A B Z st br) Z (.list (brD br++[.tup [.int (p:Nat),.int (v:Nat)]])))
 refine⟨by rw[nH];exact hb,?_⟩
 have e:brD br++[D.tup [.int (p:Nat),.int (v:Nat)]]=brD (br++[(p,v)]):=by simp[brD]
 rw[e,ux C];exact hK
theorem tf (C:Cel2 c0 A B Z k pr){n p:Nat}{r:List IS}{l:Sl}{K:F→Sg'→Prop}(h9:aI l 9=some (.obj B))(h4:aI l 4=some (.d (.int (p:Nat))))(hs:st.length≤big)(h:wpB P pr (n+5) r ⟨l,Cs c0 A B Z (st++[p]) br⟩ K) :
  wpB P pr (n+6) (.expr (.call (.v 9) [(.v 4)] none)::r) ⟨l,Cs c0 A B Z st br⟩ K:=by
 refine eP (n:=n+4) (.d .none) (c':=Cs c0 A B Z (st++[p]) br) (fun K' hK=>?_) h
 refine eF (n:=n+1) (u:=.obj B) (v1:=.d (.int (p:Nat))) (bv h9) (bv h4) ?_
 show e9 (ae (Cs c0 A B Z st br) B) _
 rw[wL C]
 refine⟨rfl,?_⟩
 show cy (ae (Cs c0 A B Z st br) A) _
 rw[qy C]
 refine⟨by rw[bL];exact hs,?_⟩
 have e:aP st++[D.int (p:Nat)]=aP (st++[p]):=by simp[aP]
 rw[e,m3 C];exact hK
noncomputable def q5 (cr:Addr):List IS:=[.asg 11 (.call (.g (.val (.ref cr))) [(.v 1),(.v 4),(.v 5)] none),
 .if_ (.v 11) [.asg 12 (.meth (.v 11) .end_ []),.asg 3 (.bin .Sub (.v 12) (.c (.int 1))),mq,.if_ (.cmp .GtE (.v 3) (.v 4)) [.asg 7 (.item (.v 1) (.v 3))] [],.asg 4 (.v 12),.if_ (.cmp .GtE (.v 4) (.v 5)) [.brk] []] []]
theorem rN {q p:Nat}(hq:q≤x.length)(j d:Nat)(h:((ao x q p).takeWhile Re.ord_)[j]?=some d):(sg x)[p+j]?=some d:=by
 have h1:(ao x q p)[j]?=some d:=by
  have hlt:=(List.getElem?_eq_some_iff.mp h).1
  rw[←Re.tw_take Re.ord_ (ao x q p),List.getElem?_take,if_pos hlt] at h;exact h
 unfold ao at h1
 rw[List.getElem?_drop,List.getElem?_take] at h1
 split at h1
 ·exact h1
 ·contradiction
theorem oP (C:Cel2 c0 A B Z k pr)(T:TextOk x){cr:Addr}(hj:P.isFn cr=true)(hjf:P.fn cr=aS Re.chewC){p q:Nat}(hpq:p<q)(hq:q≤x.length){last:Str}{i nn m np ch:Option V}(hnn:nn=none∨∃d,nn=some (.d d))(hch:ch=none){n:Nat}{r:List IS}{K:F→Sg'→Prop}
  (hb:(ao x q p).dropWhile Re.ord_=[]→∀i m np,K .brk ⟨S2 k x gl A B Z i (I_ (p+((ao x q p).takeWhile Re.ord_).length)) (I_ q) nn (some (.d (.str (lastOf ((ao x q p).takeWhile Re.ord_) last)))) m np ch,Cs c0 A B Z st br⟩)
  (hn:(ao x q p).dropWhile Re.ord_≠[]→∀i m np,wpB P pr (n+38) r ⟨S2 k x gl A B Z i (I_ (p+((ao x q p).takeWhile Re.ord_).length)) (I_ q) nn (some (.d (.str (lastOf ((ao x q p).takeWhile Re.ord_) last)))) m np ch,Cs c0 A B Z st br⟩ K) :
  wpB P pr (n+40) (q5 cr++r) ⟨S2 k x gl A B Z i (I_ p) (I_ q) nn (some (.d (.str last))) m np ch,Cs c0 A B Z st br⟩ K:=by
 have hnn':∀C,dr C nn nn:=fun C=>by rcases hnn with rfl|⟨d,rfl⟩;exact db _ _;exact fR _ _
 subst hch
 have hl:=aB x
 have hT:=T.len
 have hlen:=cj (p:=p) hq
 have hsplit:((ao x q p).takeWhile Re.ord_).length+((ao x q p).dropWhile Re.ord_).length=q-p:=by
  rw[←List.length_append,List.takeWhile_append_dropWhile,hlen]
 have hrun:=rN (x:=x) (p:=p) hq
 generalize hw:(ao x q p).takeWhile Re.ord_=run at *
 generalize hd:(ao x q p).dropWhile Re.ord_=dr' at *
 show wpB P pr (n+40) (.asg 11 _::.if_ (.v 11) _ []::r) _ K
 refine aq (n:=n+38) (if run.length=0 then .d .none else .mt ((p+run.length:Nat))) (fun K' h=>oG (n:=n+33) T hj hjf hpq hq rfl rfl rfl K' (by rw[hw];exact h)) ?_
 by_cases h0:run.length=0
 ·rw[if_pos h0]
  have hr0:run=[]:=List.length_eq_zero_iff.mp h0
  have hne:dr'≠[]:=fun e=>by rw[e,h0] at hsplit;simp at hsplit;exact Om.o290 hpq hsplit
  refine bb (n:=n+37) false (c':=Cs c0 A B Z st br) (fun K' h=>h) (al ?_)
  have:=hn hne i (some (.d .none)) np
  subst hr0
  exact this
 ·rw[if_neg h0]
  refine bb (n:=n+37) true (c':=Cs c0 A B Z st br) (fun K' h=>h) ?_
  show wpB P pr (n+37) [_,_,_,_,_,_] _ _
  refine aq (n:=n+35) (.d (.int ((p+run.length:Nat)))) (fun K' h=>by rw[eX];exact bv (n:=n+33) (v:=.mt ((p+run.length:Nat))) rfl _ ⟨rfl,rfl,rfl,h⟩) ?_
  refine aq (n:=n+34) (.d (.int (((p+run.length:Nat):Int)-1))) (fun K' h=>h) ?_
  refine cG (n:=n+34) (qh (n:=n+14) C T (hnn' _) (xy _ _) (fR _ _) (db _ _) hrun fun j hj=>?_)
  have go:∀last1,last1=lastOf run last→∀i,wpB P pr (n+33) [.asg 4 (.v 12),.if_ (.cmp .GtE (.v 4) (.v 5)) [.brk] []] ⟨S2 k x gl A B Z i (I_ p) (I_ q) nn (some (.d (.str last1))) (some (.mt ((p+run.length:Nat)))) (some (.d (.int ((p+run.length:Nat))))) none,Cs c0 A B Z st br⟩
    (fun f τ=>match f with | .next=>wpB P pr (n+38) r τ K|f=>K f τ):=by
   intro last1 e i
   subst e
   refine aq (n:=n+31) (.d (.int ((p+run.length:Nat)))) (fun K' h=>h) ?_
   by_cases hr:dr'=[]
   ·rw[hr] at hsplit
    dsimp only[List.length_nil,Nat.add_zero] at hsplit
    refine bb (n:=n+30) true (c':=Cs c0 A B Z st br) (fun K' h=>?_) ?_
    ·show K' (decide (((q:Nat):Int)≤((p+run.length:Nat):Int))) _
     rw[decide_eq_true (by exact Om.o289 hsplit)];exact h
    ·exact hb hr i _ _
   ·have:0<dr'.length:=List.length_pos_iff.mpr hr
    refine bb (n:=n+30) false (c':=Cs c0 A B Z st br) (fun K' h=>?_) ?_
    ·show K' (decide (((q:Nat):Int)≤((p+run.length:Nat):Int))) _
     rw[decide_eq_false (by exact Om.o288 hsplit this)];exact h
    ·exact al (al (hn hr i _ _))
  rcases hj with ⟨rfl,hlast⟩|⟨d,hj0,hxd,hlast⟩
  ·refine bb (n:=n+32) false (c':=Cs c0 A B Z st br) (fun K' h=>?_) (al (go last ?_ _))
   ·show K' (decide (((p:Nat):Int)≤((p+0:Nat):Int)-1)) _
    rw[decide_eq_false (by exact Om.o287)];exact h
   ·unfold lastOf;rw[hlast]
  ·refine bb (n:=n+32) true (c':=Cs c0 A B Z st br) (fun K' h=>?_) ?_
   ·show K' (decide (((p:Nat):Int)≤((p+j:Nat):Int)-1)) _
    rw[decide_eq_true (by exact Om.o286 hj0)];exact h
   ·have ei:(((p+j:Nat):Int)-1)=((p+j-1:Nat):Int):=by exact Om.o285 hj0
    have hlt:=(List.getElem?_eq_some_iff.mp hxd).1
    refine aq (n:=n+30) (.d (.str (Txt.item x (((p+j:Nat):Int)-1)))) (fun K' h=>bN (n:=n+29) (.d (.str x)) (.d (.int (((p+j:Nat):Int)-1))) (fun K' h=>h) (fun K' h=>h) ⟨by exact Om.o284 ei,by exact Om.o283 hlt,by exact Om.o63 hT,h⟩) ?_
    rw[ei,cg hxd]
    exact al (go _ (by unfold lastOf;rw[hlast]) _)
end
noncomputable abbrev lF:IE:=.call (.g (.bi .len)) [(.v 8)] none
noncomputable abbrev lM (e:IE):IS:=.expr (.meth (.v 10) .append [(.tup [(.v 4),e])])
noncomputable abbrev ox:IS:=.asg 4 (.bin .Add (.v 4) (.c (.int 1)))
noncomputable def ry:List IS:=[.expr (.call (.v 9) [(.v 4)] none),lM lF,.asg 7 (.v 13),ox,.cont]
noncomputable def jb:List IS:=[.if_ (.v 8) [.del_ (.v 8) (.c (.int (-1)))] [],.asg 7 (.v 13),ox,lM lF,.cont]
noncomputable def vt (sr:Addr):List IS:=[lM (.bin .Add lF (.c (.int 1))),.asg 7 (.v 13),.asg 4 (.meth (.call (.g (.val (.ref sr))) [(.v 1),(.v 4),(.v 5)] none) .end_ []),lM lF,.cont]
noncomputable def vF:List IS:=[lM (.bin .Add lF (.c (.int 1))),.asg 4 (.bin .Add (.meth (.v 1) .find [(.c (.str ⟨#[10]⟩)),(.v 4),(.v 5)]) (.c (.int 1))),.assert (.cmp .Gt (.v 4) (.c (.int 0))),lM lF,.cont]
noncomputable def xh:List IS:=[.assert (.cmp .Eq (.v 13) (.c (.str ⟨#[92]⟩))),ox,.assert (.cmp .Lt (.v 4) (.v 5)),
 .if_ (.cmp .NotEq (.item (.v 1) (.v 4)) (.c (.str ⟨#[10]⟩))) [.asg 7 (.bin .Add (.v 13) (.item (.v 1) (.v 4)))] [],ox]
noncomputable def tj (sr:Addr):List IS:=.asg 13 (.item (.v 1) (.v 4))::.if_ (.cmp .In (.v 13) (.c (.str ⟨#[40,91,123]⟩))) ry []::.if_ (.cmp .In (.v 13) (.c (.str ⟨#[41,93,125]⟩))) jb [] ::
 .if_ (.or (.cmp .Eq (.v 13) (.c (.str ⟨#[34]⟩))) (.cmp .Eq (.v 13) (.c (.str ⟨#[39]⟩)))) (vt sr) []::.if_ (.cmp .Eq (.v 13) (.c (.str ⟨#[35]⟩))) vF []::xh
section
variable {P:Pm}{c0:aa}{A B Z k:Nat}{pr:List Nat}{x:Str}{gl:List Nat}{st:List Nat}{br:List (Nat×Nat)}{p q n ch:Nat}{last:Str}{i nn m np:Option V}{K:F→Sg'→Prop}
noncomputable abbrev chO (ch:Nat):Option V:=some (.d (.str ⟨#[ch]⟩))
theorem so (p:Nat):((p:Nat):Int)+1=((p+1:Nat):Int):=by exact Om.o291
theorem wm {n:Nat}{a i:IE}{r:List IS}{l:Sl}{c:aa}{u v:V}{K:F→Sg'→Prop}(ho:∀K':V→aa→Prop,K' u c→wpE P n a l c K')(hi:∀K':V→aa→Prop,K' v c→wpE P n i l c K')(h:uF c u v (fun c3=>wpB P pr (n+1) r ⟨l,c3⟩ K)) :
  wpB P pr (n+2) (.del_ a i::r) ⟨l,c⟩ K:=by
 exact ho _ (hi _ h)
theorem sL (C:Cel2 c0 A B Z k pr)(hs:st.length+2≤big)(hb:br.length+2≤big)
  (h:K .cont ⟨S2 k x gl A B Z i (I_ (p+1)) (I_ q) nn (chO ch) m np (chO ch),Cs c0 A B Z (st++[p]) (br++[(p,st.length+1)])⟩) :
  wpB P pr (n+20) ry ⟨S2 k x gl A B Z i (I_ p) (I_ q) nn (some (.d (.str last))) m np (chO ch),Cs c0 A B Z st br⟩ K:=by
 unfold ry
 refine tf (n:=n+14) C rfl rfl (by exact Om.o293 hs) ?_
 refine fc (n:=n+11) (v:=st.length+1) C rfl rfl (by exact Om.o293 hb) (fun K' h=>gS (n:=n+8) C rfl (by rw[List.length_append];dsimp only[List.length_cons,List.length_nil];exact Om.o294 hs) K' (by rw[List.length_append];exact h)) ?_
 refine aq (n:=n+16) (.d (.str ⟨#[ch]⟩)) (fun K' h=>h) ?_
 refine aq (n:=n+15) (.d (.int ((p+1:Nat)))) (fun K' h=>by rw[←so] at h;exact h) ?_
 exact h
theorem oN (C:Cel2 c0 A B Z k pr)(hs:st.length+2≤big)(hb:br.length+2≤big)
  (h:K .cont ⟨S2 k x gl A B Z i (I_ (p+1)) (I_ q) nn (chO ch) m np (chO ch),Cs c0 A B Z st.dropLast (br++[(p+1,st.dropLast.length)])⟩) :
  wpB P pr (n+20) jb ⟨S2 k x gl A B Z i (I_ p) (I_ q) nn (some (.d (.str last))) m np (chO ch),Cs c0 A B Z st br⟩ K:=by
 unfold jb
 have go:wpB P pr (n+19) [.asg 7 (.v 13),ox,lM lF,.cont] ⟨S2 k x gl A B Z i (I_ p) (I_ q) nn (some (.d (.str last))) m np (chO ch),Cs c0 A B Z st.dropLast br⟩ K:=by
  refine aq (n:=n+17) (.d (.str ⟨#[ch]⟩)) (fun K' h=>h) ?_
  refine aq (n:=n+16) (.d (.int ((p+1:Nat)))) (fun K' h=>by rw[←so] at h;exact h) ?_
  refine fc (n:=n+9) (v:=st.dropLast.length) C rfl rfl (by exact Om.o293 hb) (fun K' h=>gS (n:=n+6) C rfl (by rw[List.length_dropLast];exact Om.o302 hs) K' h) ?_
  exact h
 have htr:∀K':Bool→aa→Prop,K' (!st.isEmpty) (Cs c0 A B Z st br)→wpT P (n+18) (.v 8) (S2 k x gl A B Z i (I_ p) (I_ q) nn (some (.d (.str last))) m np (chO ch)) (Cs c0 A B Z st br) K':=fun K' h=>by
  show aw (bX (Cs c0 A B Z st br) (.obj A)) _
  rw[ub C]
  refine⟨by rw[bL];exact Om.o293 hs,?_⟩
  have e:(aP st).isEmpty=st.isEmpty:=by cases st<;>rfl
  rw[e];exact h
 refine bb (n:=n+18) (!st.isEmpty) (c':=Cs c0 A B Z st br) htr ?_
 cases st with
 |nil=>exact al go
 |cons a r=>
  show wpB P pr (n+18) [.del_ (.v 8) (.c (.int (-1)))] _ _
  refine wm (n:=n+16) (u:=.obj A) (v:=.d (.int (-1))) (fun K' h=>h) (fun K' h=>h) ?_
  refine⟨rfl,?_⟩
  rw[qy C]
  refine⟨by simp[aP],by rw[bL];exact Om.o293 hs,al ?_⟩
  have e:(aP (a::r)).dropLast=aP (a::r).dropLast:=by unfold aP;rw[List.map_dropLast]
  rw[e,m3 C];exact go
theorem uq (C:Cel2 c0 A B Z k pr)(T:TextOk x){sr:Addr}(hj:P.isFn sr=true)(hjf:P.fn sr=aS Re.strC)(hpq:p<q)(hq:q≤x.length){r:List Nat}(hr:ao x q p=ch::r)(hch:ch=34∨ch=39)(hs:st.length+2≤big)(hb:br.length+2≤big)
  (h:K .cont ⟨S2 k x gl A B Z i (I_ (p+Re.strEnd (ch::r))) (I_ q) nn (chO ch) m np (chO ch),Cs c0 A B Z st (br++[(p,st.length+1)]++[(p+Re.strEnd (ch::r),st.length)])⟩) :
  wpB P pr (n+20) (vt sr) ⟨S2 k x gl A B Z i (I_ p) (I_ q) nn (some (.d (.str last))) m np (chO ch),Cs c0 A B Z st br⟩ K:=by
 unfold vt
 refine fc (n:=n+12) (v:=st.length+1) C rfl rfl (by exact Om.o293 hb) (fun K' h=>na (n:=n+8) C rfl (by exact Om.o293 hs) K' h) ?_
 refine aq (n:=n+17) (.d (.str ⟨#[ch]⟩)) (fun K' h=>h) ?_
 refine aq (n:=n+16) (.d (.int ((p+Re.strEnd (ch::r):Nat)))) (fun K' h=>?_) ?_
 ·rw[eX]
  refine pY (n:=n+10) T hj hjf hpq hq hr hch rfl rfl rfl _ ⟨rfl,?_⟩
  exact⟨rfl,rfl,h⟩
 refine fc (n:=n+9) (v:=st.length) C rfl rfl (by rw[List.length_append];dsimp only[List.length_cons,List.length_nil];exact Om.o294 hb) (fun K' h=>gS (n:=n+6) C rfl (by exact Om.o293 hs) K' h) ?_
 exact h
theorem fX {j d:Nat}(hq:q≤x.length)(h:(ao x q p)[j]?=some d):(sg x)[p+j]?=some d∧p+j<q:=by
 unfold ao at h
 rw[List.getElem?_drop,List.getElem?_take] at h
 split at h
 ·rename_i hl;exact⟨h,hl⟩
 ·contradiction
theorem vG (C:Cel2 c0 A B Z k pr)(T:TextOk x)(hq:q≤x.length){r:List Nat}(hr:ao x q p=35::r)(hnl:10∈r)(hs:st.length+2≤big)(hb:br.length+2≤big)
  (h:K .cont ⟨S2 k x gl A B Z i (I_ (p+(r.takeWhile (fun c=>c != 10)).length+2)) (I_ q) nn (some (.d (.str last))) m np (chO ch),Cs c0 A B Z st (br++[(p,st.length+1)]++[(p+(r.takeWhile (fun c=>c != 10)).length+2,st.length)])⟩) :
  wpB P pr (n+20) vF ⟨S2 k x gl A B Z i (I_ p) (I_ q) nn (some (.d (.str last))) m np (chO ch),Cs c0 A B Z st br⟩ K:=by
 have hl:=aB x
 have hex:∀r':List Nat,10∈r'→r'[(r'.takeWhile (fun c=>c != 10)).length]?=some 10∧∀j,j<(r'.takeWhile (fun c=>c != 10)).length→r'[j]?≠some 10:=by
  intro r'
  induction r' with
  |nil=>intro h;contradiction
  |cons c r' ih=>
   intro hm
   by_cases hc:c=10
   ·subst hc;exact⟨rfl,fun j hj=>by simp at hj⟩
   ·have hb:(c != 10)=true:=bne_iff_ne.mpr hc
    have:=ih (by rcases List.mem_cons.mp hm with h|h;exact absurd h.symm hc;exact h)
    rw[List.takeWhile_cons,hb,if_pos rfl,List.length_cons]
    refine⟨by rw[List.getElem?_cons_succ];exact this.1,fun j hj=>?_⟩
    cases j with
    |zero=>simp[hc]
    |succ j=>rw[List.getElem?_cons_succ];exact this.2 j (by exact Om.o301 hj)
 obtain⟨h1,h2⟩:=hex r hnl
 have a1:(sg x)[p+((r.takeWhile (fun c=>c != 10)).length+1)]?=some 10∧p+((r.takeWhile (fun c=>c != 10)).length+1)<q:=fX hq (by rw[hr,List.getElem?_cons_succ];exact h1)
 have a0:(sg x)[p]?=some 35:=(fX (j:=0) hq (by rw[hr];rfl)).1
 have hf:er x ⟨#[10]⟩ p q+1=((p+(r.takeWhile (fun c=>c != 10)).length+2:Nat):Int):=by
  obtain⟨j,e,j1,j2,j3,j4⟩:=mH (x:=x) (i:=p) (hi:=q) hq ⟨_,by exact Om.o298,a1.2,a1.1⟩
  rw[e]
  have hj:j=p+((r.takeWhile (fun c=>c != 10)).length+1):=by
   rcases Nat.lt_trichotomy j (p+((r.takeWhile (fun c=>c != 10)).length+1)) with h|h|h
   ·exfalso
    by_cases hjp:j=p
    ·rw[hjp,a0] at j3;contradiction
    ·obtain⟨t,ht⟩:∃t,j=p+(t+1):=⟨j-p-1,by exact Om.o300 j1 hjp⟩
     refine h2 t (by exact Om.o299 h ht) ?_
     have:(ao x q p)[t+1]?=some 10:=by
      unfold ao;rw[List.getElem?_drop,List.getElem?_take,if_pos (by omega),←ht];exact j3
     rw[hr,List.getElem?_cons_succ] at this;exact this
   ·exact h
   ·exact absurd a1.1 (j4 _ (by exact Om.o298) h)
  rw[hj];exact Om.o297
 unfold vF
 refine fc (n:=n+12) (v:=st.length+1) C rfl rfl (by exact Om.o293 hb) (fun K' h=>na (n:=n+8) C rfl (by exact Om.o293 hs) K' h) ?_
 refine aq (n:=n+17) (.d (.int ((p+(r.takeWhile (fun c=>c != 10)).length+2:Nat)))) (fun K' h=>?_) ?_
 ·refine⟨rfl,rfl,⟨?_,?_,?_⟩,?_⟩
  ·show (0:Int)≤((p:Nat):Int);exact Om.o72
  ·show (0:Int)≤((q:Nat):Int);exact Om.o72
  ·show ((q:Nat):Int)≤((x.length:Nat):Int);exact Om.o296 hq
  ·show K' (.d (.int (er x ⟨#[10]⟩ ((p:Nat):Int).toNat ((q:Nat):Int).toNat+1))) _
   rw[Int.toNat_natCast,Int.toNat_natCast,hf];exact h
 refine b9 (n:=n+16) (c':=Cs c0 A B Z st (br++[(p,st.length+1)])) (fun K' h=>?_) ?_
 ·show K' (decide ((0:Int)<((p+(r.takeWhile (fun c=>c != 10)).length+2:Nat):Int))) _
  rw[decide_eq_true (by exact Om.o295)];exact h
 refine fc (n:=n+9) (v:=st.length) C rfl rfl (by rw[List.length_append];dsimp only[List.length_cons,List.length_nil];exact Om.o294 hb) (fun K' h=>gS (n:=n+6) C rfl (by exact Om.o293 hs) K' h) ?_
 exact h
theorem wO (T:TextOk x)(hq:q≤x.length){d:Nat}{r:List Nat}(hr:ao x q p=92::d::r)
  (h:K .next ⟨S2 k x gl A B Z i (I_ (p+2)) (I_ q) nn (some (.d (.str (if d=10 then last else ⟨#[92,d]⟩)))) m np (chO 92),Cs c0 A B Z st br⟩) :
  wpB P pr (n+20) xh ⟨S2 k x gl A B Z i (I_ p) (I_ q) nn (some (.d (.str last))) m np (chO 92),Cs c0 A B Z st br⟩ K:=by
 have hl:=aB x
 have hT:=T.len
 obtain⟨a1,a2⟩:=fX (j:=1) (d:=d) hq (by rw[hr];rfl)
 have hit:=cg a1
 have hlt:=(List.getElem?_eq_some_iff.mp a1).1
 unfold xh
 refine b9 (n:=n+18) (c':=Cs c0 A B Z st br) (fun K' h=>h) ?_
 refine aq (n:=n+17) (.d (.int ((p+1:Nat)))) (fun K' h=>by rw[←so] at h;exact h) ?_
 refine b9 (n:=n+16) (c':=Cs c0 A B Z st br) (fun K' h=>?_) ?_
 ·show K' (decide (((p+1:Nat):Int)<((q:Nat):Int))) _
  rw[decide_eq_true (by exact Om.o70 a2)];exact h
 have itm:∀{n:Nat} {l:Sl},aI l 1=some (.d (.str x))→aI l 4=some (.d (.int ((p+1:Nat))))→∀K':V→aa→Prop,K' (.d (.str ⟨#[d]⟩)) (Cs c0 A B Z st br)→wpE P (n+2) (.item (.v 1) (.v 4)) l (Cs c0 A B Z st br) K':=fun h1 h4 K' h=>
  bN (.d (.str x)) (.d (.int ((p+1:Nat)))) (bv h1) (bv h4) ⟨by exact Om.o71,by exact Om.o70 hlt,by exact Om.o63 hT,by rw[hit];exact h⟩
 have fin:wpB P pr (n+16) [ox] ⟨S2 k x gl A B Z i (I_ (p+1)) (I_ q) nn (some (.d (.str (if d=10 then last else ⟨#[92,d]⟩)))) m np (chO 92),Cs c0 A B Z st br⟩ K:=
  aq (n:=n+14) (.d (.int ((p+2:Nat)))) (fun K' h=>by rw[show ((p+2:Nat):Int)=((p+1:Nat):Int)+1 by exact Om.o292] at h;exact h) (al h)
 refine bb (n:=n+15) (!decide (d=10)) (c':=Cs c0 A B Z st br) (fun K' h=>?_) ?_
 ·refine bF (n:=n+14) (.d (.str ⟨#[d]⟩)) (.d (.str ⟨#[10]⟩)) (itm rfl rfl) (fun K' h=>h) ?_
  show K' (!((⟨#[d]⟩:Str)==⟨#[10]⟩)) _
  rw[mw];exact h
 ·by_cases hd:d=10
  ·rw[if_pos hd] at fin
   rw[decide_eq_true hd]
   exact al fin
  ·rw[if_neg hd] at fin
   rw[decide_eq_false hd]
   refine aq (n:=n+13) (.d (.str ⟨#[92,d]⟩)) (fun K' h=>?_) (al fin)
   rw[cp]
   refine bv rfl _ ?_
   exact itm rfl rfl _ ⟨(by show 1+1≤big;decide),h⟩
end
section
variable {P:Pm}{c0:aa}{A B Z k:Nat}{pr:List Nat}{x:Str}{gl:List Nat}{st:List Nat}{br:List (Nat×Nat)}{p q n ch:Nat}{last:Str}{i nn m np:Option V}{K:F→Sg'→Prop}
theorem yS {c:aa}{l:Sl}{y:Str}(h13:aI l 13=chO ch)(K':Bool→aa→Prop)(h:K' ((sg y).contains ch) c):wpT P (n+2) (.cmp .In (.v 13) (.c (.str y))) l c K':=by
 refine bF (n:=n+1) (.d (.str ⟨#[ch]⟩)) (.d (.str y)) (bv h13) (fun K' h=>h) ?_
 show K' (Txt.contains y ⟨#[ch]⟩) c
 rw[hX];exact h
theorem wK {c:aa}{l:Sl}{a:Nat}(h13:aI l 13=chO ch)(K':Bool→aa→Prop)(h:K' (decide (ch=a)) c):wpT P (n+2) (.cmp .Eq (.v 13) (.c (.str ⟨#[a]⟩))) l c K':=by
 refine bF (n:=n+1) (.d (.str ⟨#[ch]⟩)) (.d (.str ⟨#[a]⟩)) (bv h13) (fun K' h=>h) ?_
 show K' ((⟨#[ch]⟩:Str)==⟨#[a]⟩) c
 rw[mw];exact h
theorem c3 (a b c ch:Nat):(sg ⟨#[a,b,c]⟩).contains ch=decide (ch=a∨ch=b∨ch=c):=by
 show ([a,b,c]:List Nat).contains ch=_
 simp only[List.contains_cons,List.contains_nil,Bool.or_false]
 by_cases h1:ch=a<;>by_cases h2:ch=b<;>by_cases h3:ch=c<;>simp[h1,h2,h3]
noncomputable abbrev T2 (k:Nat) (x:Str) (gl:List Nat) (A B Z q:Nat) (i nn m np ch:Option V) (c0:aa) (s:L2):Sg':=⟨S2 k x gl A B Z i (I_ s.p) (I_ q) nn (some (.d (.str s.last))) m np ch,Cs c0 A B Z s.st s.br⟩
theorem tm {ch:Nat}(hsp:Re.special ch=true)(h1:¬(ch=40∨ch=91∨ch=123))(h2:¬(ch=41∨ch=93∨ch=125))(h3:¬(ch=34∨ch=39))(h4:¬ch=35):ch=92:=by
 unfold Re.special at hsp
 simp only[Bool.or_eq_true,beq_iff_eq] at hsp
 rcases hsp with ((((((((h|h)|h)|h)|h)|h)|h)|h)|h)|h
 ·exact absurd (.inr (.inl h)) h1
 ·exact absurd (.inr (.inl h)) h2
 ·exact absurd (.inl h) h1
 ·exact absurd (.inl h) h2
 ·exact absurd (.inr (.inr h)) h1
 ·exact absurd (.inr (.inr h)) h2
 ·exact absurd h h4
 ·exact absurd (.inr h) h3
 ·exact absurd (.inl h) h3
 ·exact h
theorem qG (C:Cel2 c0 A B Z k pr)(T:TextOk x){sr:Addr}(hj:P.isFn sr=true)(hjf:P.fn sr=aS Re.strC)(hpq:p<q)(hq:q≤x.length){r:List Nat}(hr:ao x q p=ch::r)(hsp:Re.special ch=true)(hend:(ch::r).getLast?=some 10)(hs:st.length+2≤big)(hb:br.length+2≤big)
  (h:∀f ch',(f=.next∨f=.cont)→K f (T2 k x gl A B Z q i nn m np ch' c0 (dc p last st br (ch::r)))) :
  wpB P pr (n+30) (tj sr) ⟨S2 k x gl A B Z i (I_ p) (I_ q) nn (some (.d (.str last))) m np none,Cs c0 A B Z st br⟩ K:=by
 have hl:=aB x
 have hT:=T.len
 have a0:(sg x)[p]?=some ch:=(fX (j:=0) (d:=ch) hq (by rw[hr];rfl)).1
 have hlt:=(List.getElem?_eq_some_iff.mp a0).1
 unfold tj
 refine aq (n:=n+28) (.d (.str ⟨#[ch]⟩)) (fun K' h=>bN (n:=n+27) (.d (.str x)) (.d (.int (p:Nat))) (fun K' h=>h) (fun K' h=>h) ⟨by exact Om.o54,by exact Om.o53 hlt,by exact Om.o63 hT,by rw[cg a0];exact h⟩) ?_
 refine bb (n:=n+27) (decide (ch=40∨ch=91∨ch=123)) (c':=Cs c0 A B Z st br) (fun K' h=>yS (n:=n+25) rfl K' (by rw[c3];exact h)) ?_
 by_cases h1:ch=40∨ch=91∨ch=123
 ·rw[decide_eq_true h1]
  have e:dc p last st br (ch::r)=⟨p+1,⟨#[ch]⟩,st++[p],br++[(p,st.length+1)]⟩:=by unfold dc;dsimp only;rw[if_pos h1]
  rw[e] at h
  exact sL (n:=n+7) C hs hb (h .cont _ (.inr rfl))
 rw[decide_eq_false h1]
 refine al ?_
 refine bb (n:=n+26) (decide (ch=41∨ch=93∨ch=125)) (c':=Cs c0 A B Z st br) (fun K' h=>yS (n:=n+24) rfl K' (by rw[c3];exact h)) ?_
 by_cases h2:ch=41∨ch=93∨ch=125
 ·rw[decide_eq_true h2]
  have e:dc p last st br (ch::r)=⟨p+1,⟨#[ch]⟩,st.dropLast,br++[(p+1,st.dropLast.length)]⟩:=by unfold dc;dsimp only;rw[if_neg h1,if_pos h2]
  rw[e] at h
  exact oN (n:=n+6) C hs hb (h .cont _ (.inr rfl))
 rw[decide_eq_false h2]
 refine al ?_
 refine bb (n:=n+25) (decide (ch=34∨ch=39)) (c':=Cs c0 A B Z st br) (fun K' h=>?_) ?_
 ·simp only[wo]
  refine wK (n:=n+22) rfl _ ⟨fun e=>?_,fun e=>?_⟩
  ·have:=of_decide_eq_true e
   rw[decide_eq_true (.inl this)] at h;exact h
  ·have n34:=of_decide_eq_false e
   refine wK (n:=n+22) rfl _ ?_
   have:decide (ch=39)=decide (ch=34∨ch=39):=by
    by_cases q:ch=39
    ·rw[decide_eq_true q,decide_eq_true (.inr q)]
    ·rw[decide_eq_false q,decide_eq_false (fun o=>o.elim n34 q)]
   simp only[this];exact h
 by_cases h3:ch=34∨ch=39
 ·rw[decide_eq_true h3]
  have e:dc p last st br (ch::r)=⟨p+Re.strEnd (ch::r),⟨#[ch]⟩,st,br++[(p,st.length+1)]++[(p+Re.strEnd (ch::r),st.length)]⟩:=by unfold dc;dsimp only;rw[if_neg h1,if_neg h2,if_pos h3]
  rw[e] at h
  exact uq (n:=n+5) C T hj hjf hpq hq hr h3 hs hb (h .cont _ (.inr rfl))
 rw[decide_eq_false h3]
 refine al ?_
 refine bb (n:=n+24) (decide (ch=35)) (c':=Cs c0 A B Z st br) (fun K' h=>wK (n:=n+22) rfl K' h) ?_
 by_cases h4:ch=35
 ·rw[decide_eq_true h4]
  subst h4
  have hnl:10∈r:=by
   cases r with
   |nil=>contradiction
   |cons d r=>rw[List.getLast?_cons_cons] at hend;exact List.mem_of_getLast? hend
  have e:dc p last st br (35::r)=⟨p+(r.takeWhile (fun c=>c != 10)).length+2,last,st,br++[(p,st.length+1)]++[(p+(r.takeWhile (fun c=>c != 10)).length+2,st.length)]⟩:=by unfold dc;dsimp only;rw[if_neg h1,if_neg h2,if_neg h3,if_pos rfl]
  rw[e] at h
  exact vG (n:=n+4) C T hq hr hnl hs hb (h .cont _ (.inr rfl))
 rw[decide_eq_false h4]
 refine al ?_
 have h5:=tm hsp h1 h2 h3 h4
 subst h5
 cases r with
 |nil=>contradiction
 |cons d r=>
  have e:dc p last st br (92::d::r)=⟨p+2,if d=10 then last else ⟨#[92,d]⟩,st,br⟩:=by unfold dc;dsimp only;rw[if_neg h1,if_neg h2,if_neg h3,if_neg h4]
  rw[e] at h
  exact wO (n:=n+5) T hq hr (h .next _ (.inl rfl))
structure Ln (x:Str)(q:Nat)(s:L2):Prop where
 p:s.p≤q
 st:s.st.length≤s.p
 br:s.br.length≤2*s.p+1
theorem f7 (q:Nat):∀w:List Nat,Re.sEnd3 q w≤w.length
 | []=>Nat.le_refl _
 | [c]=>by unfold Re.sEnd3;split<;>simp
 |c::d::r=>by
  unfold Re.sEnd3
  have h1:=f7 q r
  have h2:=f7 q (d::r)
  dsimp only[List.length_cons] at h2 ⊢
  split
  ·exact Om.o323 h1
  ·split
   ·rename_i h
    cases r with
    |nil=>exact absurd h.2.2 (by simp)
    |cons a r=>dsimp only[List.length_cons];exact Om.o325
   ·exact Om.o324 h2
theorem gA (q:Nat):∀w:List Nat,Re.sEnd1 q w≤w.length
 | []=>Nat.le_refl _
 | [c]=>by unfold Re.sEnd1;split<;>simp
 |c::d::r=>by
  unfold Re.sEnd1
  have h1:=gA q r
  have h2:=gA q (d::r)
  dsimp only[List.length_cons] at h2 ⊢
  split
  ·exact Om.o323 h1
  ·split
   ·exact Om.o322
   ·split<;>omega
theorem oz (ch:Nat)(r:List Nat):1≤Re.strEnd (ch::r)∧Re.strEnd (ch::r)≤(ch::r).length:=by
 have e:Re.strEnd (ch::r)=if r.head?=some ch∧r.tail.head?=some ch then 3+Re.sEnd3 ch (r.drop 2) else 1+Re.sEnd1 ch r:=rfl
 have h1:=gA ch r
 rw[e]
 split
 ·rename_i h
  match r,h with
  |a::b::r,h=>
   have:=f7 ch r
   exact Om.o321 this
  | [],h=>exact absurd h.1 (by simp)
  | [a],h=>exact absurd h.2 (by simp)
 ·dsimp only[List.length_cons];exact Om.o320 h1
theorem xk {last1:Str}{w:List Nat}(hw:p+w.length=q)(hne:w≠[])(hend:w.getLast?=some 10)(hst:st.length≤p)(hbr:br.length≤2*p+1):Ln x q (dc p last1 st br w)∧p<(dc p last1 st br w).p:=by
 cases w with
 |nil=>exact absurd rfl hne
 |cons ch r=>
  simp only[List.length_cons] at hw
  unfold dc
  dsimp only
  split
  ·refine⟨⟨?_,?_,?_⟩,?_⟩<;>simp only[List.length_append,List.length_cons,List.length_nil]<;>omega
  split
  ·refine⟨⟨?_,?_,?_⟩,?_⟩<;>simp only[List.length_append,List.length_cons,List.length_nil,List.length_dropLast]<;>omega
  split
  ·have:=oz ch r
   simp only[List.length_cons] at this
   refine⟨⟨?_,?_,?_⟩,?_⟩<;>simp only[List.length_append,List.length_cons,List.length_nil]<;>omega
  split
  ·have h1:(r.takeWhile (fun c=>c != 10)).length<r.length:=by
    have h10:10∈r:=by
     rename_i h4
     cases r with
     |nil=>subst h4;contradiction
     |cons d r=>rw[List.getLast?_cons_cons] at hend;exact List.mem_of_getLast? hend
    have hle:(r.takeWhile (fun c=>c != 10)).length≤r.length:=(List.takeWhile_sublist _).length_le
    refine Nat.lt_of_le_of_ne hle fun e=>?_
    have e2:=Re.tw_take (fun c=>c != 10) r
    rw[e,List.take_length] at e2
    rw[e2] at h10
    exact absurd (Re.tw_all _ _ _ h10) (by decide)
   refine⟨⟨?_,?_,?_⟩,?_⟩<;>simp only[List.length_append,List.length_cons,List.length_nil]<;>omega
  ·cases r with
   |nil=>simp only[List.length_nil] at hw;exact⟨⟨(by show p+1≤q;exact Om.o319 hw),(by show st.length≤p+1;exact Om.o13 hst),(by show br.length≤2*(p+1)+1;exact Om.o318 hbr)⟩,(by show p<p+1;exact Om.o43)⟩
   |cons d r=>simp only[List.length_cons] at hw;exact⟨⟨(by show p+2≤q;exact Om.o317 hw),(by show st.length≤p+2;exact Om.o316 hst),(by show br.length≤2*(p+2)+1;exact Om.o315 hbr)⟩,(by show p<p+2;exact Om.o44)⟩
theorem lB (hq:q≤x.length)(hend:(sg x)[q-1]?=some 10)(hpq:p<q):(ao x q p).getLast?=some 10:=by
 have hlen:=cj (p:=p) hq
 rw[List.getLast?_eq_getElem?,hlen]
 unfold ao
 rw[List.getElem?_drop,List.getElem?_take,if_pos (by exact Om.o314 hpq),show p+(q-p-1)=q-1 by exact Om.o313 hpq];exact hend
theorem rQ (C:Cel2 c0 A B Z k pr)(T:TextOk x)(hbig:2*x.length+10≤big){cr sr:Addr}(hc1:P.isFn cr=true)(hc2:P.fn cr=aS Re.chewC)(hj:P.isFn sr=true)(hjf:P.fn sr=aS Re.strC)(hq:q≤x.length)(hend:0<q→(sg x)[q-1]?=some 10)(hnn:nn=none∨∃d,nn=some (.d d))
  {J:L2→Prop} (hJ:∀s,J s→s.p<q→J (cX x q s)) {s0:L2} (hJ0:J s0) (hL0:Ln x q s0)
  (h:∀s i m np ch,J s→s.p=q→Ln x q s→K .next (T2 k x gl A B Z q i nn m np ch c0 s)) :
  wpS P pr (n+60) (.while_ (.cmp .Lt (.v 4) (.v 5)) (q5 cr++tj sr) []) (T2 k x gl A B Z q i nn none none none c0 s0) K:=by
 have hl:=aB x
 refine⟨fun k' τ=>∃s i,k'=q-s.p∧J s∧Ln x q s∧τ=T2 k x gl A B Z q i nn none none none c0 s,_,⟨s0,i,rfl,hJ0,hL0,rfl⟩,?_⟩
 rintro k' τ ⟨s,i,rfl,hJs,hLs,rfl⟩
 obtain⟨hL1,hL2,hL3⟩:=hLs
 refine⟨fun e=>?_,fun e=>?_⟩
 ·have hpq:s.p<q:=by have:=of_decide_eq_true e;exact Om.o62 this
  have hJ':=hJ s hJs hpq
  have hre:=lB (p:=s.p) hq (hend (by exact Om.o135 hpq)) hpq
  have hlen:=cj (p:=s.p) hq
  have hsplit:((ao x q s.p).takeWhile Re.ord_).length+((ao x q s.p).dropWhile Re.ord_).length=q-s.p:=by
   rw[←List.length_append,List.takeWhile_append_dropWhile,hlen]
  have hdrop:=Re.tw_drop Re.ord_ (ao x q s.p)
  have again:∀(f:F) (s':L2) (i m np ch:Option V),(f=.next∨f=.cont)→J s'→Ln x q s'→s.p<s'.p→
    (match f with
     | .next | .cont=>∃k' υ',k'<q-s.p∧Wk pr (T2 k x gl A B Z q i nn m np ch c0 s') υ'∧∃s2 i,k'=q-s2.p∧J s2∧Ln x q s2∧υ'=T2 k x gl A B Z q i nn none none none c0 s2
     | .brk=>K .next (T2 k x gl A B Z q i nn m np ch c0 s')
     | .ret v=>K (.ret v) (T2 k x gl A B Z q i nn m np ch c0 s')):=by
   intro f s' i m np ch hf hJ2 hL2 hlt
   have hnn':∀C,dr C nn nn:=fun C=>by rcases hnn with rfl|⟨d,rfl⟩;exact db _ _;exact fR _ _
   have:=hL2.p
   rcases hf with rfl|rfl<;>exact⟨q-s'.p,_,by exact Om.o61 hlt this,vd C (db _ _) (fR _ _) (fR _ _) (hnn' _) (fR _ _) (db _ _) (db _ _) (db _ _),s',none,rfl,hJ2,hL2,rfl⟩
  refine oP (n:=n+19) C T hc1 hc2 hpq hq hnn rfl (fun hd i m np=>?_) (fun hd i m np=>?_)
  ·have e:cX x q s=⟨s.p+((ao x q s.p).takeWhile Re.ord_).length,lastOf ((ao x q s.p).takeWhile Re.ord_) s.last,s.st,s.br⟩:=by unfold cX;simp only[hd];rfl
   rw[hd] at hsplit
   dsimp only[List.length_nil,Nat.add_zero] at hsplit
   have hp:s.p+((ao x q s.p).takeWhile Re.ord_).length=q:=by exact Om.o312 hpq hsplit
   simp only[e] at hJ'
   exact h _ i m np none hJ' hp ⟨by simp only;exact Om.o311 hp,by simp only;exact Om.o308 hL2,by simp only;exact Om.o307 hL3⟩
  ·have hw:s.p+((ao x q s.p).takeWhile Re.ord_).length+((ao x q s.p).dropWhile Re.ord_).length=q:=by exact Om.o310 hpq hsplit
   have hr2:ao x q (s.p+((ao x q s.p).takeWhile Re.ord_).length)=(ao x q s.p).dropWhile Re.ord_:=by
    simp only[←hdrop];unfold ao;simp only[List.drop_drop]
   have hge:((ao x q s.p).dropWhile Re.ord_).getLast?=some 10:=by
    rw[←hr2];exact lB hq (hend (by exact Om.o135 hpq)) (by have:0<((ao x q s.p).dropWhile Re.ord_).length:=List.length_pos_iff.mpr hd;exact Om.o309 hw this)
   obtain⟨hln,hgt⟩:=xk (x:=x) (last1:=lastOf ((ao x q s.p).takeWhile Re.ord_) s.last) hw hd hge (st:=s.st) (br:=s.br) (by exact Om.o308 hL2) (by exact Om.o307 hL3)
   have e2:cX x q s=dc (s.p+((ao x q s.p).takeWhile Re.ord_).length) (lastOf ((ao x q s.p).takeWhile Re.ord_) s.last) s.st s.br ((ao x q s.p).dropWhile Re.ord_):=rfl
   simp only[e2] at hJ'
   cases hdw:(ao x q s.p).dropWhile Re.ord_ with
   |nil=>exact absurd hdw hd
   |cons ch r=>
    rw[hdw] at hr2 hge hln hgt hJ'
    have hsp:Re.special ch=true:=by
     have:=Re.dw_head hdw
     unfold Re.ord_ at this
     simpa using this
    refine qG (n:=n+27) C T hj hjf (by have:=hln.p;exact Om.o306 hgt this) hq hr2 hsp hge (by exact Om.o305 hbig hq hL2 hw) (by exact Om.o304 hbig hq hL3 hw) fun f ch' hf=>?_
    exact again f _ i m np ch' hf hJ' hln (by exact Om.o3 hgt)
 ·have hp:s.p=q:=by have:=of_decide_eq_false e;exact Om.o303 hL1 this
  exact al (h s i none none none hJs hp ⟨hL1,hL2,hL3⟩)
end
noncomputable abbrev dw:Str:=Str.ofString "stmt_start"
noncomputable abbrev j7:Str:=Str.ofString "stmt_end"
noncomputable abbrev dF:Str:=Str.ofString "lastch"
noncomputable abbrev lj:Str:=Str.ofString "lastopenbracketpos"
noncomputable abbrev nBr:Str:=Str.ofString "stmt_bracketing"
noncomputable def ng:List IS:=[.asgA (.v 0) dF (.v 7),.asgA (.v 0) lj (.ite (.v 8) (.item (.v 8) (.c (.int (-1)))) (.c .none)),.asgA (.v 0) nBr (.call (.g (.bi .tuple)) [(.v 10)] none)]
noncomputable def ur (cr sr:Addr)(A B Z:Nat):List IS:=.unpA (.v 0) dw (.v 0) j7 (.v 4) (.v 5)::.asg 7 (.c (.str ⟨#[]⟩))::.asg 8 (.lst [] (some A))::.asg 9 (.bnd (.v 8) B)::.asg 10 (.lst [(.tup [(.v 4),(.c (.int 0))])] (some Z)) ::
 .while_ (.cmp .Lt (.v 4) (.v 5)) (q5 cr++tj sr) []::ng
noncomputable def cV (st jr cr sr:Addr)(A B Z:Nat):List IS:=.if_ (.cmp .GtE (.attr (.v 0) nSl) (.c (.int 2))) [.ret none] []::.expr (.umeth (.v 0) st nS1 [])::.asgA (.v 0) nSl (.c (.int 2))::.unp2 1 2 (.attr (.v 0) cR) (.attr (.v 0) nGl) ::
 .asg 3 (.bin .Sub (.call (.g (.bi .len)) [(.v 2)] none) (.c (.int 1)))::.asg 4 (.call (.g (.bi .len)) [(.v 1)] none)::.while_ (.v 3) (l1B jr) [] ::
 .if_ (.cmp .Eq (.v 3) (.c (.int 0))) [.assert (.cmp .Eq (.v 4) (.c (.int 0))),.asg 5 (.v 4)] []::ur cr sr A B Z
inductive Rch (x:Str)(q:Nat)(s0:L2):L2→Prop
 |refl:Rch x q s0 s0
 |step {s:L2}:Rch x q s0 s→s.p<q→Rch x q s0 (cX x q s)
noncomputable def L0 (p:Nat):L2:=⟨p,⟨#[]⟩,[],[(p,0)]⟩
noncomputable def gL (st:List Nat):D:=match st.getLast? with
 |some a=>.int (a:Nat)
 |none=>.none
noncomputable def fQ (fs:List (Str×V))(s:L2):List (Str×V):=put (put (put fs dF (.d (.str s.last))) lj (.d (gL s.st))) nBr (.d (.tup (brD s.br)))
noncomputable def stm (x:Str):Nat×Nat:=bd x (aR (fin x)) ((aR (fin x)).length-1)
noncomputable def studied2 (fs:List (Str×V))(x:Str)(s:L2):List (Str×V):=fQ (put (put (put (studied fs x) nSl (.d (.int 2))) dw (.d (.int ((stm x).1:Nat)))) j7 (.d (.int ((stm x).2:Nat)))) s
structure Attr2 (P:Pm):Prop extends AttrOk P where
 st:P.attr dw=true
 en:P.attr j7=true
 la:P.attr dF=true
 op:P.attr lj=true
 br:P.attr nBr=true
section
variable {P:Pm}{c0 c:aa}{A B Z k dk:Nat}{pr:List Nat}{x:Str}{gl:List Nat}{n q:Nat}{i nn m np ch:Option V}{K:F→Sg'→Prop}{fs:List (Str×V)}
theorem qA {j:Nat}{st:List Nat}{br:List (Nat×Nat)}(h:j∈dom c0)(o:O):cset (Cs c0 A B Z st br) j o=Cs (cset c0 j o) A B Z st br:=by
 unfold Cs
 rw[aT (by rw[af,af];simp[h]),aT (by rw[af];simp[h]),aT h]
theorem Cel2.cset (C:Cel2 c0 A B Z k pr){fs':List (Str×V)}(hdk:ae c0 dk=some (.ns fs))(hf:fsW (cset c0 dk (.ns fs')) (cset c0 dk (.ns fs')) fs' fs'):Cel2 (cset c0 dk (.ns fs')) A B Z k pr:=
 ⟨by rw[ah];exact C.a,by rw[ah];exact C.b,by rw[ah];exact C.z,C.ab,C.az,C.bz,C.w.set hdk hf,by rw[ah];exact C.k_,fun j hj=>by rw[ah];exact C.pr j hj⟩
theorem u6 {c:aa}{dk:Nat}{fs:List (Str×V)}(W:Wf c)(hdk:ae c dk=some (.ns fs))(nm:Str)(d:D):fsW (cset c dk (.ns (put fs nm (.d d)))) (cset c dk (.ns (put fs nm (.d d)))) (put fs nm (.d d)) (put fs nm (.d d)):=
 aE (vD _ _ _) (bD (fun j hj=>by rw[ah];exact hj) (W.fs hdk))
theorem qT (C:Cel2 c0 A B Z k pr){st:List Nat}{br:List (Nat×Nat)}(hk:ae c0 k=some (.inst P.C dk))(hdk:ae c0 dk=some (.ns fs)){nm:Str}(hat:P.attr nm=true)(hsz:fs.length≤1000){e:IE}{d:D}{r:List IS}{l:Sl}(h0:aI l 0=some (.obj k))
  (he:∀K':V→aa→Prop,K' (.d d) (Cs c0 A B Z st br)→wpE P (n+1) e l (Cs c0 A B Z st br) K') (h:Cel2 (cset c0 dk (.ns (put fs nm (.d d)))) A B Z k pr→wpB P pr (n+2) r ⟨l,Cs (cset c0 dk (.ns (put fs nm (.d d)))) A B Z st br⟩ K) :
  wpB P pr (n+3) (.asgA (.v 0) nm e::r) ⟨l,Cs c0 A B Z st br⟩ K:=by
 refine cJ (n:=n+1) (.d d) (c':=Cs c0 A B Z st br) (k:=k) (dk:=dk) (fs:=fs) he (bv h0) (by rw[mT C C.k_];exact hk) (by rw[mT C (ai hdk)];exact hdk) hat hsz ?_
 rw[qA (ai hdk)]
 exact h (C.cset hdk (u6 C.w hdk nm d))
theorem ba (fs:List (Str×V))(nm:Str)(v:V){m:Nat}(h:fs.length≤m):(put fs nm v).length≤m+1:=by have:=dt fs nm v;exact Om.o329 h this
theorem sE (C:Cel2 c0 A B Z k pr)(At:Attr2 P)(hk:ae c0 k=some (.inst P.C dk))(hdk:ae c0 dk=some (.ns fs))(hsz:fs.length≤950)(hkd:k≠dk){s:L2}(hs:s.st.length≤big)(hb:s.br.length≤big){l:Sl}(h0:aI l 0=some (.obj k))(h7:aI l 7=some (.d (.str s.last)))(h8:aI l 8=some (.obj A))(h10:aI l 10=some (.obj Z))
  (h:Cel2 (cset c0 dk (.ns (fQ fs s))) A B Z k pr→K .next ⟨l,Cs (cset c0 dk (.ns (fQ fs s))) A B Z s.st s.br⟩):wpB P pr (n+20) ng ⟨l,Cs c0 A B Z s.st s.br⟩ K:=by
 have dkd:=ai hdk
 have hk':∀f,ae (cset c0 dk (.ns f)) k=some (.inst P.C dk):=fun f=>by rw[au dkd,if_neg hkd];exact hk
 have hd':∀f,ae (cset c0 dk (.ns f)) dk=some (.ns f):=fun f=>by rw[au dkd,if_pos rfl]
 unfold ng
 refine qT (n:=n+17) C hk hdk At.la (by exact Om.o328 hsz) h0 (bv h7) fun C1=>?_
 refine qT (n:=n+16) (d:=gL s.st) C1 (hk' _) (hd' _) At.op (Nat.le_trans (ba fs _ _ hsz) (by exact Om.o327)) h0 (fun K' hK=>?_) fun C2=>?_
 ·show aw (aI l 8) fun v=>bJ (Cs (cset c0 dk (.ns (put fs dF (.d (.str s.last))))) A B Z s.st s.br) v _
  rw[h8]
  show aw (bX (Cs (cset c0 dk (.ns (put fs dF (.d (.str s.last))))) A B Z s.st s.br) (.obj A)) _
  rw[ub C1]
  refine⟨by rw[bL];exact hs,fun e=>?_,fun e=>?_⟩
  ·cases hst:s.st.getLast? with
   |none=>
    have:s.st=[]:=List.getLast?_eq_none_iff.mp hst
    rw[this] at e;contradiction
   |some a=>
    have hop:gL s.st=.int (a:Nat):=by unfold gL;rw[hst]
    rw[hop] at hK
    refine bN (n:=n+15) (.obj A) (.d (.int (-1))) (bv h8) (fun K' h=>h) ?_
    show aw (bX (Cs (cset c0 dk (.ns (put fs dF (.d (.str s.last))))) A B Z s.st s.br) (.obj A)) _
    rw[ub C1]
    have hne:0<s.st.length:=by cases hq:s.st with|nil=>rw[hq] at hst;contradiction|cons _ _=>simp
    refine⟨by rw[bL];exact hs,s.st.length-1,.int (a:Nat),?_,?_,hK⟩
    ·rw[bL]
     show (if (decide (0≤(if (-1:Int)<0 then -1+(s.st.length:Int) else -1))&&decide ((if (-1:Int)<0 then -1+(s.st.length:Int) else -1)<(s.st.length:Int)))=true then some (if (-1:Int)<0 then -1+(s.st.length:Int) else -1).toNat else none)=_
     rw[if_pos (show (-1:Int)<0 by decide),decide_eq_true (by exact Om.o28 hne),decide_eq_true (by exact Om.o27),Bool.and_self,if_pos rfl]
     congr 1;exact Om.o26
    ·rw[List.getLast?_eq_getElem?] at hst;exact lc hst
  ·have hst:s.st=[]:=by
    cases hq:s.st with
    |nil=>rfl
    |cons a r=>rw[hq] at e;contradiction
   have hop:gL s.st=.none:=by unfold gL;rw[hst];rfl
   rw[hop] at hK
   exact hK
 rw[aU] at C2 ⊢
 refine qT (n:=n+15) (d:=.tup (brD s.br)) C2 (hk' _) (hd' _) At.br (Nat.le_trans (ba _ _ _ (ba fs _ _ hsz)) (by exact Om.o326)) h0 (fun K' hK=>?_) fun C3=>?_
 ·refine eF (n:=n+13) (u:=.bi .tuple) (v1:=.obj Z) (fun K' h=>h) (bv h10) ?_
  show aw (bX (Cs (cset c0 dk (.ns (put (put fs dF (.d (.str s.last))) lj (.d (gL s.st))))) A B Z s.st s.br) (.obj Z)) _
  rw[y4 C2]
  exact⟨rfl,by rw[nH];exact hb,hK⟩
 rw[aU] at C3 ⊢
 exact al (h C3)
end
section
variable {P:Pm}{c0 c:aa}{A B Z k dk:Nat}{pr:List Nat}{x:Str}{gl:List Nat}{n p q:Nat}{i nn m np ch:Option V}{K:F→Sg'→Prop}{fs:List (Str×V)}
theorem uD {n:Nat}{o1 o2 a b:IE}{n1 n2:Str}{r:List IS}{l:Sl}{u v:D}(hk:ae c k=some (.inst P.C dk))(hdk:ae c dk=some (.ns fs))(hkd:k≠dk)(h1:P.attr n1=true)(h2:P.attr n2=true)(hsz:fs.length≤990)
  (ha:∀K':V→aa→Prop,K' (.d u) c→wpE P n a l c K') (hb:∀K':V→aa→Prop,K' (.d v) c→wpE P n b l c K') (ho1:∀(c':aa) (K':V→aa→Prop),K' (.obj k) c'→wpE P n o1 l c' K') (ho2:∀(c':aa) (K':V→aa→Prop),K' (.obj k) c'→wpE P n o2 l c' K')
  (h:wpB P pr (n+1) r ⟨l,cset c dk (.ns (put (put fs n1 (.d u)) n2 (.d v)))⟩ K):wpB P pr (n+2) (.unpA o1 n1 o2 n2 a b::r) ⟨l,c⟩ K:=by
 have dkd:=ai hdk
 refine ha _ (hb _ ?_)
 refine ho1 _ _ (cQ hk hdk h1 (by exact Om.o336 hsz) ?_)
 refine ho2 _ _ (cQ (k:=k) (dk:=dk) (fs:=put fs n1 (.d u)) (by rw[au dkd,if_neg hkd];exact hk) (by rw[au dkd,if_pos rfl]) h2 (Nat.le_trans (ba fs _ _ hsz) (by exact Om.o335)) ?_)
 rw[aU];exact h
theorem vV {x:Str}{q:Nat}{s0:L2}:∀s,Rch x q s0 s→s.p<q→Rch x q s0 (cX x q s):=fun s h hp=>.step h hp
theorem wC (At:Attr2 P)(W:Wf c)(hk:ae c k=some (.inst P.C dk))(hdk:ae c dk=some (.ns fs))(hsz:fs.length≤940)(T:TextOk x)(hbig:2*x.length+10≤big){cr sr:Addr}(hc1:P.isFn cr=true)(hc2:P.fn cr=aS Re.chewC)(hj:P.isFn sr=true)(hjf:P.fn sr=aS Re.strC)
  (hA:A∉dom c) (hB:B∉dom c) (hZ:Z∉dom c) (ab:A≠B) (az:A≠Z) (bz:B≠Z) (hpr:∀j∈pr,j∈dom c) (hpq:p≤q) (hq:q≤x.length) (hend:0<q→(sg x)[q-1]?=some 10) (hnn:nn=none∨∃d,nn=some (.d d))
  (h:∀s l,Rch x q (L0 p) s→s.p=q→Cel2 (cset c dk (.ns (fQ (put (put fs dw (.d (.int (p:Nat)))) j7 (.d (.int (q:Nat)))) s))) A B Z k pr→
   K .next ⟨l,Cs (cset c dk (.ns (fQ (put (put fs dw (.d (.int (p:Nat)))) j7 (.d (.int (q:Nat)))) s))) A B Z s.st s.br⟩) :
  wpB P pr (n+80) (ur cr sr A B Z) ⟨S1 k x gl i (I_ p) (I_ q) nn,c⟩ K:=by
 have hkd:k≠dk:=fun e=>by rw[e,hdk] at hk;simp at hk
 have dkd:=ai hdk
 have kd:=ai hk
 unfold ur
 refine uD (n:=n+78) (u:=.int (p:Nat)) (v:=.int (q:Nat)) hk hdk hkd At.st At.en (by exact Om.o334 hsz) (fun K' h=>h) (fun K' h=>h) (fun c' K' h=>h) (fun c' K' h=>h) ?_
 generalize hf:put (put fs dw (.d (.int (p:Nat)))) j7 (.d (.int (q:Nat)))=f at *
 have W1:Wf (cset c dk (.ns f)):=by
  rw[←hf]
  refine W.set hdk (aE (vD _ _ _) (aE (vD _ _ _) (bD (fun j hj=>by rw[ah];exact hj) (W.fs hdk))))
 have hfl:f.length≤950:=by rw[←hf];exact Nat.le_trans (ba _ _ _ (ba fs _ _ hsz)) (by exact Om.o333)
 have hk1:ae (cset c dk (.ns f)) k=some (.inst P.C dk):=by rw[au dkd,if_neg hkd];exact hk
 have hd1:ae (cset c dk (.ns f)) dk=some (.ns f):=by rw[au dkd,if_pos rfl]
 have d1:dom (cset c dk (.ns f))=dom c:=ah ..
 have CC:Cel2 (cset c dk (.ns f)) A B Z k pr:=⟨by rw[d1];exact hA,by rw[d1];exact hB,by rw[d1];exact hZ,ab,az,bz,W1,by rw[d1];exact kd,fun j hj=>by rw[d1];exact hpr j hj⟩
 have ecc:∀s,cset (cset c dk (.ns f)) dk (.ns (fQ f s))=cset c dk (.ns (fQ f s)):=fun s=>aU ..
 generalize cset c dk (.ns f)=c1 at *
 refine aq (n:=n+77) (.d (.str ⟨#[]⟩)) (fun K' h=>h) ?_
 refine cb (n:=n+76) (.obj A) (c':=c1++[(A,.list [])]) (fun K' h=>⟨(by decide),CC.a,h⟩) ?_
 refine cb (n:=n+75) (.obj B) (c':=c1++[(A,.list [])]++[(B,.bound "list.append" A)]) (fun K' h=>vc (n:=n+73) (xs:=[]) rfl (by rw[show ([]:List D)=aP [] from rfl,ap CC.a,if_pos rfl]) (nb (st:=[]) CC) _ h) ?_
 refine cb (n:=n+74) (.obj Z) (c':=Cs c1 A B Z [] [(p,0)]) (fun K' h=>?_) ?_
 ·rw[ue,aZ]
  refine nu (n:=n+68) (d1:=.int (p:Nat)) (d2:=.int 0) (fun K' h=>h) (fun K' h=>h) ?_
  exact⟨(by show 1≤big;decide),nz (st:=[]) CC,h⟩
 refine cG (n:=n+74) (rQ (n:=n+14) CC T hbig hc1 hc2 hj hjf hq hend hnn (J:=Rch x q (L0 p)) vV (s0:=L0 p) .refl ⟨hpq,Nat.zero_le _,by show 1≤2*p+1;exact Om.o332⟩ fun s i m np ch hr hp hl=>?_)
 show wpB P pr (n+74) ng ⟨S2 k x gl A B Z i (I_ s.p) (I_ q) nn (some (.d (.str s.last))) m np ch,Cs c1 A B Z s.st s.br⟩ K
 refine sE (n:=n+54) CC At hk1 hd1 hfl hkd (by have:=hl.st;exact Om.o331 hbig hq hp this) (by have:=hl.br;exact Om.o330 hbig hq hp this) rfl rfl rfl rfl fun C3=>?_
 rw[ecc] at C3 ⊢
 exact h s _ hr hp C3
end
theorem uY {l:List Nat}(h:l.Pairwise (·<·)):∀(i a:Nat),l[i]?=some a→i≤a
 |0,a,_=>Nat.zero_le _
 |i+1,a,e=>by
  obtain⟨h1,e1⟩:=List.getElem?_eq_some_iff.mp e
  have h2:=uY h i (l[i]'(by exact Om.o120 h1)) (List.getElem?_eq_getElem _)
  have h3:=List.pairwise_iff_getElem.mp h i (i+1) (by exact Om.o120 h1) h1 (by exact Om.o43)
  exact Om.o350 e1 h2 h3
theorem qW:∀l:List Nat,nls l≤l.length
 | []=>Nat.le_refl _
 |c::l=>by unfold nls;have:=qW l;dsimp only[List.length_cons];split<;>omega
theorem qJ {x:Str}{gl:List Nat}(G:GoodOk x gl):1≤gl.length∧gl.length≤(sg x).length+1:=by
 have hl:=G.last
 rw[List.getLast?_eq_getElem?] at hl
 have h1:=(List.getElem?_eq_some_iff.mp hl).1
 have h2:=uY G.up _ _ hl
 have h3:=qW (sg x)
 exact Om.o349 h1 h2 h3
theorem mY {x:Str}{gl:List Nat}(G:GoodOk x gl):∀i,i+1≤gl.length→(bd x gl i).1≤(bd x gl i).2∧(bd x gl i).2≤x.length∧(0<(bd x gl i).2→(sg x)[(bd x gl i).2-1]?=some 10)
 |0,_=>⟨Nat.le_refl _,Nat.zero_le _,fun h=>absurd h (Nat.lt_irrefl _)⟩
 |i+1,hi=>by
  unfold bd
  split
  ·exact mY G i (by exact Om.o348 hi)
  ·obtain⟨a,ha⟩:∃a,gl[i]?=some a:=⟨_,List.getElem?_eq_getElem (by exact Om.o347 hi)⟩
   obtain⟨b,hb⟩:∃b,gl[i+1]?=some b:=⟨_,List.getElem?_eq_getElem (by exact Om.o346 hi)⟩
   obtain⟨h1,h2⟩:=G.at_ ha hb
   rw[List.getD_eq_getElem?_getD,List.getD_eq_getElem?_getD,ha,hb]
   have h3:=eE (sg x) h1 h2
   have h4:=ip (sg x) b h2
   have h5:=aB x
   obtain⟨b',rfl⟩:∃b',b=b'+1:=⟨b-1,by exact Om.o345 h1⟩
   have h6:=(fH (sg x) b' (by exact Om.o74 h2)).2.1
   refine⟨?_,?_,fun _=>h6⟩
   ·show ar (sg x) a≤ar (sg x) (b'+1);exact Om.o58 h3
   ·show ar (sg x) (b'+1)≤x.length;exact Om.o344 h4
section
variable {P:Pm}{c0 c:aa}{A B Z k dk g b:Nat}{x:Str}{n:Nat}{fs:List (Str×V)}
theorem vl {pr:List Nat}(C:Cel2 c0 A B Z k pr){st:List Nat}{br:List (Nat×Nat)}:b6 (Cs c0 A B Z st br) c0 c0:=by
 rw[celW_iff]
 intro p hp
 obtain⟨o,h1,h2⟩:=celW_iff.mp C.w.w p hp
 exact⟨o,by rw[mT C (ai h1)];exact h1,eC (fun _ h=>h) h2⟩
noncomputable abbrev nS2:Str:=Str.ofString "_study2"
theorem ne9:nGl≠nSl:=fun e=>ne1 e.symm
theorem oC {st jr cr sr:Addr}(At:Attr2 P)(pa:ParAt P.C c k dk fs)(F:Fresh fs x)(hbig:2*x.length+10≤big)(hg:g∉dom c)(hb:b∉dom c)(hA:A∉dom c)(hB:B∉dom c)(hZ:Z∉dom c)(ab:A≠B)(az:A≠Z)(bz:B≠Z)
  (hs:P.isFn st=true) (hsf:P.fn st=d6 P.C g b) (hj:P.isFn jr=true) (hjf:P.fn jr=aS Re.junkC) (hc1:P.isFn cr=true) (hc2:P.fn cr=aS Re.chewC) (hs1:P.isFn sr=true) (hs2:P.fn sr=aS Re.strC) {K:V→aa→Prop}
  (h:∀s,Rch x (stm x).2 (L0 (stm x).1) s→s.p=(stm x).2→K (.d .none) (cset c dk (.ns (studied2 fs x s)))) :
  wpB P (dom c) (n+130) (cV st jr cr sr A B Z) ⟨start [.obj k] 13,c⟩ (EndP c K):=by
 have hkd:k≠dk:=fun e=>by have:=pa.k_;rw[e,pa.d_] at this;simp at this
 have dkd:=ai pa.d_
 have kd:=ai pa.k_
 have T:=F.t
 have G:=sw x
 obtain⟨gl1,gl2⟩:=qJ G
 have hT:=T.len
 have hlx:=aB x
 have hxb:x.length≤big:=by exact Om.o63 hT
 have hgb:(aR (fin x)).length≤big:=by exact Om.o343 gl2 hT
 obtain⟨q1,q2,q3⟩:=mY G ((aR (fin x)).length-1) (by exact Om.o342 gl1)
 have hstd:(studied fs x).length≤903:=by
  unfold studied
  exact Nat.le_trans (ba _ _ _ (ba _ _ _ (ba _ _ _ F.len))) (by exact Om.o341)
 have rd:=i8 fs x
 have hco:look (put (studied fs x) nSl (.d (.int 2))) cR=some (.d (.str x)):=by
  rw[am,if_neg e8]
  unfold studied
  rw[am,if_neg (by decide +kernel),am,if_neg (by decide +kernel),am,if_neg e8];exact F.co
 have hgl:look (put (studied fs x) nSl (.d (.int 2))) nGl=some (.d (.lst (aP (aR (fin x))))):=by rw[am,if_neg ne9];exact rd.gl
 unfold cV
 refine bb (n:=n+128) false (c':=c) (fun K' h=>?_) (al ?_)
 ·rw[eG];exact dD (n:=n+125) rfl pa.k_ pa.d_ At.sl F.sl rfl _ h
 refine eP (n:=n+127) (.d .none) (c':=cset c dk (.ns (studied fs x))) (fun K' h=>lH (n:=n+124) rfl pa hs hsf K' (.inr ⟨x,F,hg,hb,h⟩)) ?_
 have p1:=pa.studied x
 refine cJ (n:=n+126) (.d (.int 2)) (c':=cset c dk (.ns (studied fs x))) (k:=k) (dk:=dk) (fs:=studied fs x) (fun K' h=>h) (fun K' h=>h) p1.k_ p1.d_ At.sl (by exact Om.o340 hstd) ?_
 rw[aU]
 have hk1:ae (cset c dk (.ns (put (studied fs x) nSl (.d (.int 2))))) k=some (.inst P.C dk):=by rw[au dkd,if_neg hkd];exact pa.k_
 have hd1:ae (cset c dk (.ns (put (studied fs x) nSl (.d (.int 2))))) dk=some (.ns (put (studied fs x) nSl (.d (.int 2)))):=by rw[au dkd,if_pos rfl]
 have d1:dom (cset c dk (.ns (put (studied fs x) nSl (.d (.int 2)))))=dom c:=ah ..
 have W1:Wf (cset c dk (.ns (put (studied fs x) nSl (.d (.int 2))))):=by
  have:=p1.w.set p1.d_ (u6 p1.w p1.d_ nSl (.int 2))
  rw[aU] at this;exact this
 have fl:(put (studied fs x) nSl (.d (.int 2))).length≤940:=Nat.le_trans (ba _ _ _ hstd) (by exact Om.o339)
 have ecc:∀f,cset (cset c dk (.ns (put (studied fs x) nSl (.d (.int 2))))) dk (.ns f)=cset c dk (.ns f):=fun f=>aU ..
 have e2:∀s,studied2 fs x s=fQ (put (put (put (studied fs x) nSl (.d (.int 2))) dw (.d (.int ((stm x).1:Nat)))) j7 (.d (.int ((stm x).2:Nat)))) s:=fun s=>rfl
 generalize put (studied fs x) nSl (.d (.int 2))=f2 at *
 generalize cset c dk (.ns f2)=c1 at *
 refine nS (n:=n+125) (.str x) (.lst (aP (aR (fin x)))) (fun K' h=>dD (n:=n+123) rfl hk1 hd1 At.co hco rfl _ h) (fun K' h=>dD (n:=n+123) rfl hk1 hd1 At.gl hgl rfl _ h) ?_
 refine aq (n:=n+124) (.d (.int (((aR (fin x)).length-1:Nat)))) (fun K' h=>?_) ?_
 ·rw[cp]
  refine eF (n:=n+120) (u:=.bi .len) (v1:=.d (.lst (aP (aR (fin x))))) (fun K' h=>h) (fun K' h=>h) ?_
  refine⟨by rw[bL];exact hgb,?_⟩
  have e:(((aR (fin x)).length-1:Nat):Int)=(((aP (aR (fin x))).length:Nat):Int)-1:=by rw[bL];exact Om.o338 gl1
  rw[e] at h;exact h
 refine aq (n:=n+123) (.d (.int (x.length:Nat))) (fun K' h=>⟨hxb,h⟩) ?_
 have kd1:k∈dom c1:=by rw[d1];exact kd
 have pr1:∀j∈dom c,j∈dom c1:=fun j hj=>by rw[d1];exact hj
 have fin2:∀{i nn:Option V},(nn=none∨∃d,nn=some (.d d))→wpB P (dom c) (n+122) (ur cr sr A B Z) ⟨S1 k x (aR (fin x)) i (I_ (stm x).1) (I_ (stm x).2) nn,c1⟩ (EndP c K):=by
  intro i nn hnn
  refine wC (n:=n+42) At W1 hk1 hd1 fl T hbig hc1 hc2 hs1 hs2 (by rw[d1];exact hA) (by rw[d1];exact hB) (by rw[d1];exact hZ) ab az bz pr1 q1 q2 q3 hnn fun s l hr hp CC=>?_
  rw[ecc] at CC ⊢
  exact⟨.d .none,_,vD _ _ _,vl CC,fun j hj=>by rw[ah];exact hj,by rw[←e2];exact h s hr hp⟩
 refine cG (n:=n+123) (rO (n:=n+93) T G hgb hj hjf kd1 W1.w pr1 (fun h0=>?_) fun i a b nn hnn ha hb h1=>?_)
 ·refine bb (n:=n+121) true (c':=c1) (fun K' h=>h) ?_
  refine b9 (n:=n+119) (c':=c1) (fun K' h=>h) ?_
  refine aq (n:=n+118) (.d (.int 0)) (fun K' h=>h) (al ?_)
  have:=fin2 (i:=I_ 0) (nn:=none) (.inl rfl)
  have e:stm x=(0,0):=h0
  rw[e] at this;exact this
 ·refine bb (n:=n+121) false (c':=c1) (fun K' h=>?_) (al ?_)
  ·show K' ((((i+1:Nat):Int))==0) c1
   rw[show ((((i+1:Nat):Int))==0)=false from beq_eq_false_iff_ne.mpr (by exact Om.o337)];exact h
  ·have:=fin2 (i:=I_ (i+1)) hnn
   have e:stm x=(ar (sg x) a,ar (sg x) b):=h1
   rw[e] at this;exact this
theorem jP {st jr cr sr:Addr}(At:Attr2 P)(pa:ParAt P.C c k dk fs)(h1:look fs nSl=some (.d (.int 2))){K:V→aa→Prop}(h:K (.d .none) c):wpB P (dom c) (n+130) (cV st jr cr sr A B Z) ⟨start [.obj k] 13,c⟩ (EndP c K):=by
 unfold cV
 refine bb (n:=n+128) true (c':=c) (fun K' h=>?_) ?_
 ·rw[eG];exact dD (n:=n+125) rfl pa.k_ pa.d_ At.sl h1 rfl _ h
 ·exact EndP.same pa.w (fun _ h=>h) rfl h
end
noncomputable abbrev nIs:Str:=Str.ofString "is_block_opener"
noncomputable abbrev xT:Str:=Str.ofString "set_code"
noncomputable def xN:List Str:=[nS1,nS2,nIs,xT]
noncomputable def tY:List Str:=[Str.ofString "indentwidth",Str.ofString "tabwidth",cR,nSl,nGl,nCt,dw,j7,dF,lj,nBr]
def NoM (fs:List (Str×V)):Prop:=∀m∈xN,look fs m=none
theorem wr:∀m∈xN,∀a∈tY,m≠a:=by decide +kernel
theorem NoM.put {fs:List (Str×V)}(h:NoM fs){a:Str}(ha:a∈tY)(v:V):NoM (put fs a v):=fun m hm=>by
 rw[am,if_neg (wr m hm a ha)];exact h m hm
theorem NoM.studied2 {fs:List (Str×V)}(h:NoM fs)(x:Str)(s:L2):NoM (studied2 fs x s):=by
 unfold Mine.studied2 fQ studied
 refine NoM.put (NoM.put (NoM.put (NoM.put (NoM.put (NoM.put (NoM.put (NoM.put (NoM.put h ?_ _) ?_ _) ?_ _) ?_ _) ?_ _) ?_ _) ?_ _) ?_ _) ?_ _<;>decide +kernel
theorem NoM.setd {fs:List (Str×V)}(h:NoM fs)(x:Str):NoM (setd fs x):=by
 unfold Mine.setd
 refine NoM.put (NoM.put h ?_ _) ?_ _<;>decide +kernel
noncomputable abbrev isC (l:Str):Bool:=l==⟨#[58]⟩
def dK (x:Str)(due:Bool):Prop:=∀s,Rch x (stm x).2 (L0 (stm x).1) s→s.p=(stm x).2→isC s.last=due
structure Done4 (fs:List (Str×V))(due:Bool):Prop where
 sl:look fs nSl=some (.d (.int 2))
 la:∃last,look fs dF=some (.d (.str last))∧isC last=due
theorem uX (fs:List (Str×V))(x:Str)(s:L2):Done4 (studied2 fs x s) (isC s.last):=by
 unfold studied2 fQ
 refine⟨?_,s.last,?_,rfl⟩
 ·rw[am,if_neg (by decide +kernel),am,if_neg (by decide +kernel),am,if_neg (by decide +kernel),am,if_neg (by decide +kernel),am,if_neg (by decide +kernel),am,if_pos rfl]
 ·rw[am,if_neg (by decide +kernel),am,if_neg (by decide +kernel),am,if_pos rfl]
noncomputable def ez (C:Addr)(g b A B Z:Nat):Spec:=fun vs c K=>∃k dk fs,vs=[.obj k]∧ParAt C c k dk fs∧
 ((look fs nSl=some (.d (.int 2))∧K (.d .none) c)∨∃x,Fresh fs x∧2*x.length+10≤big∧(g∉dom c∧b∉dom c∧A∉dom c∧B∉dom c∧Z∉dom c)∧
  ∀s,Rch x (stm x).2 (L0 (stm x).1) s→s.p=(stm x).2→K (.d .none) (cset c dk (.ns (studied2 fs x s))))
noncomputable def ej (C:Addr)(g b A B Z:Nat):Spec:=fun vs c K=>∃k dk fs due,vs=[.obj k]∧ParAt C c k dk fs∧NoM fs∧
 ((Done4 fs due∧K (.d (.bool due)) c)∨∃x,Fresh fs x∧2*x.length+10≤big∧(g∉dom c∧b∉dom c∧A∉dom c∧B∉dom c∧Z∉dom c)∧dK x due∧
  ∀s,isC s.last=due→K (.d (.bool due)) (cset c dk (.ns (studied2 fs x s))))
noncomputable def eD (s2:Addr):List IS:=[.expr (.umeth (.v 0) s2 nS2 []),.ret (some (.cmp .Eq (.attr (.v 0) dF) (.c (.str ⟨#[58]⟩))))]
theorem gm {c:aa}{dk:Nat}{fs:List (Str×V)}(W:Wf c)(hdk:ae c dk=some (.ns fs))(x:Str)(s:L2):Wf (cset c dk (.ns (studied2 fs x s))):=by
 refine W.set hdk ?_
 unfold studied2 fQ studied
 exact aE (vD _ _ _) (aE (vD _ _ _) (aE (vD _ _ _) (aE (vD _ _ _) (aE (vD _ _ _) (aE (vD _ _ _) (aE (vD _ _ _) (aE (vD _ _ _) (aE (vD _ _ _) (bD (fun j hj=>by rw[ah];exact hj) (W.fs hdk))))))))))
section
variable {P:Pm}{c:aa}{A B Z k dk g b n:Nat}{fs:List (Str×V)}
theorem lx (At:Attr2 P){due:Bool}{l:Sl}(hl:aI l 0=some (.obj k))(hk:ae c k=some (.inst P.C dk))(hd:ae c dk=some (.ns fs))(D:Done4 fs due)(K':V→aa→Prop)(h:K' (.d (.bool due)) c) :
  wpE P (n+5) (.cmp .Eq (.attr (.v 0) dF) (.c (.str ⟨#[58]⟩))) l c K':=by
 obtain⟨last,h1,rfl⟩:=D.la
 exact ji (n:=n+4) (.d (.str last)) (.d (.str ⟨#[58]⟩)) (fun K' h=>dD (n:=n+2) hl hk hd At.la h1 rfl K' h) (fun K' h=>h) h
theorem oE {s2:Addr}(At:Attr2 P)(pa:ParAt P.C c k dk fs)(hm:NoM fs)(hs:P.isFn s2=true)(hsf:P.fn s2=ez P.C g b A B Z){due:Bool}{K:V→aa→Prop}
  (h:(Done4 fs due∧K (.d (.bool due)) c)∨∃x,Fresh fs x∧2*x.length+10≤big∧(g∉dom c∧b∉dom c∧A∉dom c∧B∉dom c∧Z∉dom c)∧dK x due∧∀s,isC s.last=due→K (.d (.bool due)) (cset c dk (.ns (studied2 fs x s)))) :
  wpB P (dom c) (n+20) (eD s2) ⟨start [.obj k] 0,c⟩ (EndP c K):=by
 have hkd:k≠dk:=fun e=>by have:=pa.k_;rw[e,pa.d_] at this;simp at this
 have dkd:=ai pa.d_
 unfold eD
 rcases h with ⟨D,hK⟩|⟨x,F,hb,hdom,ho,hK⟩
 ·refine eP (n:=n+18) (.d .none) (c':=c) (fun K' h=>gn (n:=n+15) rfl pa.k_ pa.d_ (hm _ (by decide +kernel)) hs K' ?_) ?_
  ·rw[hsf];exact⟨k,dk,fs,rfl,pa,.inl ⟨D.sl,fun _ q=>q,h⟩⟩
  refine fo (n:=n+17) (.d (.bool due)) (c':=c) (fun K' h=>lx (n:=n+12) At rfl pa.k_ pa.d_ D K' h) ?_
  exact EndP.same pa.w (fun _ h=>h) rfl hK
 ·rw[show n+20=(n+18)+2 by exact Om.o367]
  rw[qR]
  refine gn (n:=n+15) rfl pa.k_ pa.d_ (hm _ (by decide +kernel)) hs _ ?_
  rw[hsf]
  refine⟨k,dk,fs,rfl,pa,.inr ⟨x,F,hb,hdom,fun s hr hp=>⟨fun _ q=>by rw[ah];exact q,?_⟩⟩⟩
  have e:=ho s hr hp
  have D:=uX fs x s
  rw[e] at D
  have hk1:ae (cset c dk (.ns (studied2 fs x s))) k=some (.inst P.C dk):=by rw[au dkd,if_neg hkd];exact pa.k_
  have hd1:ae (cset c dk (.ns (studied2 fs x s))) dk=some (.ns (studied2 fs x s)):=by rw[au dkd,if_pos rfl]
  have W1:=gm pa.w pa.d_ x s
  refine fo (n:=n+17) (.d (.bool due)) (c':=cset c dk (.ns (studied2 fs x s))) (fun K' h=>lx (n:=n+12) At rfl hk1 hd1 D K' h) ?_
  exact EndP.same W1 (fun j h=>by rw[ah];exact h) rfl (hK s e)
end
theorem Wf.drop {c:aa}(W:Wf c){kk:Nat}{o:O}(hk:kk∉dom c):b6 (c++[(kk,o)]) c c:=by
 rw[celW_iff]
 intro p hp
 obtain⟨o',h3,h4⟩:=celW_iff.mp W.w p hp
 have hm:=ai h3
 exact⟨o',by rw[aF hk,if_neg (fun e:p.1=kk=>hk (by rw[←e];exact hm))];exact h3,eC (fun _ h=>h) h4⟩
theorem uI (a:Int){m:Int}(h:0<m):0≤a.fmod m∧a.fmod m<m:=⟨Int.fmod_nonneg_of_pos a h,Int.fmod_lt_of_pos a h⟩
theorem kM:∀l:List Int,PyData.canLayAll0 (pys (l.map .int))=true∧PyData.depthAll (pys (l.map .int))=0
 | []=>⟨rfl,rfl⟩
 |a::l=>by
  obtain⟨h1,h2⟩:=kM l
  exact⟨by show (true&&PyData.canLayAll0 (pys (l.map .int)))=true;rw[h1];rfl,by show max 0 (PyData.depthAll (pys (l.map .int)))=0;rw[h2];rfl⟩
section
variable {P:Pm}{pr:List Nat}
theorem nA {c:aa}{xs:List D}{i:Int}{d:D}(h0:0≤i)(h1:xs[i.toNat]?=some d)(hb:xs.length≤big){K:D→Prop}(h:K d):ee c (.d (.lst xs)) (.d (.int i)) K:=by
 have hlt:=(List.getElem?_eq_some_iff.mp h1).1
 refine⟨hb,i.toNat,d,?_,h1,h⟩
 unfold seqIndex?
 have hn:¬i<0:=by exact Om.o20 h0
 simp only[hn,if_false]
 rw[if_pos (by simp only[Bool.and_eq_true,decide_eq_true_eq];exact Om.o374 h0 hlt)]
theorem d7 {n:Nat}{op:Operator}{a b:IE}{l:Sl}{c:aa}{K:V→aa→Prop}(u v:V)(ha:∀K':V→aa→Prop,K' u c→wpE P n a l c K')(hb:∀K':V→aa→Prop,K' v c→wpE P n b l c K')(h:hH c op u v (fun d=>K (.d d) c)):wpE P (n+1) (.bin op a b) l c K:=by
 exact ha _ (hb _ h)
end
theorem yv (U:aa):fsW U U fs0 fs0:=⟨rfl,vD _ _ _,rfl,vD _ _ _,trivial⟩
noncomputable def jc (st cl:Addr)(t1 t2:Nat):List IS:=[
 .expr (.umeth (.v 0) st xT [(.v 1)]),
 .asgC 3 (.comp (.umeth (.v 1) cl nIs []) (.call (.g (.bi .range)) [(.c (.int 2))] none) none [0] t1),
 .ret (some (.and (.cmp .Eq (.v 3) (.lst [(.v 2),(.v 2)] none)) (.cmp .Eq (.comp (.call (.g (.bi .isinstance)) [(.v 0),(.g (.bi .bool))] none) (.v 3) none [] t2) (.lst [(.c (.bool true)),(.c (.bool true))] none))))]
theorem xf {c:aa}(W:Wf c){t:Nat}(ht:t∉dom c)(acc:List D):Wf (c++[(t,.list acc)]):=by
 refine⟨?_,?_⟩
 ·rw[celW_iff]
  intro p hp
  rcases List.mem_append.mp hp with hp|hp
  ·obtain⟨o,h1,h2⟩:=celW_iff.mp W.w p hp
   have hm:=ai h1
   exact⟨o,by rw[aF ht,if_neg (fun e:p.1=t=>ht (by simp only[←e];exact hm))];exact h1,eC (fun j hj=>by rw[af];exact List.mem_append_left _ hj) h2⟩
  ·have e:p=(t,.list acc):=by simpa using hp
   subst e;exact⟨.list acc,by rw[aF ht,if_pos rfl],rfl⟩
 ·rw[af,List.nodup_append]
  refine⟨W.nd,by simp,fun a ha b hb e=>ht ?_⟩
  have:b=t:=by simpa using hb
  simp only[←this,←e];exact ha
theorem mQ {C:Addr}{c:aa}{k dk:Nat}{fs:List (Str×V)}(p:ParAt C c k dk fs){t:Nat}(ht:t∉dom c)(acc:List D):ParAt C (c++[(t,.list acc)]) k dk fs:=by
 have h1:k≠t:=fun e=>ht (e▸ai p.k_)
 have h2:dk≠t:=fun e=>ht (e▸ai p.d_)
 exact⟨xf p.w ht acc,by rw[aF ht,if_neg h1];exact p.k_,by rw[aF ht,if_neg h2];exact p.d_,p.no⟩
theorem i6 {fs:List (Str×V)}(x:Str)(s:L2){m:Nat}(h:fs.length≤m):(studied2 fs x s).length≤m+9:=by
 unfold studied2 fQ studied
 exact ba _ _ _ (ba _ _ _ (ba _ _ _ (ba _ _ _ (ba _ _ _ (ba _ _ _ (ba _ _ _ (ba _ _ _ (ba _ _ _ h))))))))
def far (g b A B Z:Nat)(c:aa):Prop:=g∉dom c∧b∉dom c∧A∉dom c∧B∉dom c∧Z∉dom c
noncomputable def gP (C:Addr)(g b A B Z t1 t2:Nat):Spec:=fun vs c K=>∃k dk fs x due,vs=[.obj k,.d (.str x),.d (.bool due)]∧ParAt C c k dk fs∧NoM fs∧fs.length≤800∧TextOk x∧2*x.length+10≤big∧dK x due∧
 far g b A B Z c∧t1∉dom c∧t2∉dom c∧∀fs',NoM fs'→fs'.length≤fs.length+11→Wf (cset c dk (.ns fs'))→K (.d (.bool true)) (cset c dk (.ns fs'))
section
variable {P:Pm}{pr:List Nat}{c:aa}{A B Z k dk g b n t1 t2:Nat}{x:Str}{fs:List (Str×V)}
theorem vR {n i j:Nat}{f:Addr}{nm:Str}{l:Sl}{c:aa}{k dk:Nat}{fs:List (Str×V)}{v:V}(hi:aI l i=some (.obj k))(hj:aI l j=some v)(hk:ae c k=some (.inst P.C dk))(hdk:ae c dk=some (.ns fs))(hno:look fs nm=none)(hf:P.isFn f=true)(K':V→aa→Prop)
  (h:P.fn f [.obj k,v] c (fun v c3=>eW c c3∧K' v c3)):wpE P (n+3) (.umeth (.v i) f nm [(.v j)]) l c K':=by
 simp only[iN]
 refine bv (n:=n+1) hi _ ?_
 refine⟨jV hk hdk hno,?_⟩
 simp only[aZ]
 exact bv (n:=n) hj _ ⟨hf,h⟩
theorem uQ (a b:Bool)(c:aa){K:Bool→Prop}(h:K true):eJ c .Eq (.d (.lst [.bool a,.bool b])) (.d (.lst [.bool a,.bool b])) K:=by
 refine⟨rfl,rfl,by cases a<;>cases b<;>rfl,?_⟩
 have e:PySem.Spec.same (D.lst [.bool a,.bool b]).py (D.lst [.bool a,.bool b]).py=true:=by
  cases a<;>cases b<;>simp[D.py,pys,PySem.Spec.same,PySem.Spec.sameAll]
 simp only[e];exact h
theorem uH {n:Nat}{a b:IE}{l:Sl}{c:aa}{K:V→aa→Prop}:wpE P (n+1) (.and a b) l c K=wpE P n a l c fun u c1=>bJ c1 u fun r=>(r=false→K u c1)∧(r=true→wpE P n b l c1 K):=rfl
theorem jU {n kk:Nat}{a b:IE}{t:Option IE}{fr:List Nat}{l:Sl}{c:aa}{K:V→aa→Prop}:wpE P (n+1) (.comp a b t fr kk) l c K=wpE P n b l c (kF (wpE P n) (wpT P n) a t (fr.map (aI l)) kk K):=rfl
theorem qb {n i:Nat}{e:IE}{r:List IS}{σ:Sg'}{K:F→Sg'→Prop}:wpB P pr (n+2) (.asgC i e::r) σ K=wpE P n e σ.l σ.c fun v c1=>wpB P pr (n+1) r ⟨σ.l.set i (some v),c1⟩ K:=rfl
theorem ut {st cl:Addr}(pa:ParAt P.C c k dk fs)(hm:NoM fs)(hfl:fs.length≤800)(T:TextOk x)(hbig:2*x.length+10≤big){due:Bool}(ho:dK x due)(hfar:far g b A B Z c)(ht1:t1∉dom c)(ht2:t2∉dom c)(h1g:far g b A B Z [(t1,.list [])])
  (hs:P.isFn st=true) (hsf:P.fn st=jK P.C) (hc:P.isFn cl=true) (hcf:P.fn cl=ej P.C g b A B Z) {K:V→aa→Prop}
  (h:∀fs',NoM fs'→fs'.length≤fs.length+11→Wf (cset c dk (.ns fs'))→K (.d (.bool true)) (cset c dk (.ns fs'))) :
  wpB P (dom c) (n+40) (jc st cl t1 t2) ⟨start [.obj k,.d (.str x),.d (.bool due)] 1,c⟩ (EndP c K):=by
 have hkd:k≠dk:=fun e=>by have:=pa.k_;rw[e,pa.d_] at this;simp at this
 have dkd:=ai pa.d_
 have p1:=pa.setd x
 have hm1:=hm.setd x
 have F1:Fresh (setd fs x) x:=lP T (by exact Om.o379 hfl)
 have hl1:(setd fs x).length≤fs.length+2:=by unfold setd;exact ba _ _ _ (ba _ _ _ (Nat.le_refl _))
 have d1:∀f,dom (cset c dk (.ns f))=dom c:=fun f=>ah ..
 have pS:∀s,ParAt P.C (cset c dk (.ns (studied2 (setd fs x) x s))) k dk (studied2 (setd fs x) x s):=fun s=>by
  have W:=gm p1.w p1.d_ x s
  simp only[aU] at W
  exact⟨W,by rw[au dkd,if_neg hkd];exact pa.k_,by rw[au dkd,if_pos rfl],(hm1.studied2 x s) _ (by decide +kernel)⟩
 unfold jc
 refine eP (n:=n+38) (.d .none) (c':=cset c dk (.ns (setd fs x))) (fun K' h=>?_) ?_
 ·refine vR (n:=n+35) (k:=k) (dk:=dk) (v:=.d (.str x)) rfl rfl pa.k_ pa.d_ (hm _ (by decide +kernel)) hs K' ?_
  rw[hsf]
  exact⟨k,dk,fs,x,rfl,pa,by exact Om.o378 hfl,T,fun j hj=>by rw[ah];exact hj,h⟩
 have kk1:∀f,t1∉dom (cset c dk (.ns f)):=fun f=>by rw[d1];exact ht1
 have kk2:∀f,t2∉dom (cset c dk (.ns f)):=fun f=>by rw[d1];exact ht2
 have farA:∀f acc,far g b A B Z (cset c dk (.ns f)++[(t1,.list acc)]):=fun f acc=>by
  refine aA fun G9 back9=>?_;obtain⟨a1,a2,a3,a4,a5⟩:=hfar;refine back9 ?_
  refine aA fun G9 back9=>?_;obtain⟨b1,b2,b3,b4,b5⟩:=h1g;refine back9 ?_
  have q:∀j,j∉dom c→j∉dom [(t1,O.list [])]→j∉dom (cset c dk (.ns f)++[(t1,.list acc)]):=fun j h1 h2 h3=>by
   rw[af,d1] at h3
   rcases List.mem_append.mp h3 with h3|h3
   ·exact h1 h3
   ·exact h2 h3
  exact⟨q _ a1 b1,q _ a2 b2,q _ a3 b3,q _ a4 b4,q _ a5 b5⟩
 have two:∀(K':V→aa→Prop),(∀s,isC s.last=due→K' (.d (.lst [.bool due,.bool due])) (cset c dk (.ns (studied2 (setd fs x) x s))))→
   wpE P (n+37) (.comp (.umeth (.v 1) cl nIs []) (.call (.g (.bi .range)) [(.c (.int 2))] none) none [0] t1) [some (.obj k),some (.d (.str x)),some (.d (.bool due)),none] (cset c dk (.ns (setd fs x))) K':=by
  intro K' hK'
  simp only[jU]
  refine⟨⟨by decide,by decide,by decide,by decide⟩,[.int 0,.int 1],rfl,by decide,kk1 _,fun i acc c'=>(i=0∧acc=[]∧c'=cset c dk (.ns (setd fs x)))∨(0<i∧i≤2∧acc=List.replicate i (.bool due)∧∃s,isC s.last=due∧c'=cset c dk (.ns (studied2 (setd fs x) x s))),.inl ⟨rfl,rfl,rfl⟩,?_,?_⟩
  ·rintro i d acc c' hi (⟨rfl,rfl,rfl⟩|⟨h0,hi2,rfl,s,he,rfl⟩)
   ·refine⟨kk1 _,?_⟩
    have pp:=mQ p1 (kk1 _) []
    refine gn (n:=n+33) (k:=k) (dk:=dk) rfl pp.k_ pp.d_ (hm1 _ (by decide +kernel)) hc _ ?_
    rw[hcf]
    refine⟨k,dk,setd fs x,due,rfl,pp,hm1,.inr ⟨x,F1,hbig,farA _ _,ho,fun s he=>⟨fun j hj=>by rw[ah];exact hj,?_⟩⟩⟩
    have e:cset (cset c dk (.ns (setd fs x))++[(t1,.list [])]) dk (.ns (studied2 (setd fs x) x s))=cset c dk (.ns (studied2 (setd fs x) x s))++[(t1,.list [])]:=by
     rw[aT (by rw[d1];exact dkd),aU]
    exact⟨.bool due,cset c dk (.ns (studied2 (setd fs x) x s)),rfl,e,kk1 _,.inr ⟨by decide,by decide,rfl,s,he,rfl⟩⟩
   ·have hi1:i=1:=by
     have:=(List.getElem?_eq_some_iff.mp hi).1
     have:i<2:=this
     exact Om.o377 h0 this
    subst hi1
    refine⟨kk1 _,?_⟩
    have pp:=mQ (pS s) (kk1 _) (List.replicate 1 (.bool due))
    refine gn (n:=n+33) (k:=k) (dk:=dk) rfl pp.k_ pp.d_ ((hm1.studied2 x s) _ (by decide +kernel)) hc _ ?_
    simp only[hcf]
    refine⟨k,dk,_,due,rfl,pp,hm1.studied2 x s,.inl ⟨he▸uX _ x s,fun j hj=>hj,?_⟩⟩
    exact⟨.bool due,cset c dk (.ns (studied2 (setd fs x) x s)),rfl,rfl,kk1 _,.inr ⟨by decide,by decide,rfl,s,he,rfl⟩⟩
  ·rintro acc c' (⟨q,_⟩|⟨_,_,rfl,s,he,rfl⟩)
   ·contradiction
   ·exact⟨kk1 _,(pS s).w.drop (kk1 _),hK' s he⟩
 simp only[show n+39=(n+37)+2 by exact Om.o376,qb]
 refine two _ fun s he=>?_
 have WS:=(pS s).w
 refine fo (n:=n+36) (.d (.bool true)) (c':=cset c dk (.ns (studied2 (setd fs x) x s))) (fun K' hK'=>?_) (EndP.same WS (fun j hj=>by rw[ah];exact hj) rfl (h _ (hm1.studied2 x s) (Nat.le_trans (i6 x s hl1) (by exact Om.o375)) WS))
 rw[uH,m4]
 refine bv (n:=n+33) rfl _ ?_
 show wpE P (n+34) (.lst [(.v 2),(.v 2)] none) _ _ _
 refine⟨by show 2≤big;decide,?_⟩
 unfold ci
 refine uQ _ _ _ ⟨fun q=>(by contradiction),fun _=>?_⟩
 simp only[m4,jU]
 refine⟨trivial,[.bool due,.bool due],rfl,by show 2≤big;decide,kk2 _,fun i acc c'=>acc=List.replicate i (.bool true)∧c'=cset c dk (.ns (studied2 (setd fs x) x s)),⟨rfl,rfl⟩,?_,?_⟩
 ·rintro i d acc c' hi ⟨rfl,rfl⟩
  have hd':d=.bool due:=by
   have:=List.mem_of_getElem? hi
   simpa using this
  subst hd'
  refine⟨kk2 _,?_⟩
  exact⟨.bool true,_,rfl,rfl,kk2 _,by rw[List.replicate_succ'],rfl⟩
 ·rintro acc c' ⟨rfl,rfl⟩
  refine⟨kk2 _,WS.drop (kk2 _),?_⟩
  refine⟨by show 2≤big;decide,?_⟩
  unfold ci
  exact uQ _ _ _ hK'
end
noncomputable abbrev K1 (p:Params):Frag:=H4.K p
noncomputable def G1:List (Str×V):=[(Str.ofString "C_NONE",.d (.int 0)),(Str.ofString "C_BACKSLASH",.d (.int 1)),(Str.ofString "C_STRING_FIRST_LINE",.d (.int 2)),(Str.ofString "C_STRING_NEXT_LINES",.d (.int 3)),(Str.ofString "C_BRACKET",.d (.int 4)),
 (Str.ofString "_junkre",.val (.ref 58)),(Str.ofString "_match_stringre",.val (.ref 59)),(Str.ofString "_chew_ordinaryre",.val (.ref 60)),
 (Str.ofString "trans",.val (.ref 85)),(Str.ofString "Parser",.val (.ref 243)),(Str.ofString "_law_draw",.val (.ref 254)),(Str.ofString "_law_told",.val (.ref 259)),(Str.ofString "len",.bi .len),(Str.ofString "isinstance",.bi .isinstance),(Str.ofString "bool",.bi .bool),(Str.ofString "range",.bi .range),(Str.ofString "max",.bi .max),(Str.ofString "min",.bi .min),(Str.ofString "list",.bi .list),(Str.ofString "tuple",.bi .tuple)]
noncomputable def vJ:List Pos:=[⟨51,37,0,40⟩,⟨52,20,0,36⟩,⟨148,16,0,18⟩,⟨149,21,0,33⟩,⟨150,21,0,29⟩,⟨227,11,0,58⟩,⟨228,34,0,69⟩,⟨232,11,0,23⟩]
noncomputable def zw:Str→Pos→Option (Addr×Nat×Nat):=fun f _=>if f=Str.ofString "Parser" then some (243,0,0) else none
noncomputable def meth1:List (Str×Addr):=[(Str.ofString "set_code",156),(Str.ofString "_study1",177),(Str.ofString "_study2",191),(Str.ofString "is_block_opener",226)]
noncomputable def T1 (p:Params)(a:Addr):Tb:=yT (K1 p) a G1 vJ zw meth1
theorem pd (p:Params):bG 60 (T1 p 149) (bh (K1 p) 149)=some jL:=by kernel_rfl
theorem sq (p:Params):bG 60 (T1 p 156) (bh (K1 p) 156)=some nc:=by kernel_rfl
theorem lV (p:Params):bG 60 (T1 p 177) (bh (K1 p) 177)=some (dP 85 51037 52020):=by kernel_rfl
theorem kA (p:Params):bG 60 (T1 p 191) (bh (K1 p) 191)=some (cV 177 58 60 59 148016 149021 150021):=by kernel_rfl
theorem kD (p:Params):bG 60 (T1 p 226) (bh (K1 p) 226)=some (eD 191):=by kernel_rfl
theorem pE (p:Params):bG 60 (T1 p 259) (bh (K1 p) 259)=some (jc 156 226 227011 228034):=by kernel_rfl
section
variable {p:Params}{hb:Heap}(X:(K1 p).In hb)(lim:hb.NoLimit)
include X lim
theorem sG:FnT hb 149 (T1 p 149) jL [Str.ofString "self",Str.ofString "indentwidth",Str.ofString "tabwidth"] [] (fu (K1 p) 149) (bh (K1 p) 149) 60:=
 dG X lim (by kernel_rfl) (lsS fun _=>lsS fun _=>lsS fun _=>ls0 (by kernel_rfl)) rfl (by kernel_rfl) (by kernel_rfl) (pd p)
theorem ro:FnT hb 156 (T1 p 156) nc [Str.ofString "self",Str.ofString "s"] [] (fu (K1 p) 156) (bh (K1 p) 156) 60:=
 dG X lim (by kernel_rfl) (lsS fun _=>lsS fun _=>ls0 (by kernel_rfl)) rfl (by kernel_rfl) (by kernel_rfl) (sq p)
theorem j8:FnT hb 177 (T1 p 177) (dP 85 51037 52020) [Str.ofString "self"] (dj (K1 p) 177) (fu (K1 p) 177) (bh (K1 p) 177) 60:=
 dG X lim (by kernel_rfl) (lsS fun _=>ls0 (by kernel_rfl)) rfl (by kernel_rfl) (by kernel_rfl) (lV p)
theorem iH:FnT hb 191 (T1 p 191) (cV 177 58 60 59 148016 149021 150021) [Str.ofString "self"] (dj (K1 p) 191) (fu (K1 p) 191) (bh (K1 p) 191) 60:=
 dG X lim (by kernel_rfl) (lsS fun _=>ls0 (by kernel_rfl)) rfl (by kernel_rfl) (by kernel_rfl) (kA p)
theorem iO:FnT hb 226 (T1 p 226) (eD 191) [Str.ofString "self"] [] (fu (K1 p) 226) (bh (K1 p) 226) 60:=
 dG X lim (by kernel_rfl) (lsS fun _=>ls0 (by kernel_rfl)) rfl (by kernel_rfl) (by kernel_rfl) (kD p)
theorem nV:FnT hb 259 (T1 p 259) (jc 156 226 227011 228034) [Str.ofString "parser",Str.ofString "text",Str.ofString "due"] (dj (K1 p) 259) (fu (K1 p) 259) (bh (K1 p) 259) 60:=
 dG X lim (by kernel_rfl) (lsS fun _=>lsS fun _=>lsS fun _=>ls0 (by kernel_rfl)) rfl (by kernel_rfl) (by kernel_rfl) (pE p)
end
end Mine
namespace Mine
open PySem PyProof.Rows PySem.W
noncomputable def attrs:List Str:=tY
noncomputable def Pm1 (w:World)(fn:Addr→Spec)(isFn:Addr→Bool):Pm where
 C:=243
 attr:=fun x=>attrs.contains x
 fn:=fn
 isFn:=isFn
 init:=149
 td:=85
 tr:=tr
theorem zo (p:Params):ClsOk (K1 p) 243:=⟨by kernel_rfl,by kernel_rfl,by kernel_rfl,by kernel_rfl,by kernel_rfl⟩
theorem yd (p:Params)(x:Str)(h:attrs.contains x=true):findIn (K1 p) (.ref 243) x=some none:=by
 have:=List.contains_iff_mem.mp h
 simp only[attrs,tY,List.mem_cons,List.not_mem_nil,or_false] at this
 rcases this with rfl|rfl|rfl|rfl|rfl|rfl|rfl|rfl|rfl|rfl|rfl<;>kernel_rfl
theorem gJ {β:Type}{l:List (Str×β)}{x:Str}{v:β}(h:l.lookup x=some v):(x,v)∈l:=by
 induction l with
 |nil=>contradiction
 |cons p r ih=>
  obtain⟨y,u⟩:=p
  rw[List.lookup_cons] at h
  split at h
  ·rename_i e;(injection h with h;subst h);rw[beq_iff_eq.mp e];exact .head _
  ·exact .tail _ (ih h)
theorem qw (p:Params)(x:Str)(f:Addr)(h:meth1.lookup x=some f):findIn (K1 p) (.ref 243) x=some (some (.ref f))∧typeIn (K1 p) (.ref f)=some (.type "function"):=by
 have:=gJ h
 simp only[meth1,List.mem_cons,List.not_mem_nil,or_false,Prod.mk.injEq] at this
 rcases this with ⟨rfl,rfl⟩|⟨rfl,rfl⟩|⟨rfl,rfl⟩|⟨rfl,rfl⟩<;>exact⟨by kernel_rfl,by kernel_rfl⟩
theorem xR (p:Params):makesIn (K1 p) 243=true:=by kernel_rfl
theorem zu (p:Params):findIn (K1 p) (.ref 243) "__init__"=some (some (.ref 149))∧typeIn (K1 p) (.ref 149)=some (.type "function"):=⟨by kernel_rfl,by kernel_rfl⟩
theorem ya (p:Params):keepIn (K1 p) (.ref 243)=true:=by kernel_rfl
end Mine
namespace Mine
open PySem PyProof.Rows PySem.W
noncomputable def rF (es:Array DictEntry):Bool:=es.toList.all fun e=>match e.key with | .int k _=>e.hash==hashInt k|_=>false
theorem mz {es:Array DictEntry}(h:rF es=true):PySem.IntKeys es:=by
 intro e he
 have:=List.all_eq_true.mp h e (Array.mem_toList_iff.mpr he)
 split at this
 ·rename_i k t q;exact⟨k,t,q,beq_iff_eq.mp this⟩
 ·contradiction
noncomputable def zz (es:Array DictEntry)(f:Nat→Nat):Bool:=(List.range 128).all fun c=>match findBy Value.isInt es (c:Int) with|some (.int v _)=>v==(f c:Nat)&&decide (f c<128)|_=>false
theorem v9 {es:Array DictEntry}{f:Nat→Nat}(h:zz es f=true)(c:Nat)(hc:c<128):∃t,findBy Value.isInt es (c:Int)=some (.int (f c:Nat) t)∧f c<128:=by
 have:=List.all_eq_true.mp h c (List.mem_range.mpr hc)
 split at this
 ·rename_i v t q
  simp only[Bool.and_eq_true,decide_eq_true_eq] at this
  exact⟨t,by rw[q,beq_iff_eq.mp this.1],this.2⟩
 ·contradiction
noncomputable def e7 (K:Frag)(a:Addr):Obj:=(K.lookup a).getD default
noncomputable def zd (K:Frag)(a:Addr):Nat:=match (e7 K a).data with | .dict _ n=>n|_=>0
theorem y9 (p:Params):∃C',TabOk (K1 p) 85 C' tr:=by
 refine⟨77,⟨(e7 (K1 p) 85).dict,nsOf (K1 p) 85,zd (K1 p) 85,(e7 (K1 p) 85).slots,by kernel_rfl,mz (by kernel_rfl),v9 (by kernel_rfl)⟩,by kernel_rfl,by kernel_rfl,by kernel_rfl⟩
noncomputable def xX:Option Value→Tok
 |some (.int _ t)=>t
 |_=>0
theorem yb {prog:Program}{w:World}{p:Params}{hb:Heap}(X:(K1 p).In hb){mg mb:Str→Option Value}(hg:hb.Ns mainGlobals mg)(hb':hb.Ns builtinsNs mb)(hmb:∀x:Str,x≠"__name__"→mb x=bootBuiltins x) (x:Str) (v:V) (h:G1.lookup x=some v):dJ prog w hb x v:=by
 have mge:=mg_of X hg (by kernel_rfl)
 have gi:∀(x:Str) (i:Int),nsFind (nsOf (K1 p) mainGlobals) x=some (.int i (xX (nsFind (nsOf (K1 p) mainGlobals) x)))→dJ prog w hb x (.d (.int i)):=fun x i e=>nw hg ((mge x).trans e) (fun c α h=>.int _ _)
 have gr:∀(x:Str) (a:Addr),nsFind (nsOf (K1 p) mainGlobals) x=some (.ref a)→dJ prog w hb x (.val (.ref a)):=fun x a e=>nw hg ((mge x).trans e) (fun c α h=>rfl)
 have gb:∀(x:Str) (b:Bi),nsFind (nsOf (K1 p) mainGlobals) x=none→x≠"__name__"→bootBuiltins x=some b.val→dJ prog w hb x (.bi b):=fun x b e e2 e3=>sR hg hb' ((mge x).trans e) ((hmb x e2).trans e3) (fun c α h=>rfl)
 have all:∀q∈G1,dJ prog w hb q.1 q.2:=
  List.forall_mem_cons.mpr ⟨gi _ _ (by kernel_rfl),List.forall_mem_cons.mpr ⟨gi _ _ (by kernel_rfl),List.forall_mem_cons.mpr ⟨gi _ _ (by kernel_rfl),List.forall_mem_cons.mpr ⟨gi _ _ (by kernel_rfl),List.forall_mem_cons.mpr ⟨gi _ _ (by kernel_rfl),List.forall_mem_cons.mpr ⟨gr _ _ (by kernel_rfl),List.forall_mem_cons.mpr ⟨gr _ _ (by kernel_rfl),List.forall_mem_cons.mpr ⟨gr _ _ (by kernel_rfl),List.forall_mem_cons.mpr ⟨gr _ _ (by kernel_rfl),List.forall_mem_cons.mpr ⟨gr _ _ (by kernel_rfl),List.forall_mem_cons.mpr ⟨gr _ _ (by kernel_rfl),List.forall_mem_cons.mpr ⟨gr _ _ (by kernel_rfl),List.forall_mem_cons.mpr ⟨gb _ _ (by kernel_rfl) (by decide +kernel) (by kernel_rfl),List.forall_mem_cons.mpr ⟨gb _ _ (by kernel_rfl) (by decide +kernel) (by kernel_rfl),List.forall_mem_cons.mpr ⟨gb _ _ (by kernel_rfl) (by decide +kernel) (by kernel_rfl),List.forall_mem_cons.mpr ⟨gb _ _ (by kernel_rfl) (by decide +kernel) (by kernel_rfl),List.forall_mem_cons.mpr ⟨gb _ _ (by kernel_rfl) (by decide +kernel) (by kernel_rfl),List.forall_mem_cons.mpr ⟨gb _ _ (by kernel_rfl) (by decide +kernel) (by kernel_rfl),List.forall_mem_cons.mpr ⟨gb _ _ (by kernel_rfl) (by decide +kernel) (by kernel_rfl),List.forall_mem_cons.mpr ⟨gb _ _ (by kernel_rfl) (by decide +kernel) (by kernel_rfl),List.forall_mem_nil _⟩⟩⟩⟩⟩⟩⟩⟩⟩⟩⟩⟩⟩⟩⟩⟩⟩⟩⟩⟩
 exact all (x,v) (gJ h)
structure Base1 (w:World)(p:Params)(hb:Heap)(mg mb:Str→Option Value):Prop where
 x:(K1 p).In hb
 lim:hb.NoLimit
 g:hb.Ns mainGlobals mg
 b:hb.Ns builtinsNs mb
 mb:∀x:Str,x≠"__name__"→mb x=bootBuiltins x
theorem cx1 {prog:Program}{w:World}{p:Params}{hb:Heap}{mg mb:Str→Option Value}(B:Base1 w p hb mg mb){fn:Addr→Spec}{isFn:Addr→Bool}{dep:Nat}(a:Addr)
  (hfn:∀a,isFn a=true→(∃k,Looks (model prog w) hb (keeperOf (.ref a)) k)∧FnOk prog w hb dep a (fn a)) (hin:FnOk prog w hb dep 149 (fn 149)):Cx0 prog w hb (K1 p) (T1 p a) (Pm1 w fn isFn) dep:=
 ⟨B.x,fun x v h=>yb B.x B.g B.b B.mb x v h,zo p,fun x h=>yd p x h,fun x f h=>qw p x f h,hfn,xR p,zu p,hin,ya p,y9 p⟩
theorem dQ (w:World)(fn:Addr→Spec)(isFn:Addr→Bool):Attr2 (Pm1 w fn isFn):=⟨⟨by kernel_rfl,by kernel_rfl,by kernel_rfl,by kernel_rfl⟩,by kernel_rfl,by kernel_rfl,by kernel_rfl,by kernel_rfl,by kernel_rfl⟩
section
variable {prog:Program}{w:World}{p:Params}{hb:Heap}{mg mb:Str→Option Value}(B:Base1 w p hb mg mb)
include B
noncomputable def jA:Addr→Spec:=fun _ _ _ _=>False
theorem wI (a:Addr):Cx0 prog w hb (K1 p) (T1 p a) (Pm1 w jA fun _=>false) 0:=cx1 B a (fun a h=>by contradiction) (fun A r vs ws c α s K R h1 h2 h3 h4=>h4.elim)
theorem xK:FnOk prog w hb 2 149 (ge 243):=by
 refine gf (sG B.x B.lim) (wI B 149) fun vs c K h=>?_
 obtain⟨k,dk,rfl,W,hk,hdk,hK⟩:=h
 exact⟨rfl,_,sS (P:=Pm1 w jA fun _=>false) (n:=0) (by kernel_rfl) (by kernel_rfl) W hk hdk hK⟩
theorem yW:FnOk prog w hb 2 156 (jK 243):=by
 refine gf (ro B.x B.lim) (wI B 156) fun vs c K h=>?_
 obtain⟨k,dk,fs,x,rfl,pa,hl,T,hK⟩:=h
 exact⟨rfl,_,vu (P:=Pm1 w jA fun _=>false) (n:=0) (dQ _ _ _).toAttrOk pa.w pa.k_ pa.d_ hl T hK⟩
theorem vC:FnOk prog w hb 2 177 (d6 243 51037 52020):=by
 refine gf (j8 B.x B.lim) (wI B 177) fun vs c K h=>?_
 obtain⟨k,dk,fs,rfl,pa,h⟩:=h
 refine⟨rfl,130,?_⟩
 have hr:(dj (K1 p) 177).length=12:=by kernel_rfl
 rw[hr]
 rcases h with ⟨h1,h2⟩|⟨x,h1,h2,h3,h4⟩
 ·exact j6 (P:=Pm1 w jA fun _=>false) (n:=0) (dQ _ _ _).toAttrOk pa.w pa.k_ pa.d_ h1 h2
 ·exact pU (P:=Pm1 w jA fun _=>false) (n:=0) (dQ _ _ _).toAttrOk rfl rfl pa.w pa.k_ pa.d_ h1.len h1.sl h1.co h1.t h2 h3 (by decide) h4
theorem cv {a:Addr}{o:Obj}{fd:FuncData}(ho:hb.get? a=some o)(hd:o.data=.func fd):∃k,Looks (model prog w) hb (keeperOf (.ref a)) k:=by
 refine⟨.frame,fun A Q E s k q=>?_⟩
 unfold keeperOf
 refine wpAny_bind (wpAny_load (k _ _ ho) ?_)
 rw[hd];exact wpAny_pure q
noncomputable def fld (o:Obj)(i:Nat):Value:=match o.data with | .fields vs=>vs.getD i .none|_=>.none
theorem pJ:PatAt hb 58 43 Re.junkC:=⟨B.x _ _ (by kernel_rfl),fld (e7 (K1 p) 43) 0,fld (e7 (K1 p) 43) 1,42,0,B.x _ _ (by kernel_rfl),B.x _ _ (by kernel_rfl)⟩
theorem pS:PatAt hb 59 48 Re.strC:=⟨B.x _ _ (by kernel_rfl),fld (e7 (K1 p) 48) 0,fld (e7 (K1 p) 48) 1,47,0,B.x _ _ (by kernel_rfl),B.x _ _ (by kernel_rfl)⟩
theorem pO:PatAt hb 60 53 Re.chewC:=⟨B.x _ _ (by kernel_rfl),fld (e7 (K1 p) 53) 0,fld (e7 (K1 p) 53) 1,52,0,B.x _ _ (by kernel_rfl),B.x _ _ (by kernel_rfl)⟩
end
noncomputable def iX:List IS:=[
 .if_ (.cmp .Eq (.v 0) (.lst [] none)) [
  .ret (some (.c (.int 0)))] [],
 .ret (some (.bin .Mod (.meth (.v 0) .pop [(.c (.int 0))]) (.v 1)))]
noncomputable def eT:Spec:=fun vs c K=>∃(k:Nat) (l:List Int) (b:Int),vs=[.obj k,.d (.int b)]∧Wf c∧ae c k=some (.list (l.map .int))∧b≠0∧l.length≤big∧
 ((l=[]∧K (.d (.int 0)) c)∨∃a r,l=a::r∧K (.d (.int (a.fmod b))) (cset c k (.list (r.map .int))))
section
variable {P:Pm}{pr:List Nat}
theorem rI {c:aa}{k:Nat}{l:List Int}(hk:ae c k=some (.list (l.map .int))){K:Bool→Prop}(h:K l.isEmpty):eJ c .Eq (.obj k) (.d (.lst [])) K:=by
 obtain⟨h1,h2⟩:=kM l
 have e:rd c (.obj k)=some (D.lst (l.map .int)):=by
  show (match ae c k with|some (.list xs)=>some (D.lst xs)|_=>none)=_
  rw[hk]
 show aw (rd c (.obj k)) _
 rw[e]
 refine⟨?_,by decide,?_,?_⟩
 ·show (PyData.canLayAll0 (pys (l.map .int))&&decide (PyData.depthAll (pys (l.map .int))+1≤64))=true
  rw[h1,h2];rfl
 ·cases l<;>rfl
 ·cases l with
  |nil=>exact h
  |cons a l=>exact h
theorem Wf.list {c:aa}(W:Wf c){k:Nat}{xs ys:List D}(hk:ae c k=some (.list xs)):Wf (cset c k (.list ys)):=by
 have hkd:=ai hk
 refine⟨?_,by rw[ah];exact W.nd⟩
 rw[celW_iff]
 intro p hp
 rcases gK W.nd hp with rfl|⟨hp,hne⟩
 ·exact⟨.list ys,by rw[au hkd,if_pos rfl],rfl⟩
 ·obtain⟨o,h3,h4⟩:=celW_iff.mp W.w p hp
  exact⟨o,by rw[au hkd,if_neg hne];exact h3,eC (fun j hj=>by rw[ah];exact hj) h4⟩
theorem tb {n k:Nat}{c:aa}{l:List Int}{b:Int}(W:Wf c)(hk:ae c k=some (.list (l.map .int)))(hb:b≠0)(hl:l.length≤big){K:V→aa→Prop}
  (h:(l=[]∧K (.d (.int 0)) c)∨∃a r,l=a::r∧K (.d (.int (a.fmod b))) (cset c k (.list (r.map .int)))):wpB P (dom c) (n+20) iX ⟨start [.obj k,.d (.int b)] 0,c⟩ (EndP c K):=by
 unfold iX
 refine bb (n:=n+18) l.isEmpty (c':=c) (fun K' h=>bF (n:=n+17) (.obj k) (.d (.lst [])) (fun K' h=>h) (fun K' h=>⟨by decide,h⟩) (rI hk h)) ?_
 rcases h with ⟨rfl,h⟩|⟨a,r,rfl,h⟩
 ·exact fo (n:=n+16) (.d (.int 0)) (c':=c) (fun K' h=>h) (EndP.same W (fun _ h=>h) rfl h)
 ·refine al (n:=n+17) ?_
  refine fo (n:=n+17) (.d (.int (a.fmod b))) (c':=cset c k (.list (r.map .int))) (fun K' h=>?_) (EndP.same (W.list hk) (fun j hj=>by rw[ah];exact hj) rfl h)
  rw[cp,eX]
  refine bv (n:=n+14) (v:=.obj k) rfl _ ?_
  have hm:dz c (.obj k) .pop:=⟨rfl,by rw[hk];trivial⟩
  refine⟨hm,rfl,?_⟩
  rw[hk]
  refine⟨rfl,by rw[List.length_map];exact hl,.int a,r.map .int,rfl,?_⟩
  exact⟨hb,h⟩
end
theorem ph (p:Params):bG 60 (T1 p 254) (bh (K1 p) 254)=some iX:=by kernel_rfl
section
variable {p:Params}{hb:Heap}(X:(K1 p).In hb)(lim:hb.NoLimit)
include X lim
theorem nL:FnT hb 254 (T1 p 254) iX [Str.ofString "pool",Str.ofString "bound"] [] (fu (K1 p) 254) (bh (K1 p) 254) 60:=
 dG X lim (by kernel_rfl) (lsS fun _=>lsS fun _=>ls0 (by kernel_rfl)) rfl (by kernel_rfl) (by kernel_rfl) (ph p)
end
noncomputable def fnB:Addr→Spec:=fun a=>if a=177 then d6 243 51037 52020 else if a=58 then aS Re.junkC else if a=59 then aS Re.strC else if a=60 then aS Re.chewC else jA a
noncomputable def isB:Addr→Bool:=fun a=>a==177||a==58||a==59||a==60
noncomputable def PB (w:World):Pm:=Pm1 w fnB isB
noncomputable def fnC:Addr→Spec:=fun a=>if a=191 then ez 243 51037 52020 148016 149021 150021 else jA a
noncomputable def isK:Addr→Bool:=fun a=>a==191
noncomputable def PC (w:World):Pm:=Pm1 w fnC isK
noncomputable def fnD:Addr→Spec:=fun a=>if a=156 then jK 243 else if a=226 then ej 243 51037 52020 148016 149021 150021 else jA a
noncomputable def isD:Addr→Bool:=fun a=>a==156||a==226
noncomputable def PD (w:World):Pm:=Pm1 w fnD isD
section
variable {prog:Program}{w:World}{p:Params}{hb:Heap}{mg mb:Str→Option Value}(B:Base1 w p hb mg mb)
include B
theorem cxB (a:Addr):Cx0 prog w hb (K1 p) (T1 p a) (PB w) 2:=by
 refine cx1 B a (fun a h=>?_) (fun A r vs ws c α s K R h1 h2 h3 h4=>h4.elim)
 simp only[isB,Bool.or_eq_true,beq_iff_eq] at h
 rcases h with ((rfl|rfl)|rfl)|rfl
 ·exact⟨let ⟨o,h1,h2⟩:=(j8 B.x B.lim).N.at_;cv B h1 h2,vC B⟩
 ·exact⟨eu (pJ B),mA (pJ B)⟩
 ·exact⟨eu (pS B),mA (pS B)⟩
 ·exact⟨eu (pO B),mA (pO B)⟩
theorem sO:FnOk prog w hb 4 191 (ez 243 51037 52020 148016 149021 150021):=by
 refine gf (iH B.x B.lim) (cxB B 191) fun vs c K h=>?_
 obtain⟨k,dk,fs,rfl,pa,h⟩:=h
 refine⟨rfl,130,?_⟩
 have hr:(dj (K1 p) 191).length=13:=by kernel_rfl
 rw[hr]
 rcases h with ⟨h1,h2⟩|⟨x,F,hb,⟨d1,d2,d3,d4,d5⟩,h⟩
 ·exact jP (P:=PB w) (n:=0) (dQ _ _ _) pa h1 h2
 ·exact oC (P:=PB w) (n:=0) (dQ _ _ _) pa F hb d1 d2 d3 d4 d5 (by decide) (by decide) (by decide) rfl rfl rfl rfl rfl rfl rfl rfl h
theorem cxC (a:Addr):Cx0 prog w hb (K1 p) (T1 p a) (PC w) 4:=by
 refine cx1 B a (fun a h=>?_) (fun A r vs ws c α s K R h1 h2 h3 h4=>h4.elim)
 simp only[isK,beq_iff_eq] at h
 subst h
 exact⟨let ⟨o,h1,h2⟩:=(iH B.x B.lim).N.at_;cv B h1 h2,sO B⟩
theorem tu:FnOk prog w hb 6 226 (ej 243 51037 52020 148016 149021 150021):=by
 refine gf (iO B.x B.lim) (cxC B 226) fun vs c K h=>?_
 obtain⟨k,dk,fs,due,rfl,pa,hm,h⟩:=h
 exact⟨rfl,_,oE (P:=PC w) (n:=0) (dQ _ _ _) pa hm rfl rfl h⟩
theorem cxD (a:Addr):Cx0 prog w hb (K1 p) (T1 p a) (PD w) 6:=by
 refine cx1 B a (fun a h=>?_) (fun A r vs ws c α s K R h1 h2 h3 h4=>h4.elim)
 simp only[isD,Bool.or_eq_true,beq_iff_eq] at h
 rcases h with rfl|rfl
 ·exact⟨let ⟨o,h1,h2⟩:=(ro B.x B.lim).N.at_;cv B h1 h2,(yW B).more (by decide)⟩
 ·exact⟨let ⟨o,h1,h2⟩:=(iO B.x B.lim).N.at_;cv B h1 h2,tu B⟩
theorem ym:FnOk prog w hb 8 259 (gP 243 51037 52020 148016 149021 150021 227011 228034):=by
 refine gf (nV B.x B.lim) (cxD B 259) fun vs c K h=>?_
 obtain⟨k,dk,fs,x,due,rfl,pa,hm,hl,T,hb,ho,hf,h1,h2,hK⟩:=h
 refine⟨rfl,40,?_⟩
 have hr:(dj (K1 p) 259).length=1:=by kernel_rfl
 rw[hr]
 exact ut (P:=PD w) (n:=0) pa hm hl T hb ho hf h1 h2 (by unfold far;simp[dom]) rfl rfl rfl rfl hK
theorem yK:FnOk prog w hb 8 254 eT:=by
 refine gf (nL B.x B.lim) (cxD B 254) fun vs c K h=>?_
 obtain⟨k,l,b,rfl,W,h1,h2,h3,h4⟩:=h
 exact⟨rfl,_,tb (P:=PD w) (n:=0) W h1 h2 h3 h4⟩
end
noncomputable def shM (n:Nat):Md→Md
 | .Q1 d f=>.Q1 d (f+n)
 | .Q2 d f=>.Q2 d (f+n)
 | .S1 d f=>.S1 d (f+n)
 | .S1e d f=>.S1e d (f+n)
 | .S3 d k f=>.S3 d k (f+n)
 | .S3e d f=>.S3e d (f+n)
 |m=>m
noncomputable def sh (g:List Nat)(n:Nat)(s:St):St:=⟨shM n s.md,s.lv,s.ln+n,g++(s.gd.map (·+n)).tail⟩
theorem rZ {g:List Nat}{n:Nat}{s:St}(h:s.gd≠[]):nl (sh g n s)=sh g n (nl s):=by
 obtain⟨md,lv,ln,gd⟩:=s
 cases gd with
 |nil=>exact absurd rfl h
 |cons a gd=>
  unfold nl sh
  dsimp only
  by_cases q:lv=0
  ·rw[if_pos q,if_pos q]
   simp only[List.map_cons,List.tail_cons,List.cons_append,List.map_append,List.map_nil,List.append_assoc,shM]
   rw[Nat.add_right_comm]
  ·rw[if_neg q,if_neg q]
   simp only[shM]
   rw[Nat.add_right_comm]
theorem tO {g:List Nat}{n:Nat}{s:St}(h:s.gd≠[])(c:Nat):step (sh g n s) c=sh g n (step s c):=by
 have hn:=rZ (g:=g) (n:=n) h
 obtain⟨md,lv,ln,gd⟩:=s
 have eN:∀md,aX (sh g n ⟨md,lv,ln,gd⟩) c=sh g n (aX ⟨md,lv,ln,gd⟩ c):=fun md=>by
  unfold aX
  have hn':nl (sh g n ⟨md,lv,ln,gd⟩)=sh g n (nl ⟨md,lv,ln,gd⟩):=rZ h
  by_cases h1:c=10
  ·rw[if_pos h1,if_pos h1];exact hn'
  rw[if_neg h1,if_neg h1]
  by_cases h2:c=40
  ·rw[if_pos h2,if_pos h2];rfl
  rw[if_neg h2,if_neg h2]
  by_cases h3:c=41
  ·rw[if_pos h3,if_pos h3];rfl
  rw[if_neg h3,if_neg h3]
  by_cases h4:c=34
  ·rw[if_pos h4,if_pos h4];rfl
  rw[if_neg h4,if_neg h4]
  by_cases h5:c=39
  ·rw[if_pos h5,if_pos h5];rfl
  rw[if_neg h5,if_neg h5]
  by_cases h6:c=35
  ·rw[if_pos h6,if_pos h6];rfl
  rw[if_neg h6,if_neg h6]
  by_cases h7:c=92
  ·rw[if_pos h7,if_pos h7];rfl
  rw[if_neg h7,if_neg h7];rfl
 have eS:∀md d f,bc (sh g n ⟨md,lv,ln,gd⟩) d (f+n) c=sh g n (bc ⟨md,lv,ln,gd⟩ d f c):=fun md d f=>by
  have hn':nl (sh g n ⟨md,lv,ln,gd⟩)=sh g n (nl ⟨md,lv,ln,gd⟩):=rZ h
  unfold bc
  by_cases h1:c=qc d
  ·rw[if_pos h1,if_pos h1];rfl
  rw[if_neg h1,if_neg h1]
  by_cases h2:c=10
  ·rw[if_pos h2,if_pos h2];exact hn'
  rw[if_neg h2,if_neg h2]
  by_cases h3:c=92
  ·rw[if_pos h3,if_pos h3];rfl
  rw[if_neg h3,if_neg h3];rfl
 have e1:∀a b:Nat,a+b+1=a+1+b:=fun a b=>by exact Om.o386
 cases md with
 |N=>exact eN _
 |Nb=>exact eN _
 |E=>
  show (if c=10 then _ else _)=sh g n (if c=10 then _ else _)
  by_cases q:c=10
  ·rw[if_pos q,if_pos q];unfold sh;rw[e1];rfl
  ·rw[if_neg q,if_neg q];rfl
 |C=>
  show (if c=10 then _ else _)=sh g n (if c=10 then _ else _)
  by_cases q:c=10
  ·rw[if_pos q,if_pos q];exact hn
  ·rw[if_neg q,if_neg q]
 |Q1 d f=>
  show (if c=qc d then _ else bc _ d (f+n) c)=sh g n (if c=qc d then _ else _)
  by_cases q:c=qc d
  ·rw[if_pos q,if_pos q];rfl
  ·rw[if_neg q,if_neg q];exact eS _ d f
 |Q2 d f=>
  show (if c=qc d then _ else aX _ c)=sh g n (if c=qc d then _ else _)
  by_cases q:c=qc d
  ·rw[if_pos q,if_pos q];rfl
  ·rw[if_neg q,if_neg q];exact eN _
 |S1 d f=>exact eS _ d f
 |S1e d f=>
  show (if c=10 then _ else _)=sh g n (if c=10 then _ else _)
  by_cases q:c=10
  ·rw[if_pos q,if_pos q];unfold sh;dsimp only;rw[e1];rfl
  ·rw[if_neg q,if_neg q];rfl
 |S3 d k f=>
  show (if c=qc d then (if k=2 then _ else _) else if c=10 then _ else if c=92 then _ else _)=sh g n (if c=qc d then (if k=2 then _ else _) else if c=10 then _ else if c=92 then _ else _)
  by_cases q:c=qc d
  ·rw[if_pos q,if_pos q]
   by_cases q2:k=2
   ·rw[if_pos q2,if_pos q2];rfl
   ·rw[if_neg q2,if_neg q2];rfl
  rw[if_neg q,if_neg q]
  by_cases q2:c=10
  ·rw[if_pos q2,if_pos q2];unfold sh;rw[e1];rfl
  rw[if_neg q2,if_neg q2]
  by_cases q3:c=92
  ·rw[if_pos q3,if_pos q3];rfl
  ·rw[if_neg q3,if_neg q3];rfl
 |S3e d f=>
  show (if c=10 then _ else _)=sh g n (if c=10 then _ else _)
  by_cases q:c=10
  ·rw[if_pos q,if_pos q];unfold sh;dsimp only;rw[e1];rfl
  ·rw[if_neg q,if_neg q];rfl
theorem yf {s:St}(h:s.gd≠[])(c:Nat):(step s c).gd≠[]:=by
 rcases lm s c with e|⟨e,_⟩
 ·rw[e];exact h
 ·rw[e];simp
theorem nK {g:List Nat}{n:Nat}:∀(l:List Nat) {s:St},s.gd≠[]→scan (sh g n s) l=sh g n (scan s l)
 | [],s,h=>rfl
 |c::l,s,h=>by rw[bf,bf,tO h];exact nK l (yf h c)
theorem bP:∀a b:List Nat,nls (a++b)=nls a+nls b
 | [],b=>by show nls b=0+nls b;exact Om.o385
 |c::a,b=>by show (if c=10 then 1 else 0)+nls (a++b)=_;rw[bP a b,nls];exact Om.o251
theorem jj:∀(a b:List Nat) (t:Nat),(a=[]∨a.getLast?=some 10)→ar (a++b) (nls a+t)=a.length+ar b t
 | [],b,t,_=>by show ar b (0+t)=0+_;rw[Nat.zero_add,Nat.zero_add]
 | [c],b,t,h=>by
  have:c=10:=by simpa using h
  subst this
  show ar (10::b) (1+0+t)=1+ar b t
  rw[show 1+0+t=t+1 by exact Om.o384,ar,if_pos rfl]
 |c::d::a,b,t,h=>by
  have h':(d::a).getLast?=some 10:=by simpa [List.getLast?_cons_cons] using h
  have ih:=jj (d::a) b t (.inr h')
  have hp:0<nls (d::a):=by
   have:=mi (d::a) (.inr h')
   cases hn:nls (d::a) with
   |zero=>rw[hn,bY] at this;contradiction
   |succ n=>exact Om.o127
  show ar (c::(d::a++b)) (nls (c::d::a)+t)=_
  by_cases hc:c=10
  ·rw[show nls (c::d::a)+t=(nls (d::a)+t)+1 by rw[nls,if_pos hc];exact Om.o383,ar,if_pos hc,ih];dsimp only[List.length_cons];exact Om.o380
  ·obtain⟨m,hm⟩:∃m,nls (d::a)+t=m+1:=⟨nls (d::a)+t-1,by exact Om.o382 hp⟩
   rw[show nls (c::d::a)+t=m+1 by rw[nls,if_neg hc];exact Om.o381 hm,ar,if_neg hc,←hm,ih];dsimp only[List.length_cons];exact Om.o380
structure Cl (l gd:List Nat):Prop where
 sc:scan st0 (l.map tr)=⟨.N,0,nls l,gd⟩
 last:gd.getLast?=some (nls l)
 ends:l=[]∨l.getLast?=some 10
theorem cl0:Cl [] [0]:=⟨rfl,rfl,.inl rfl⟩
theorem gO {a b:List Nat}(ha:a=[]∨a.getLast?=some 10)(hb:b=[]∨b.getLast?=some 10):a++b=[]∨(a++b).getLast?=some 10:=by
 rcases hb with rfl|hb
 ·rw[List.append_nil];exact ha
 ·right;rw[List.getLast?_append,hb];rfl
theorem Cl.scan {l gd:List Nat}(h:Cl l gd)(S:List Nat):scan st0 ((l++S).map tr)=sh gd (nls l) (scan st0 (S.map tr)):=by
 rw[List.map_append,aM,h.sc]
 have e:(⟨.N,0,nls l,gd⟩:St)=sh gd (nls l) st0:=by
  show (⟨.N,0,nls l,gd⟩:St)=⟨.N,0,0+nls l,gd++[]⟩
  rw[List.append_nil,Nat.zero_add]
 rw[e,nK _ (by decide)]
theorem Cl.app {l gd S gs:List Nat}(h:Cl l gd)(hS:Cl S (0::gs)):Cl (l++S) (gd++gs.map (·+nls l)):=by
 refine⟨?_,?_,gO h.ends hS.ends⟩
 ·rw[h.scan,hS.sc]
  unfold sh
  dsimp only[shM]
  rw[bP,Nat.add_comm];rfl
 ·have hl:=hS.last
  rw[bP]
  cases gs with
  |nil=>
   have:nls S=0:=by simpa using hl.symm
   rw[this,List.map_nil,List.append_nil];exact h.last
  |cons a gs=>
   rw[List.getLast?_cons_cons] at hl
   rw[List.getLast?_append,List.getLast?_map,hl]
   show some (nls S+nls l)=_
   rw[Nat.add_comm]
structure JkOk (J:List Nat):Prop where
 cl:Cl J (List.range (nls J+1))
 jk:∀t,t<nls J→Re.junkB (J.drop (ar J t))=true
theorem kN {s:St}(h:s.gd.getLast?=some s.ln):aR s=s.gd:=if_pos h
theorem qQ {x:Str}{l gd S J:List Nat}{m:Nat}(hl:Cl l gd)(hx:sg x=l++(S++J))(hS:S=[]∨S.getLast?=some 10)(hm:nls S=m)(hg:aR (fin x)=gd++(List.range (nls J+1)).map (·+(nls l+m)))(hj:∀t,t<nls J→Re.junkB (J.drop (ar J t))=true)(hn:Re.junkB (S++J)=false) :
  stm x=(l.length,l.length+S.length):=by
 obtain⟨e,he⟩:∃e,gd.length=e+1:=by
  cases hgd:gd with
  |nil=>have:=hl.last;rw[hgd] at this;contradiction
  |cons a r=>exact⟨r.length,rfl⟩
 have glast:gd[e]?=some (nls l):=by have:=hl.last;rw[List.getLast?_eq_getElem?,he] at this;exact this
 unfold stm
 rw[hg]
 have hlen:(gd++(List.range (nls J+1)).map (·+(nls l+m))).length-1=e+1+nls J:=by
  rw[List.length_append,List.length_map,List.length_range,he];exact Om.o393
 rw[hlen]
 have key:∀t,t≤nls J→(bd x (gd++(List.range (nls J+1)).map (·+(nls l+m))) (e+1+t))=(l.length,l.length+S.length):=by
  intro t
  induction t with
  |zero=>
   intro _
   have g0:(gd++(List.range (nls J+1)).map (·+(nls l+m))).getD e 0=nls l:=by
    rw[List.getD_eq_getElem?_getD,List.getElem?_append_left (by exact Om.o392 he),glast];rfl
   have l0:ar (sg x) (nls l)=l.length:=by
    rw[hx];have:=jj l (S++J) 0 hl.ends;rw[bY] at this;exact this
   have g1:(gd++(List.range (nls J+1)).map (·+(nls l+m))).getD (e+1) 0=nls (l++S)+0:=by
    rw[List.getD_eq_getElem?_getD,List.getElem?_append_right (by rw[he];exact Nat.le_refl _),he,Nat.sub_self,List.getElem?_map,List.getElem?_range (Nat.zero_lt_succ _),bP,hm]
    show 0+(nls l+m)=_;rw[Nat.zero_add];rfl
   have l1:ar (sg x) (nls (l++S)+0)=l.length+S.length:=by
    rw[hx,←List.append_assoc,jj (l++S) J 0 (gO hl.ends hS),bY,List.length_append];rfl
   show bd x _ (e+1)=_
   rw[bd,g0,g1,l0,l1,hx,List.drop_left,hn,if_neg (by decide)]
  |succ t ih=>
   intro ht
   have g1:(gd++(List.range (nls J+1)).map (·+(nls l+m))).getD (e+1+t) 0=nls (l++S)+t:=by
    rw[List.getD_eq_getElem?_getD,List.getElem?_append_right (by exact Om.o391 he),he,show e+1+t-(e+1)=t by exact Om.o390,List.getElem?_map,List.getElem?_range (by exact Om.o389 ht),bP,hm]
    show t+(nls l+m)=_;exact Om.o388
   have l1:ar (sg x) (nls (l++S)+t)=(l++S).length+ar J t:=by
    rw[hx,←List.append_assoc];exact jj (l++S) J t (gO hl.ends hS)
   have hd:(sg x).drop ((l++S).length+ar J t)=J.drop (ar J t):=by
    rw[hx,←List.append_assoc,←List.drop_drop,List.drop_left]
   show bd x _ (e+1+t+1)=_
   rw[bd,g1,l1,hd,hj t (by exact Om.o74 ht),if_pos rfl]
   exact ih (by exact Om.o73 ht)
 exact key _ (Nat.le_refl _)
theorem oJ {x:Str}{l gd S J:List Nat}(hl:Cl l gd)(hx:sg x=l++(S++J))(hS:Cl S [0,nls S])(hJ:JkOk J)(hn:Re.junkB (S++J)=false):stm x=(l.length,l.length+S.length)∧∃gd',Cl (l++(S++J)) gd':=by
 have c1:Cl (l++S) (gd++[nls S+nls l]):=hl.app hS
 obtain⟨jt,hjt⟩:∃jt,List.range (nls J+1)=0::jt:=by rw[List.range_succ_eq_map];exact⟨_,rfl⟩
 have c2:Cl (l++S++J) (gd++[nls S+nls l]++jt.map (·+nls (l++S))):=c1.app (by have:=hJ.cl;rw[hjt] at this;exact this)
 have hg:aR (fin x)=gd++(List.range (nls J+1)).map (·+(nls l+nls S)):=by
  have e:fin x=⟨.N,0,nls (l++S++J),gd++[nls S+nls l]++jt.map (·+nls (l++S))⟩:=by
   unfold fin;rw[hx,←List.append_assoc];exact c2.sc
  rw[kN (by rw[e];exact c2.last),e,hjt]
  show gd++[nls S+nls l]++jt.map (·+nls (l++S))=_
  rw[bP,List.append_assoc,List.map_cons,Nat.zero_add,Nat.add_comm (nls S)];rfl
 exact⟨qQ hl hx hS.ends rfl hg hJ.jk hn,_,by rw[←List.append_assoc];exact c2⟩
theorem oq {x:Str}{l gd S:List Nat}(hl:Cl l gd)(hx:sg x=l++S)(hS:(scan st0 (S.map tr)).gd=[0]∧0<nls S)(hE:S.getLast?=some 10)(hn:Re.junkB S=false):stm x=(l.length,l.length+S.length):=by
 have e:fin x=sh gd (nls l) (scan st0 (S.map tr)):=by unfold fin;rw[hx];exact hl.scan S
 have eln:(fin x).ln=nls S+nls l:=by
  rw[e];show (scan st0 (S.map tr)).ln+nls l=_
  rw[jI,ml];show 0+nls S+nls l=_;exact Om.o387
 have egd:(fin x).gd=gd:=by
  rw[e];show gd++((scan st0 (S.map tr)).gd.map (·+nls l)).tail=gd
  rw[hS.1];simp
 have hg:aR (fin x)=gd++(List.range (nls []+1)).map (·+(nls l+nls S)):=by
  unfold aR
  rw[egd,eln,hl.last,if_neg (fun q=>by have:=Option.some.inj q;omega)]
  show gd++[nls S+nls l]=gd++[0+(nls l+nls S)]
  rw[Nat.zero_add,Nat.add_comm]
 exact qQ (J:=[]) hl (by rw[List.append_nil];exact hx) (.inr hE) rfl hg (fun t ht=>absurd ht (Nat.not_lt_zero _)) (by rw[List.append_nil];exact hn)
theorem fm {x:Str}{q:Nat}{s0 s:L2}(h:Rch x q s0 s):s=s0∨(s0.p<q∧Rch x q (cX x q s0) s):=by
 induction h with
 |refl=>exact .inl rfl
 |step h hp ih=>
  rcases ih with rfl|⟨h1,h2⟩
  ·exact .inr ⟨hp,.refl⟩
  ·exact .inr ⟨h1,.step h2 hp⟩
theorem qE {x:Str}{q:Nat}{s0 s:L2}(h0:s0.p<q)(h:Rch x q (cX x q s0) s):Rch x q s0 s:=by
 induction h with
 |refl=>exact .step .refl h0
 |step h hp ih=>exact .step ih hp
def G (w:List Nat)(l l':Str):Prop:=∀(x:Str) (q:Nat) (s:L2),q≤x.length→s.p≤q→ao x q s.p=w→s.last=l→∀s',Rch x q s s'→s'.p=q→s'.last=l'
theorem mZ {l:Str}:G [] l l:=fun x q s hq hp hr hl s' h he=>by
 have h1:=cj (x:=x) (p:=s.p) hq
 rw[hr] at h1
 rcases fm h with rfl|⟨h2,_⟩
 ·exact hl
 ·have h1:0=q-s.p:=h1;omega
theorem eL {ch k:Nat}{r:List Nat}{l l1 l':Str}(ho:Re.ord_ ch=false)(hk:k≤(ch::r).length)(ht:∀p st br,∃st' br',dc p l st br (ch::r)=⟨p+k,l1,st',br'⟩)(g:G ((ch::r).drop k) l1 l'):G (ch::r) l l':=fun x q s hq hp hr hl s' h he=>by
 have h1:=cj (x:=x) (p:=s.p) hq
 rw[hr] at h1
 have h2:r.length+1=q-s.p:=h1
 have h3:k≤r.length+1:=hk
 rcases fm h with rfl|⟨_,h⟩
 ·omega
 obtain⟨st',br',e⟩:=ht s.p s.st s.br
 have e2:cX x q s=⟨s.p+k,l1,st',br'⟩:=by
  unfold cX
  rw[hr,List.takeWhile_cons,List.dropWhile_cons,ho,←e,hl];rfl
 rw[e2] at h
 refine g x q _ hq ?_ ?_ rfl s' h he
 ·show s.p+k≤q;omega
 ·show ao x q (s.p+k)=_
  rw[←hr];unfold ao;rw[List.drop_drop]
theorem n6 (c:Nat)(w:List Nat)(l:Str):lastOf (c::w) l=lastOf w (if cC c=true then l else ⟨#[c]⟩):=by
 unfold lastOf cZ
 rw[List.reverse_cons,List.find?_append]
 cases w.reverse.find? fun c=>!cC c with
 |some d=>rfl
 |none=>show (match ([c].find? fun c=>!cC c) with|some c=>(⟨#[c]⟩:Str)|none=>l)=_;rw[List.find?_cons];cases cC c<;>rfl
theorem bo {c:Nat}{r:List Nat}{l l':Str}(ho:Re.ord_ c=true)(g:G r (if cC c=true then l else ⟨#[c]⟩) l'):G (c::r) l l':=fun x q s hq hp hr hl s' h he=>by
 have h1:=cj (x:=x) (p:=s.p) hq
 rw[hr] at h1
 have h2:r.length+1=q-s.p:=h1
 rcases fm h with rfl|⟨_,h⟩
 ·omega
 have e1:ao x q (s.p+1)=r:=by
  have:ao x q (s.p+1)=(ao x q s.p).drop 1:=by unfold ao;rw[List.drop_drop]
  rw[this,hr];rfl
 have e2:cX x q s=dc (s.p+1+(r.takeWhile Re.ord_).length) (lastOf (r.takeWhile Re.ord_) (if cC c=true then l else ⟨#[c]⟩)) s.st s.br (r.dropWhile Re.ord_):=by
  unfold cX
  rw[hr,List.takeWhile_cons,List.dropWhile_cons,ho,hl]
  show dc (s.p+((r.takeWhile Re.ord_).length+1)) (lastOf (c::r.takeWhile Re.ord_) l) s.st s.br (r.dropWhile Re.ord_)=_
  rw[n6,Nat.add_assoc s.p 1,Nat.add_comm 1]
 refine g x q ⟨s.p+1,_,s.st,s.br⟩ hq (by show s.p+1≤q;omega) e1 rfl s' ?_ he
 rw[e2] at h
 by_cases hn:r=[]
 ·subst hn;exact h
 ·have hpos:0<r.length:=List.length_pos_iff.mpr hn
  refine qE (by show s.p+1<q;omega) ?_
  unfold cX
  rw[e1];exact h
noncomputable def pl (p:List Nat×List Nat)(l:Str):Str:=if p.2=[] then l else ⟨p.2.toArray⟩
noncomputable def parts4:List (List Nat×List Nat):=[([58],[58]),([97],[97]),([32],[]),([40],[40]),([41],[41]),([43,39,58,39],[39]),([92,58],[92,58]),([92,10],[]),
 ([58,9],[58]),([98,58],[58]),([44,34,34,34,10,58,34,34,34],[34]),([10],[]),([32,35,32,99,58,10],[])]
def Pc (p:List Nat×List Nat):Prop:=∀rest l l',G rest (pl p l) l'→G (p.1++rest) l l'
theorem kO {w rest:List Nat}{l l':Str}(hw:w.all (fun c=>c != 10)=true)(g:G rest l l'):G (35::(w++10::rest)) l l':=by
 have e:(w++10::rest).takeWhile (fun c=>c != 10)=w:=by
  rw[List.takeWhile_append_of_pos (fun a ha=>List.all_eq_true.mp hw a ha)];simp
 refine eL (k:=w.length+2) (l1:=l) rfl (by simp) (fun p st br=>⟨st,br++[(p,st.length+1)]++[(p+w.length+2,st.length)],?_⟩) ?_
 ·show L2.mk (p+((w++10::rest).takeWhile (fun c=>c != 10)).length+2) _ _ (_++[(p+((w++10::rest).takeWhile (fun c=>c != 10)).length+2,_)])=_
  rw[e];rfl
 ·show G ((w++10::rest).drop (w.length+1)) l l'
  rw[←List.drop_drop,List.drop_left];exact g
theorem zg (q:Nat)(h:q≠92)(h':q≠10):∀rest,Re.sEnd1 q (q::rest)=1
 | []=>by show (if q=92∨q=10 then 0 else 1)=1;rw[if_neg (by simp[h,h'])]
 |d::r=>by show (if q=92 then _ else if q=10 then _ else if q=q then 1 else _)=1;rw[if_neg h,if_neg h',if_pos rfl]
theorem uM:∀p∈parts4,Pc p:=by
 unfold parts4
 refine List.forall_mem_cons.mpr ⟨fun rest l l' g=>bo rfl g,List.forall_mem_cons.mpr ⟨fun rest l l' g=>bo rfl g,List.forall_mem_cons.mpr ⟨fun rest l l' g=>bo rfl g,List.forall_mem_cons.mpr ⟨fun rest l l' g=>?_,List.forall_mem_cons.mpr ⟨fun rest l l' g=>?_,
  List.forall_mem_cons.mpr ⟨fun rest l l' g=>?_,List.forall_mem_cons.mpr ⟨fun rest l l' g=>?_,List.forall_mem_cons.mpr ⟨fun rest l l' g=>?_,List.forall_mem_cons.mpr ⟨fun rest l l' g=>bo rfl (bo rfl g),List.forall_mem_cons.mpr ⟨fun rest l l' g=>bo rfl (bo rfl g),
  List.forall_mem_cons.mpr ⟨fun rest l l' g=>bo rfl ?_,List.forall_mem_cons.mpr ⟨fun rest l l' g=>bo rfl g,List.forall_mem_cons.mpr ⟨fun rest l l' g=>bo rfl (kO (w:=[32,99,58]) rfl g),List.forall_mem_nil _⟩⟩⟩⟩⟩⟩⟩⟩⟩⟩⟩⟩⟩
 ·exact eL (k:=1) (r:=rest) rfl (Nat.le_add_left ..) (fun p st br=>⟨_,_,rfl⟩) g
 ·exact eL (k:=1) (r:=rest) rfl (Nat.le_add_left ..) (fun p st br=>⟨_,_,rfl⟩) g
 ·refine bo rfl (eL (ch:=39) (k:=3) (r:=58::39::rest) rfl (Nat.le_add_left 3 _) (fun p st br=>⟨st,br++[(p,st.length+1)]++[(p+3,st.length)],?_⟩) g)
  have e:Re.strEnd (39::58::39::rest)=3:=by
   show 1+(1+Re.sEnd1 39 (39::rest))=3
   rw[zg 39 (by decide) (by decide)]
  show L2.mk (p+Re.strEnd (39::58::39::rest)) _ _ (_++[(p+Re.strEnd (39::58::39::rest),_)])=_
  rw[e];rfl
 ·exact eL (k:=2) (r:=58::rest) rfl (Nat.le_add_left 2 _) (fun p st br=>⟨_,_,rfl⟩) g
 ·exact eL (k:=2) (r:=10::rest) rfl (Nat.le_add_left 2 _) (fun p st br=>⟨_,_,rfl⟩) g
 ·exact eL (ch:=34) (k:=8) (r:=34::34::10::58::34::34::34::rest) rfl (Nat.le_add_left 8 _) (fun p st br=>⟨_,_,rfl⟩) g
noncomputable def eols4:List (List Nat):=[[10],[32,35,100,10],[35,32,101,58,10],[9,10]]
theorem vA:∀e∈eols4,Pc (e,[]):=by
 unfold eols4
 refine List.forall_mem_cons.mpr ⟨fun rest l l' g=>bo rfl g,List.forall_mem_cons.mpr ⟨fun rest l l' g=>bo rfl (kO (w:=[100]) rfl g),List.forall_mem_cons.mpr ⟨fun rest l l' g=>kO (w:=[32,101,58]) rfl g,List.forall_mem_cons.mpr ⟨fun rest l l' g=>bo rfl (bo rfl g),List.forall_mem_nil _⟩⟩⟩⟩
theorem nF:∀(k:Nat) {rest:List Nat} {l l':Str},G rest ⟨#[41]⟩ l'→G (List.replicate (k+1) 41++rest) l l'
 |0,rest,l,l',g=>eL (k:=1) (r:=rest) rfl (Nat.le_add_left ..) (fun p st br=>⟨_,_,rfl⟩) g
 |k+1,rest,l,l',g=>eL (k:=1) (r:=List.replicate (k+1) 41++rest) rfl (Nat.le_add_left ..) (fun p st br=>⟨_,_,rfl⟩) (nF k g)
theorem gp {x:Str}{l S J:List Nat}{l':Str}(hst:stm x=(l.length,l.length+S.length))(hx:sg x=l++(S++J))(g:G S ⟨#[]⟩ l'):dK x (isC l'):=by
 intro s hr hp
 rw[hst] at hr hp
 have hq:l.length+S.length≤x.length:=by rw[←aB,hx];simp only[List.length_append];omega
 have h2:ao x (l.length+S.length) l.length=S:=by
  unfold ao
  rw[hx,←List.append_assoc,←List.length_append,List.take_left,List.drop_left]
 have e:=g x (l.length+S.length) (L0 l.length) hq (Nat.le_add_right ..) h2 rfl s hr hp
 rw[e]
noncomputable def lvl (v lv:Nat):Nat:=if v=3 then lv+1 else if v=4 then lv-1 else lv
theorem tZ:∀{v:Nat} {p:List Nat×List Nat},parts4[v]?=some p→∀(lv ln:Nat) (gd:List Nat),(v≤10∨0<lv)→un (scan ⟨.N,lv,ln,gd⟩ (p.1.map tr))=⟨.N,lvl v lv,ln+nls p.1,gd⟩:=by
 intro v p h lv ln gd ho
 have hv:v<13:=(List.getElem?_eq_some_iff.mp h).1
 match v,hv,h with
 |0,_,h=>injection h with h;subst h;rfl
 |1,_,h=>injection h with h;subst h;rfl
 |2,_,h=>injection h with h;subst h;rfl
 |3,_,h=>injection h with h;subst h;rfl
 |4,_,h=>injection h with h;subst h;rfl
 |5,_,h=>injection h with h;subst h;rfl
 |6,_,h=>injection h with h;subst h;rfl
 |7,_,h=>injection h with h;subst h;rfl
 |8,_,h=>injection h with h;subst h;rfl
 |9,_,h=>injection h with h;subst h;rfl
 |10,_,h=>injection h with h;subst h;rfl
 |11,_,h=>
  injection h with h;subst h
  cases lv with
  |zero=>rcases ho with ho|ho<;>exact absurd ho (by decide)
  |succ lv=>rfl
 |12,_,h=>
  injection h with h;subst h
  cases lv with
  |zero=>rcases ho with ho|ho<;>exact absurd ho (by decide)
  |succ lv=>rfl
theorem iS:(parts4.all fun p=>p.1 != []&&decide (p.1.length≤9)&&p.1.all fun c=>decide (c<128))=true:=by decide +kernel
theorem ri:(eols4.all fun e=>e != []&&decide (e.length≤6)&&(e.all fun c=>decide (c<128))&&e.getLast?==some 10&&nls e==1)=true:=by decide +kernel
structure Bd (S:List Nat)(last:Str)(lv m:Nat):Prop where
 sc:un (scan st0 (S.map tr))=⟨.N,lv,nls S,[0]⟩
 pc:∀rest l',G rest last l'→G (S++rest) ⟨#[]⟩ l'
 jk:∀R,Re.junkB (S++R)=false
 low:∀c∈S,c<128
 len:S.length≤4+9*m
 lv:lv≤m
noncomputable def lK:List (List Nat):=[[],[32,32],[9]]
theorem bd0:∀a∈lK,Bd (a++[105,102]) ⟨#[102]⟩ 0 0:=by
 unfold lK
 refine List.forall_mem_cons.mpr ⟨?_,List.forall_mem_cons.mpr ⟨?_,List.forall_mem_cons.mpr ⟨?_,List.forall_mem_nil _⟩⟩⟩
 ·exact⟨rfl,fun rest l' g=>bo rfl (bo rfl g),fun R=>rfl,by decide,by decide,Nat.le_refl _⟩
 ·exact⟨rfl,fun rest l' g=>bo rfl (bo rfl (bo rfl (bo rfl g))),fun R=>rfl,by decide,by decide,Nat.le_refl _⟩
 ·exact⟨rfl,fun rest l' g=>bo rfl (bo rfl (bo rfl g)),fun R=>rfl,by decide,by decide,Nat.le_refl _⟩
theorem qN {S w:List Nat}{t:St}(h:un (scan st0 (S.map tr))=t)(hw:w≠[]):scan st0 ((S++w).map tr)=scan t (w.map tr):=by
 rw[List.map_append,aM,←h]
 cases w with
 |nil=>exact absurd rfl hw
 |cons c w=>exact (mX _ _ _).symm
theorem Bd.part {S:List Nat}{last:Str}{lv m v:Nat}{p:List Nat×List Nat}(h:Bd S last lv m)(hp:parts4[v]?=some p)(ho:v≤10∨0<lv):Bd (S++p.1) (pl p last) (lvl v lv) (m+1):=by
 have hm:=List.mem_of_getElem? hp
 have ht:=List.all_eq_true.mp iS p hm
 simp only[Bool.and_eq_true,bne_iff_ne,decide_eq_true_eq] at ht
 obtain⟨⟨h1,h2⟩,h3⟩:=ht
 refine⟨?_,fun rest l' g=>?_,fun R=>?_,fun c hc=>?_,?_,?_⟩
 ·rw[qN h.sc h1,tZ hp _ _ _ ho,bP]
 ·rw[List.append_assoc];exact h.pc _ _ (uM p hm rest _ _ g)
 ·rw[List.append_assoc];exact h.jk _
 ·rcases List.mem_append.mp hc with hc|hc
  ·exact h.low c hc
  ·exact of_decide_eq_true (List.all_eq_true.mp h3 c hc)
 ·rw[List.length_append];have:=h.len;omega
 ·have:=h.lv;unfold lvl;split
  ·omega
  ·split<;>omega
structure Ed (T:List Nat)(last:Str)(lv n:Nat):Prop where
 sc:scan st0 (T.map tr)=⟨.N,lv,nls T,if lv=0 then [0,nls T] else [0]⟩
 pc:G T ⟨#[]⟩ last
 pr:∀rest l',G rest last l'→G (T++rest) ⟨#[]⟩ l'
 jk:∀R,Re.junkB (T++R)=false
 low:∀c∈T,c<128
 len:T.length≤n
 ends:T.getLast?=some 10
 pos:0<nls T
theorem dl {a b:List Nat}(ha:∀c∈a,c<128)(hb:∀c∈b,c<128):∀c∈a++b,c<128:=fun c hc=>by
 rcases List.mem_append.mp hc with hc|hc
 ·exact ha c hc
 ·exact hb c hc
theorem xd {e:List Nat}(h:e∈eols4)(lv ln:Nat)(gd:List Nat):scan ⟨.N,lv,ln,gd⟩ (e.map tr)=⟨.N,lv,ln+1,if lv=0 then gd++[ln+1] else gd⟩:=by
 unfold eols4 at h
 simp only[List.mem_cons,List.not_mem_nil,or_false] at h
 rcases h with rfl|rfl|rfl|rfl<;>rfl
theorem Bd.eol {S E:List Nat}{last:Str}{lv m:Nat}(h:Bd S last lv m)(hE:E∈eols4):Ed (S++E) last lv (10+9*m):=by
 have ht:=List.all_eq_true.mp ri E hE
 simp only[Bool.and_eq_true,bne_iff_ne,decide_eq_true_eq,beq_iff_eq] at ht
 obtain⟨⟨⟨⟨h1,h2⟩,h3⟩,h4⟩,h5⟩:=ht
 have pr:∀rest l',G rest last l'→G (S++E++rest) ⟨#[]⟩ l':=fun rest l' g=>by
  rw[List.append_assoc];exact h.pc _ _ (vA E hE rest _ _ g)
 refine⟨?_,?_,pr,fun R=>?_,dl h.low fun c hc=>of_decide_eq_true (List.all_eq_true.mp h3 c hc),?_,?_,?_⟩
 ·rw[qN h.sc h1,xd hE,bP,h5];rfl
 ·have:=pr [] last mZ
  rw[List.append_nil] at this;exact this
 ·rw[List.append_assoc];exact h.jk _
 ·rw[List.length_append];have:=h.len;omega
 ·rw[List.getLast?_append,h4];rfl
 ·rw[bP,h5];exact Nat.succ_pos _
theorem gG:∀(lv ln:Nat) (gd:List Nat),scan ⟨.N,lv,ln,gd⟩ (List.replicate lv 41)=⟨.N,0,ln,gd⟩
 |0,_,_=>rfl
 |lv+1,ln,gd=>gG lv ln gd
theorem ic:∀lv,nls (List.replicate lv 41)=0
 |0=>rfl
 |lv+1=>by show 0+nls (List.replicate lv 41)=0;rw[ic]
theorem Ed.close {T:List Nat}{last:Str}{lv n:Nat}(h:Ed T last lv n)(hl:0<lv):Ed (T++(List.replicate lv 41++[10])) ⟨#[41]⟩ 0 (n+(lv+1)):=by
 obtain⟨k,rfl⟩:∃k,lv=k+1:=⟨lv-1,by omega⟩
 have e:=h.sc
 rw[if_neg (by omega)] at e
 have pr:∀rest l',G rest ⟨#[41]⟩ l'→G (T++(List.replicate (k+1) 41++[10])++rest) ⟨#[]⟩ l':=fun rest l' g=>by
  rw[List.append_assoc,List.append_assoc]
  exact h.pr _ _ (nF k (bo rfl g))
 refine⟨?_,?_,pr,fun R=>?_,dl h.low (dl (fun c hc=>?_) (by decide)),?_,?_,?_⟩
 ·rw[List.map_append,aM,e,List.map_append,List.map_replicate,aM]
  rw[show tr 41=41 from rfl,gG,bP,bP,ic];rfl
 ·have:=pr [] _ mZ
  rw[List.append_nil] at this;exact this
 ·rw[List.append_assoc];exact h.jk _
 ·rw[(List.mem_replicate.mp hc).2];decide
 ·rw[List.length_append,List.length_append,List.length_replicate];have:=h.len;show _+(_+1)≤_;omega
 ·rw[List.getLast?_append,List.getLast?_append];rfl
 ·rw[bP];have:=h.pos;omega
theorem vP:Ed [35,32,58,10] ⟨#[]⟩ 0 4:=⟨rfl,kO (w:=[32,58]) rfl mZ,fun rest l' g=>kO (w:=[32,58]) rfl g,fun R=>rfl,by decide,by decide,rfl,by decide⟩
theorem dE {x:Str}{l gd T J:List Nat}{last:Str}{n:Nat}(hl:Cl l gd)(hx:sg x=l++(T++J))(h:Ed T last 0 n)(hJ:JkOk J):dK x (isC last)∧∃gd',Cl (sg x) gd':=by
 obtain⟨hst,hc⟩:=oJ hl hx ⟨h.sc,rfl,.inr h.ends⟩ hJ (h.jk J)
 exact⟨gp hst hx h.pc,by rw[hx];exact hc⟩
theorem kS {x:Str}{l gd T:List Nat}{last:Str}{lv n:Nat}(hl:Cl l gd)(hx:sg x=l++T)(h:Ed T last lv n)(hlv:0<lv):dK x (isC last):=by
 have e:=h.sc
 rw[if_neg (by omega)] at e
 have hn:=h.jk []
 rw[List.append_nil] at hn
 exact gp (J:=[]) (oq hl hx ⟨by rw[e],h.pos⟩ h.ends hn) (by rw[List.append_nil];exact hx) h.pc
theorem oM {x:Str}{l gd T:List Nat}{last:Str}{lv n:Nat}(hl:Cl l gd)(hx:sg x=l++T)(h:Ed T last lv n):dK x (isC last):=by
 cases lv with
 |zero=>exact (dE (J:=[]) hl (by rw[List.append_nil];exact hx) h ⟨cl0,fun t ht=>absurd ht (Nat.not_lt_zero _)⟩).1
 |succ lv=>exact kS hl hx h (Nat.succ_pos _)
noncomputable def junk4:List (List Nat):=[[10],[],[35,58,10],[32,32,35,102,58,10],[9,10,10]]
noncomputable def clB (S gd:List Nat):Bool:=decide (scan st0 (S.map tr)=⟨.N,0,nls S,gd⟩)&&gd.getLast?==some (nls S)&&(S==[]||S.getLast?==some 10)
theorem we {S gd:List Nat}(h:clB S gd=true):Cl S gd:=by
 simp only[clB,Bool.and_eq_true,decide_eq_true_eq,beq_iff_eq,Bool.or_eq_true] at h
 exact⟨h.1.1,h.1.2,h.2⟩
noncomputable def jkB (J:List Nat):Bool:=clB J (List.range (nls J+1))&&(List.range (nls J)).all fun t=>Re.junkB (J.drop (ar J t))
theorem vn {J:List Nat}(h:jkB J=true):JkOk J:=by
 simp only[jkB,Bool.and_eq_true,List.all_eq_true] at h
 exact⟨we h.1,fun t ht=>h.2 t (List.mem_range.mpr ht)⟩
theorem xA:(junk4.all fun J=>jkB J&&decide (J.length≤6)&&J.all fun c=>decide (c<128))=true:=by decide +kernel
noncomputable abbrev c4 (C:Addr) (rest:List Int) (fs:List (Str×V)):aa:=[(232011,.list (rest.map .int)),(2,.ns fs),(1,.inst C 2)]
structure L4Ok (P:Pm):Prop where
 C:P.C=243
 dr:P.isFn 254=true
 drS:P.fn 254=eT
 tl:P.isFn 259=true
 tlS:P.fn 259=gP P.C 51037 52020 148016 149021 150021 227011 228034
 ini:P.fn P.init=ge P.C
structure Fs4 (C:Addr)(m:Nat)(fs:List (Str×V)):Prop where
 no:NoM fs
 len:fs.length≤m
 w:Wf (c4 C [] fs)
theorem pZ {C:Addr}{c:aa}{rest:List Int}{fs fs':List (Str×V)}(hd:dom c=[232011,2,1])(h:fsW c c fs fs):fsW (c4 C rest fs') (c4 C rest fs') fs fs:=bD (c:=c) (fun k q=>by rw[hd] at q;exact q) h
theorem Fs4.wf {C:Addr}{m:Nat}{fs:List (Str×V)}(h:Fs4 C m fs)(rest:List Int):Wf (c4 C rest fs):=
 ⟨⟨⟨_,rfl,rfl⟩,⟨_,rfl,pZ (c:=c4 C [] fs) rfl (h.w.fs (k:=2) rfl)⟩,⟨_,rfl,rfl,rfl,by simp[dom]⟩,trivial⟩,by simp[dom]⟩
theorem Fs4.par {C:Addr}{m:Nat}{fs:List (Str×V)}(h:Fs4 C m fs)(rest:List Int):ParAt C (c4 C rest fs) 1 2 fs:=⟨h.wf rest,rfl,rfl,h.no _ (by decide +kernel)⟩
noncomputable def xG (l:List (List Nat)):D:=.lst (l.map fun s=>.str ⟨s.toArray⟩)
theorem df (a b:Str):sg (a++b)=sg a++sg b:=by
 show (a.cps++b.cps).toList=_
 rw[Array.toList_append]
theorem gj (l:List Nat):sg ⟨l.toArray⟩=l:=rfl
section
variable {P:Pm}{pr:List Nat}{n m:Nat}{l:Sl}{rest:List Int}{fs:List (Str×V)}
theorem dY (L:L4Ok P){b:Nat}(hb:0<b)(h5:aI l 2=some (.obj 232011))(hfs:Fs4 P.C m fs)(hr:rest.length≤63) :
  ∃(v:Nat) (rest':List Int),v<b∧rest'.length≤rest.length∧∀K':V→aa→Prop,K' (.d (.int (v:Nat))) (c4 P.C rest' fs)→wpE P (n+4) (.call (.g (.val (.ref 254))) [(.v 2),(.c (.int (b:Nat)))] none) l (c4 P.C rest fs) K':=by
 have go:∀K':V→aa→Prop,eT [.obj 232011,.d (.int (b:Nat))] (c4 P.C rest fs) (fun v c'=>eW (c4 P.C rest fs) c'∧K' v c')→wpE P (n+4) (.call (.g (.val (.ref 254))) [(.v 2),(.c (.int (b:Nat)))] none) l (c4 P.C rest fs) K':=fun K' h=>by
  refine gX (n:=n) (u:=.val (.ref 254)) (v1:=.obj 232011) (v2:=.d (.int (b:Nat))) (fun K' h=>h) (bv h5) (fun K' h=>h) ⟨L.dr,?_⟩
  rw[L.drS];exact h
 have hbig:rest.length≤big:=by unfold big;exact Om.o401 hr
 cases rest with
 |nil=>exact⟨0,[],hb,Nat.le_refl _,fun K' h=>go K' ⟨232011,[],b,rfl,hfs.wf [],rfl,by exact Om.o399 hb,by decide,.inl ⟨rfl,fun j hj=>hj,h⟩⟩⟩
 |cons a r=>
  obtain⟨h1,h2⟩:=uI a (m:=(b:Int)) (by exact Om.o93 hb)
  refine⟨(a.fmod b).toNat,r,by exact Om.o400 hb h2,Nat.le_succ _,fun K' h=>go K' ⟨232011,a::r,b,rfl,hfs.wf _,rfl,by exact Om.o399 hb,hbig,.inr ⟨a,r,rfl,fun j hj=>hj,?_⟩⟩⟩
  rw[show ((a.fmod b).toNat:Int)=a.fmod b by exact Om.o398 h1] at h
  exact h
theorem nX (L:L4Ok P){e2 e3:IE}{x:Str}{due:Bool}(h6:aI l 3=some (.obj 1))(he2:∀K':V→aa→Prop,K' (.d (.str x)) (c4 P.C rest fs)→wpE P (n+2) e2 l (c4 P.C rest fs) K')(he3:∀K':V→aa→Prop,K' (.d (.bool due)) (c4 P.C rest fs)→wpE P (n+1) e3 l (c4 P.C rest fs) K')
  (hfs:Fs4 P.C m fs) (hm:m≤700) (T:TextOk x) (hb:2*x.length+10≤big) (hc:dK x due) (K':V→aa→Prop) (h:∀fs',Fs4 P.C (m+11) fs'→K' (.d (.bool true)) (c4 P.C rest fs')) :
  wpE P (n+5) (.call (.g (.val (.ref 259))) [(.v 3),e2,e3] none) l (c4 P.C rest fs) K':=by
 refine li (n:=n) (u:=.val (.ref 259)) (v1:=.obj 1) (v2:=.d (.str x)) (v3:=.d (.bool due)) (fun K' h=>h) (bv h6) he2 he3 ⟨L.tl,?_⟩
 rw[L.tlS]
 have hl:=hfs.len
 refine⟨1,2,fs,x,due,rfl,hfs.par rest,hfs.no,by exact Om.o397 hm hl,T,hb,hc,⟨by simp[dom],by simp[dom],by simp[dom],by simp[dom],by simp[dom]⟩,by simp[dom],by simp[dom],fun fs' n1 n2 n3=>⟨fun j hj=>hj,h fs' ⟨n1,by exact Om.o396 hl n2,?_⟩⟩⟩
 exact⟨⟨⟨_,rfl,rfl⟩,⟨_,rfl,pZ (c:=cset (c4 P.C rest fs) 2 (.ns fs')) rfl (n3.fs (k:=2) rfl)⟩,⟨_,rfl,rfl,rfl,by simp[dom]⟩,trivial⟩,by simp[dom]⟩
theorem i9 (L:L4Ok P){x:Str}{due:Bool}{r:List IS}{e3:IE}{K:F→Sg'→Prop}(h6:aI l 3=some (.obj 1))(h4:aI l 4=some (.d (.str x)))(he3:∀K':V→aa→Prop,K' (.d (.bool due)) (c4 P.C rest fs)→wpE P (n+1) e3 l (c4 P.C rest fs) K')
  (hfs:Fs4 P.C m fs) (hm:m≤700) (T:TextOk x) (hb:2*x.length+10≤big) (hc:dK x due) (h:∀fs',Fs4 P.C (m+11) fs'→wpB P pr (n+8) r ⟨l,c4 P.C rest fs'⟩ K) :
  wpB P pr (n+9) (.if_ (.not (.call (.g (.val (.ref 259))) [(.v 3),(.v 4),e3] none)) [.ret (some (.c (.bool false)))] []::r) ⟨l,c4 P.C rest fs⟩ K:=by
 show wpE P (n+5) (.call (.g (.val (.ref 259))) [(.v 3),(.v 4),e3] none) l (c4 P.C rest fs) (fun u c1=>bJ c1 u fun r=>_)
 refine nX L h6 (bv h4) he3 hfs hm T hb hc _ fun fs' h'=>⟨(fun e=>by contradiction),fun _=>?_⟩
 exact al (n:=n+6) (h fs' h')
end
noncomputable def ibPart:List IS:=[
   .asg 9 (.call (.g (.val (.ref 254))) [(.v 2),(.c (.int 13))] none),
   .if_ (.and (.cmp .Gt (.v 9) (.c (.int 10))) (.cmp .Eq (.v 7) (.c (.int 0)))) [
    .asg 9 (.c (.int 0))] [],
   .asg 4 (.bin .Add (.v 4) (.item (.item (.v 1) (.v 9)) (.c (.int 0)))),
   .if_ (.cmp .NotEq (.item (.item (.v 1) (.v 9)) (.c (.int 1))) (.c (.str ⟨#[]⟩))) [
    .asg 6 (.item (.item (.v 1) (.v 9)) (.c (.int 1)))] [],
   .if_ (.cmp .Eq (.v 9) (.c (.int 3))) [
    .asg 7 (.bin .Add (.v 7) (.c (.int 1)))] [
    .if_ (.cmp .Eq (.v 9) (.c (.int 4))) [
     .asg 7 (.call (.g (.bi .max)) [(.bin .Sub (.v 7) (.c (.int 1))),(.c (.int 0))] none)] []]]
noncomputable abbrev S5 (s:List Nat):Str:=⟨s.toArray⟩
noncomputable abbrev gW (b:Nat):IE:=.call (.g (.val (.ref 254))) [(.v 2),(.c (.int (b:Nat)))] none
noncomputable def jo:D:=.lst (parts4.map fun p=>.tup [.str (S5 p.1),.str (S5 p.2)])
noncomputable abbrev sl4 (a0:D) (x:Str) (r5 r6 r7 r8 r9:Option V):Sl:=[some (.d a0),some (.d jo),some (.obj 232011),some (.obj 1),some (.d (.str x)),r5,r6,r7,r8,r9]
section
variable {P:Pm}{pr:List Nat}{N n m:Nat}{rest:List Int}{fs:List (Str×V)}
theorem uK {n:Nat}{a b:IE}{l:Sl}{c:aa}{K:Bool→aa→Prop}:wpT P (n+1) (.and a b) l c K=wpT P n a l c fun r c1=>(r=false→K false c1)∧(r=true→wpT P n b l c1 K):=rfl
theorem fG {c:aa}{x y:Str}{K:D→Prop}(hl:x.length+y.length≤big)(h:K (.str (x++y))):hH c .Add (.d (.str x)) (.d (.str y)) K:=⟨hl,h⟩
theorem cN (x y:Str):(x++y).length=x.length+y.length:=by rw[←aB,←aB,←aB,df,List.length_append]
theorem iU (a b:Nat):(((a:Nat):Int)==(b:Nat))=(a==b):=by
 by_cases h:a=b
 ·rw[beq_iff_eq.mpr h,beq_iff_eq.mpr (by rw[h])]
 ·rw[beq_eq_false_iff_ne.mpr h,beq_eq_false_iff_ne.mpr (fun e=>h (by omega))]
theorem je {n v:Nat}{l:Sl}{c:aa}{p:List Nat×List Nat}(hp:parts4[v]?=some p)(h1:aI l 1=some (.d jo))(h9:aI l 9=some (.d (.int (v:Nat))))(i:Nat){d:D}(hi:([.str (S5 p.1),.str (S5 p.2)]:List D)[i]?=some d)(K':V→aa→Prop)(h:K' (.d d) c) :
  wpE P (n+3) (.item (.item (.v 1) (.v 9)) (.c (.int (i:Nat)))) l c K':=by
 refine bN (n:=n+2) (.d (.tup [.str (S5 p.1),.str (S5 p.2)])) (.d (.int (i:Nat))) (fun K' h=>?_) (fun K' h=>h) ?_
 ·refine bN (n:=n+1) (.d jo) (.d (.int (v:Nat))) (bv h1) (bv h9) (nA (Int.natCast_nonneg _) ?_ (by decide) h)
  rw[Int.toNat_natCast,List.getElem?_map,hp];rfl
 ·have hlt:i<2:=(List.getElem?_eq_some_iff.mp hi).1
  refine⟨by show 2≤big;decide,i,d,?_,hi,h⟩
  match i,hlt with
  |0,_=>rfl
  |1,_=>rfl
theorem sJ (L:L4Ok P)(hfs:Fs4 P.C m fs)(hr:rest.length≤63){l S:List Nat}{x last:Str}{lv k:Nat}(hx:sg x=l++S)(hxl:x.length≤900)(h:Bd S last lv k){a0:D}{r5 r8 r9:Option V}{K:F→Sg'→Prop}
  (hK:∀x' last' lv' rest' w S',sg x'=l++S'→Bd S' last' lv' (k+1)→x'.length≤x.length+9→rest'.length≤63→K .next ⟨sl4 a0 x' r5 (some (.d (.str last'))) (some (.d (.int (lv':Nat)))) r8 (some (.d (.int (w:Nat)))),c4 P.C rest' fs⟩) :
  wpB P pr (N+30) ibPart ⟨sl4 a0 x r5 (some (.d (.str last))) (some (.d (.int (lv:Nat)))) r8 r9,c4 P.C rest fs⟩ K:=by
 unfold ibPart
 obtain⟨v,rest1,hv,q1,g1⟩:=dY (n:=N+24) (l:=sl4 a0 x r5 (some (.d (.str last))) (some (.d (.int (lv:Nat)))) r8 r9) (b:=13) L (by decide) rfl hfs hr
 refine cb (n:=N+28) (.d (.int (v:Nat))) (c':=c4 P.C rest1 fs) g1 ?_
 have mid:∀(w:Nat) (p:List Nat×List Nat),parts4[w]?=some p→(w≤10∨0<lv)→wpB P pr (N+28) ibPart.tail.tail ⟨sl4 a0 x r5 (some (.d (.str last))) (some (.d (.int (lv:Nat)))) r8 (some (.d (.int (w:Nat)))),c4 P.C rest1 fs⟩ K:=by
  intro w p hp ho
  have hpt:=List.all_eq_true.mp iS p (List.mem_of_getElem? hp)
  simp only[Bool.and_eq_true,decide_eq_true_eq] at hpt
  have hpl:(S5 p.1).length≤9:=hpt.1.2
  have hB:=h.part hp ho
  have e1:sg (x++S5 p.1)=l++(S++p.1):=by rw[df,hx,gj,List.append_assoc]
  have e2:(x++S5 p.1).length≤x.length+9:=by rw[cN];omega
  have fin:∀lv',lv'=lvl w lv→K .next ⟨sl4 a0 (x++S5 p.1) r5 (some (.d (.str (pl p last)))) (some (.d (.int (lv':Nat)))) r8 (some (.d (.int (w:Nat)))),c4 P.C rest1 fs⟩:=fun lv' e=>hK _ _ _ _ _ _ e1 (e▸hB) e2 (by omega)
  refine aq (n:=N+26) (.d (.str (x++S5 p.1))) (fun K' h=>?_) ?_
  ·exact d7 (n:=N+25) (.d (.str x)) (.d (.str (S5 p.1))) (fun K' h=>h) (fun K' h=>je (n:=N+22) hp rfl rfl 0 rfl K' h) (fG (by unfold big;omega) h)
  have tail:wpB P pr (N+26) ibPart.tail.tail.tail.tail ⟨sl4 a0 (x++S5 p.1) r5 (some (.d (.str (pl p last)))) (some (.d (.int (lv:Nat)))) r8 (some (.d (.int (w:Nat)))),c4 P.C rest1 fs⟩ K:=by
   refine bb (n:=N+24) (w==3) (c':=c4 P.C rest1 fs) (fun K' h=>?_) ?_
   ·exact bF (n:=N+23) (.d (.int (w:Nat))) (.d (.int (3:Nat))) (fun K' h=>h) (fun K' h=>h) (by show K' (((w:Nat):Int)==((3:Nat):Int)) _;rw[iU];exact h)
   by_cases w3:w=3
   ·rw[beq_iff_eq.mpr w3]
    refine aq (n:=N+22) (.d (.int ((lv+1:Nat):Nat))) (fun K' h=>h) (al (n:=N+22) (al (n:=N+24) (fin (lv+1) ?_)))
    unfold lvl;rw[if_pos w3]
   ·rw[beq_eq_false_iff_ne.mpr w3]
    refine bb (n:=N+22) (w==4) (c':=c4 P.C rest1 fs) (fun K' h=>?_) ?_
    ·exact bF (n:=N+21) (.d (.int (w:Nat))) (.d (.int (4:Nat))) (fun K' h=>h) (fun K' h=>h) (by show K' (((w:Nat):Int)==((4:Nat):Int)) _;rw[iU];exact h)
    by_cases w4:w=4
    ·rw[beq_iff_eq.mpr w4]
     refine aq (n:=N+20) (.d (.int ((lv-1:Nat):Nat))) (fun K' h=>?_) (al (n:=N+20) (al (n:=N+22) (al (n:=N+24) (fin (lv-1) ?_))))
     ·show K' (.d (.int (if (0:Int) > ((lv:Nat):Int)-1 then 0 else ((lv:Nat):Int)-1))) _
      rw[show (if (0:Int) > ((lv:Nat):Int)-1 then 0 else ((lv:Nat):Int)-1)=((lv-1:Nat):Int) by split<;>omega];exact h
     ·unfold lvl;rw[if_neg w3,if_pos w4]
    ·rw[beq_eq_false_iff_ne.mpr w4]
     refine al (n:=N+21) (al (n:=N+22) (al (n:=N+24) (fin lv ?_)))
     unfold lvl;rw[if_neg w3,if_neg w4]
  refine bb (n:=N+25) (!(S5 p.2==(⟨#[]⟩:Str))) (c':=c4 P.C rest1 fs) (fun K' h=>?_) ?_
  ·exact bF (n:=N+24) (.d (.str (S5 p.2))) (.d (.str ⟨#[]⟩)) (fun K' h=>je (n:=N+21) hp rfl rfl 1 rfl K' h) (fun K' h=>h) h
  by_cases hp2:p.2=[]
  ·rw[show (S5 p.2==(⟨#[]⟩:Str))=true by rw[hp2];rfl]
   have e:pl p last=last:=if_pos hp2
   rw[e] at tail
   exact al (n:=N+24) tail
  ·rw[show (S5 p.2==(⟨#[]⟩:Str))=false from beq_eq_false_iff_ne.mpr fun e=>hp2 (congrArg sg e)]
   have e:pl p last=S5 p.2:=if_neg hp2
   rw[e] at tail
   refine aq (n:=N+23) (.d (.str (S5 p.2))) (fun K' h=>?_) (al (n:=N+23) tail)
   exact je (n:=N+20) hp rfl rfl 1 rfl K' h
 refine bb (n:=N+27) (decide (10<v)&&(lv==0)) (c':=c4 P.C rest1 fs) (fun K' h=>?_) ?_
 ·rw[uK]
  refine bF (n:=N+25) (.d (.int (v:Nat))) (.d (.int (10:Nat))) (fun K' h=>h) (fun K' h=>h) ?_
  show (decide (((10:Nat):Int)<((v:Nat):Int))=false→K' false _)∧(decide (((10:Nat):Int)<((v:Nat):Int))=true→_)
  rw[show decide (((10:Nat):Int)<((v:Nat):Int))=decide (10<v) from decide_eq_decide.mpr Int.ofNat_lt]
  refine⟨fun q=>by rw[q] at h;exact h,fun q=>?_⟩
  refine bF (n:=N+25) (.d (.int (lv:Nat))) (.d (.int (0:Nat))) (fun K' h=>h) (fun K' h=>h) ?_
  show K' (((lv:Nat):Int)==((0:Nat):Int)) _
  rw[iU];rw[q] at h;exact h
 obtain⟨p,hp⟩:∃p,parts4[v]?=some p:=⟨_,List.getElem?_eq_getElem (show v<parts4.length from hv)⟩
 cases hq:(decide (10<v)&&(lv==0)) with
 |true=>exact aq (n:=N+25) (.d (.int (0:Nat))) (fun K' h=>h) (al (n:=N+25) (mid 0 _ rfl (.inl (by decide))))
 |false=>
  refine al (n:=N+26) (mid v p hp ?_)
  rw[Bool.and_eq_false_iff,decide_eq_false_iff_not,beq_eq_false_iff_ne] at hq
  omega
end
noncomputable abbrev n7:List Nat:=[35,32,58,10]
noncomputable abbrev eqE:IE:=.cmp .Eq (.v 6) (.c (.str ⟨#[58]⟩))
noncomputable abbrev wl (e:IE):IS:=.if_ (.not (.call (.g (.val (.ref 259))) [(.v 3),(.v 4),e] none)) [.ret (some (.c (.bool false)))] []
noncomputable def jw:List IS:=[
  .asg 4 (.bin .Add (.v 4) (.item (.lst [(.c (.str ⟨#[10]⟩)),(.c (.str ⟨#[]⟩)),(.c (.str ⟨#[35,58,10]⟩)),(.c (.str ⟨#[32,32,35,102,58,10]⟩)),(.c (.str ⟨#[9,10,10]⟩))] none) (gW 5))),
  wl eqE,
  .if_ (.cmp .Eq (gW 3) (.c (.int 0))) [
   .asg 4 (.bin .Add (.v 4) (.c (.str ⟨#[35,32,58,10]⟩))),
   wl (.c (.bool false))] []]
noncomputable def lX:List IS:=
  .asg 4 (.bin .Add (.v 4) (.item (.lst [(.c (.str ⟨#[10]⟩)),(.c (.str ⟨#[32,35,100,10]⟩)),(.c (.str ⟨#[35,32,101,58,10]⟩)),(.c (.str ⟨#[9,10]⟩))] none) (gW 4))) ::
  wl eqE ::
  .if_ (.cmp .Gt (.v 7) (.c (.int 0))) [
   .asg 4 (.bin .Add (.bin .Add (.v 4) (.bin .Mult (.c (.str ⟨#[41]⟩)) (.v 7))) (.c (.str ⟨#[10]⟩))),
   .asg 6 (.c (.str ⟨#[41]⟩))] []::jw
noncomputable def jh:List IS:=
  .asg 4 (.bin .Add (.bin .Add (.v 4) (.item (.lst [(.c (.str ⟨#[]⟩)),(.c (.str ⟨#[32,32]⟩)),(.c (.str ⟨#[9]⟩))] none) (gW 3))) (.c (.str ⟨#[105,102]⟩))) ::
  .asg 6 (.c (.str ⟨#[102]⟩)) ::
  .asg 7 (.c (.int 0)) ::
  .for_ 8 (.call (.g (.bi .range)) [(.bin .Add (.c (.int 1)) (gW 5))] none) ibPart::lX
structure Tx4 (x:Str)(b:Nat):Prop where
 cl:∃gd,Cl (sg x) gd
 low:∀c∈sg x,c<128
 len:x.length≤b
theorem m8 {x:Str}(h1:∀c∈sg x,c<128)(h2:sg x=[]∨(sg x).getLast?=some 10)(h3:x.length≤1000):TextOk x∧2*x.length+10≤big:=by
 have:=aB x
 unfold big
 exact⟨⟨h1,h2,by unfold big;omega⟩,by omega⟩
theorem kB (k:Nat):sg (dH ⟨#[41]⟩ k)=List.replicate k 41:=by
 have:∀(k:Nat) (a:Array Nat),((List.replicate k #[41]).foldl (·++·) a).toList=a.toList++List.replicate k 41:=fun k=>by
  induction k with
  |zero=>intro a;exact (List.append_nil _).symm
  |succ k ih=>intro a;show ((List.replicate k #[41]).foldl (·++·) (a++#[41])).toList=_;rw[ih,Array.toList_append,List.append_assoc];rfl
 exact this k #[]
section
variable {P:Pm}{pr:List Nat}{N m:Nat}{l:Sl}{rest:List Int}{fs:List (Str×V)}
theorem sC {t:List (List Nat)}{i:Nat}{s:List Nat}(h:t[i]?=some s):(t.map fun s=>D.str ⟨s.toArray⟩)[i]?=some (.str (S5 s)):=by rw[List.getElem?_map,h];rfl
theorem wa {c:aa}{t:List (List Nat)}{i:Nat}{s:List Nat}(h:t[i]?=some s)(hl:t.length≤100){K:D→Prop}(hK:K (.str (S5 s))):ee c (.d (xG t)) (.d (.int (i:Nat))) K:=
 nA (Int.natCast_nonneg _) (by rw[Int.toNat_natCast];exact sC h) (by rw[List.length_map];unfold big;omega) hK
theorem wJ {n:Nat}(L:L4Ok P)(h5:aI l 2=some (.obj 232011))(hfs:Fs4 P.C m fs)(hr:rest.length≤63)(t:List (List Nat)){b:Nat}(hb:t.length=b)(h0:0<b)(h1:b≤100){e:IE}(he:∀K':V→aa→Prop,K' (.d (xG t)) (c4 P.C rest fs)→wpE P (n+4) e l (c4 P.C rest fs) K') :
  ∃(s:List Nat) (rest':List Int),s∈t∧rest'.length≤63∧∀K':V→aa→Prop,K' (.d (.str (S5 s))) (c4 P.C rest' fs)→wpE P (n+5) (.item e (gW b)) l (c4 P.C rest fs) K':=by
 obtain⟨v,rest',hv,hr',go⟩:=dY (n:=n) L h0 h5 hfs hr
 obtain⟨s,hs⟩:∃s,t[v]?=some s:=⟨_,List.getElem?_eq_getElem (by omega)⟩
 refine⟨s,rest',List.mem_of_getElem? hs,by omega,fun K' h=>?_⟩
 rw[rh]
 exact he _ (go _ (wa hs (by omega) h))
theorem xC {n:Nat}{l:Sl}{c:aa}{last:Str}(h6:aI l 6=some (.d (.str last)))(K':V→aa→Prop)(h:K' (.d (.bool (isC last))) c):wpE P (n+2) eqE l c K':=
 ji (n:=n+1) (.d (.str last)) (.d (.str ⟨#[58]⟩)) (bv h6) (fun K' h=>h) h
theorem j5 (L:L4Ok P)(hfs:Fs4 P.C m fs)(hm:m≤600)(hr:rest.length≤63){l T:List Nat}{gd:List Nat}{x last:Str}{n:Nat}(hl:Cl l gd)(hlow:∀c∈l,c<128)(hll:l.length≤500)(hx:sg x=l++T)(hT:Ed T last 0 n)(hn:n≤80){a0:D}{r5 r7 r8 r9:Option V}{K:F→Sg'→Prop}
  (hK:∀x' rest' fs',Tx4 x' (l.length+100)→rest'.length≤63→Fs4 P.C (m+22) fs'→K .next ⟨sl4 a0 x' r5 (some (.d (.str last))) r7 r8 r9,c4 P.C rest' fs'⟩) :
  wpB P pr (N+53) jw ⟨sl4 a0 x r5 (some (.d (.str last))) r7 r8 r9,c4 P.C rest fs⟩ K:=by
 unfold jw
 obtain⟨J,rest1,mJ,q1,g1⟩:=wJ (n:=N+45) (l:=sl4 a0 x r5 (some (.d (.str last))) r7 r8 r9) L rfl hfs hr junk4 (b:=5) rfl (by decide) (by decide) (e:=.lst [(.c (.str ⟨#[10]⟩)),(.c (.str ⟨#[]⟩)),(.c (.str ⟨#[35,58,10]⟩)),(.c (.str ⟨#[32,32,35,102,58,10]⟩)),(.c (.str ⟨#[9,10,10]⟩))] none) (fun K' h=>⟨by show 5≤big;decide,h⟩)
 have tJ:=List.all_eq_true.mp xA J mJ
 simp only[Bool.and_eq_true,decide_eq_true_eq] at tJ
 obtain⟨⟨j1,j2⟩,j3⟩:=tJ
 have lT:=hT.len
 have xl:x.length=l.length+T.length:=by rw[←aB,hx,List.length_append]
 have x1l:(x++S5 J).length=l.length+T.length+J.length:=by rw[cN,xl];rfl
 have hx1:sg (x++S5 J)=l++(T++J):=by rw[df,hx,gj,List.append_assoc]
 have low1:∀c∈sg (x++S5 J),c<128:=by rw[hx1];exact dl hlow (dl hT.low fun c hc=>of_decide_eq_true (List.all_eq_true.mp j3 c hc))
 obtain⟨o1,gd1,c1⟩:=dE hl hx1 hT (vn j1)
 obtain⟨t1,b1⟩:=m8 low1 c1.ends (by omega)
 refine cb (n:=N+51) (.d (.str (x++S5 J))) (c':=c4 P.C rest1 fs) (fun K' h=>?_) ?_
 ·rw[cp];exact bv (n:=N+49) rfl _ (g1 _ (fG (by rw[←cN];unfold big;omega) h))
 refine i9 (n:=N+43) L rfl rfl (xC (n:=N+42) rfl) hfs (by omega) t1 b1 o1 fun fs1 f1=>?_
 obtain⟨v,ao,hv,q2,g2⟩:=dY (n:=N+44) (l:=sl4 a0 (x++S5 J) r5 (some (.d (.str last))) r7 r8 r9) (b:=3) L (by decide) rfl f1 q1
 refine bb (n:=N+49) (((v:Nat):Int)==0) (c':=c4 P.C ao fs1) (fun K' h=>?_) ?_
 ·rw[eG];exact g2 _ h
 cases ((v:Nat):Int)==0 with
 |false=>exact al (n:=N+48) (al (n:=N+49) (hK _ _ _ ⟨⟨_,c1⟩,low1,by omega⟩ (by omega) ⟨f1.no,by have:=f1.len;omega,f1.w⟩))
 |true=>
  have hx2:sg (x++S5 J++S5 n7)=sg (x++S5 J)++(n7++[]):=by rw[df,gj];rfl
  have x2l:(x++S5 J++S5 n7).length=l.length+T.length+J.length+4:=by rw[cN,x1l];rfl
  have low2:∀c∈sg (x++S5 J++S5 n7),c<128:=by rw[hx2];exact dl low1 (by decide)
  obtain⟨o2,gd2,c2⟩:=dE c1 hx2 vP ⟨cl0,fun t ht=>absurd ht (Nat.not_lt_zero _)⟩
  obtain⟨t2,b2⟩:=m8 low2 c2.ends (by omega)
  refine aq (n:=N+47) (.d (.str (x++S5 J++S5 n7))) (fun K' h=>?_) ?_
  ·exact d7 (n:=N+46) (.d (.str (x++S5 J))) (.d (.str (S5 n7))) (fun K' h=>h) (fun K' h=>h) (fG (by rw[←cN];unfold big;omega) h)
  refine i9 (n:=N+39) L rfl rfl (fun K' h=>h) f1 (by omega) t2 b2 o2 fun fs2 f2=>?_
  exact al (n:=N+46) (al (n:=N+49) (hK _ _ _ ⟨⟨_,c2⟩,low2,by omega⟩ (by omega) ⟨f2.no,by have:=f2.len;omega,f2.w⟩))
theorem s3 (L:L4Ok P)(hfs:Fs4 P.C m fs)(hm:m≤500)(hr:rest.length≤63){l S:List Nat}{gd:List Nat}{x last:Str}{lv k:Nat}(hl:Cl l gd)(hlow:∀c∈l,c<128)(hll:l.length≤500)(hx:sg x=l++S)(hS:Bd S last lv k)(hk:k≤5){a0:D}{r5 r8 r9:Option V}{K:F→Sg'→Prop}
  (hK:∀x' rest' fs' r6 r7,Tx4 x' (l.length+100)→rest'.length≤63→Fs4 P.C (m+33) fs'→K .next ⟨sl4 a0 x' r5 r6 r7 r8 r9,c4 P.C rest' fs'⟩) :
  wpB P pr (N+56) lX ⟨sl4 a0 x r5 (some (.d (.str last))) (some (.d (.int (lv:Nat)))) r8 r9,c4 P.C rest fs⟩ K:=by
 unfold lX
 obtain⟨E,rest1,mE,q1,g1⟩:=wJ (n:=N+48) (l:=sl4 a0 x r5 (some (.d (.str last))) (some (.d (.int (lv:Nat)))) r8 r9) L rfl hfs hr eols4 (b:=4) rfl (by decide) (by decide) (e:=.lst [(.c (.str ⟨#[10]⟩)),(.c (.str ⟨#[32,35,100,10]⟩)),(.c (.str ⟨#[35,32,101,58,10]⟩)),(.c (.str ⟨#[9,10]⟩))] none) (fun K' h=>⟨by show 4≤big;decide,h⟩)
 have hE:=hS.eol mE
 have lE:=hE.len
 have hx1:sg (x++S5 E)=l++(S++E):=by rw[df,hx,gj,List.append_assoc]
 have x1l:(x++S5 E).length=l.length+(S++E).length:=by rw[←aB,hx1,List.length_append]
 have low1:∀c∈sg (x++S5 E),c<128:=by rw[hx1];exact dl hlow hE.low
 obtain⟨t1,b1⟩:=m8 low1 (.inr (by rw[hx1,List.getLast?_append,hE.ends];rfl)) (by omega)
 refine cb (n:=N+54) (.d (.str (x++S5 E))) (c':=c4 P.C rest1 fs) (fun K' h=>?_) ?_
 ·rw[cp];exact bv (n:=N+52) rfl _ (g1 _ (fG (by rw[←cN];unfold big;omega) h))
 refine i9 (n:=N+46) L rfl rfl (xC (n:=N+45) rfl) hfs (by omega) t1 b1 (oM hl hx1 hE) fun fs1 f1=>?_
 refine bb (n:=N+52) (decide (0<lv)) (c':=c4 P.C rest1 fs1) (fun K' h=>?_) ?_
 ·refine bF (n:=N+51) (.d (.int (lv:Nat))) (.d (.int (0:Nat))) (fun K' h=>h) (fun K' h=>h) ?_
  show K' (decide (((0:Nat):Int)<((lv:Nat):Int))) _
  rw[show decide (((0:Nat):Int)<((lv:Nat):Int))=decide (0<lv) from decide_eq_decide.mpr Int.ofNat_lt];exact h
 have next:∀x' rest' fs' r6 r7,Tx4 x' (l.length+100)→rest'.length≤63→Fs4 P.C (m+11+22) fs'→K .next ⟨sl4 a0 x' r5 r6 r7 r8 r9,c4 P.C rest' fs'⟩:=hK
 have hlv:=hS.lv
 by_cases h0:0<lv
 ·rw[decide_eq_true h0]
  have hC:=hE.close h0
  have e2:sg (x++S5 E++dH ⟨#[41]⟩ lv++S5 [10])=l++(S++E++(List.replicate lv 41++[10])):=by rw[df,df,hx1,kB,gj];simp only[List.append_assoc]
  have lt:(dH ⟨#[41]⟩ lv).length=lv:=by rw[←aB,kB,List.length_replicate]
  refine aq (n:=N+50) (.d (.str (x++S5 E++dH ⟨#[41]⟩ lv++S5 [10]))) (fun K' h=>?_) ?_
  ·refine d7 (n:=N+49) (.d (.str (x++S5 E++dH ⟨#[41]⟩ lv))) (.d (.str (S5 [10]))) (fun K' h=>?_) (fun K' h=>h) (fG (by rw[cN,lt];show _+1≤_;unfold big;omega) h)
   refine d7 (n:=N+48) (.d (.str (x++S5 E))) (.d (.str (dH ⟨#[41]⟩ lv))) (fun K' h=>h) (fun K' h=>?_) (fG (by rw[lt];unfold big;omega) h)
   exact d7 (n:=N+47) (.d (.str ⟨#[41]⟩)) (.d (.int (lv:Nat))) (fun K' h=>h) (fun K' h=>h) ⟨⟨by omega,by omega⟩,rfl,h⟩
  refine aq (n:=N+49) (.d (.str ⟨#[41]⟩)) (fun K' h=>h) (al (n:=N+49) ?_)
  exact j5 L f1 (by omega) q1 hl hlow hll e2 hC (by omega) fun x' rest' fs'=>next x' rest' fs' _ _
 ·rw[decide_eq_false h0]
  have e0:lv=0:=Nat.eq_zero_of_not_pos h0
  refine al (n:=N+51) ?_
  rw[e0] at hE ⊢
  exact j5 L f1 (by omega) q1 hl hlow hll hx1 hE (by omega) fun x' rest' fs'=>next x' rest' fs' _ _
end
section
variable {P:Pm}{pr:List Nat}{N m:Nat}{rest:List Int}{fs:List (Str×V)}
theorem zF {n:Nat}{d:D}{l:Sl}{c:aa}(K':V→aa→Prop)(h:K' (.d d) c):wpE P (n+1) (.c d) l c K':=h
theorem zC {n:Nat}{u:V}{l:Sl}{c:aa}(K':V→aa→Prop)(h:K' u c):wpE P (n+1) (.g u) l c K':=h
theorem ny {n:Int}{j:Nat}{d:D}(h:(bQ 0 n)[j]?=some d):(j:Int)<n:=by
 unfold bQ at h
 have:=(List.getElem?_eq_some_iff.mp h).1
 simp at this;omega
theorem qU (L:L4Ok P)(hfs:Fs4 P.C m fs)(hm:m≤500)(hr:rest.length≤63){x:Str}{b:Nat}(hx:Tx4 x b)(hb:b≤500){a0 d5:D}{r6 r7:Option V}(hpr:pr=[]){K:F→Sg'→Prop}
  (hK:∀x' rest' fs' r6 r7,Tx4 x' (b+100)→rest'.length≤63→Fs4 P.C (m+33) fs'→K .next ⟨sl4 a0 x' (some (.d d5)) r6 r7 none none,c4 P.C rest' fs'⟩) :
  wpB P pr (N+60) jh ⟨sl4 a0 x (some (.d d5)) r6 r7 none none,c4 P.C rest fs⟩ K:=by
 unfold jh
 obtain⟨gd,hcl⟩:=hx.cl
 have hxl:=hx.len
 have hsl:=aB x
 obtain⟨a,rest1,ma,q1,g1⟩:=wJ (n:=N+51) (l:=sl4 a0 x (some (.d d5)) r6 r7 none none) L rfl hfs hr lK (b:=3) rfl (by decide) (by decide) (e:=.lst [(.c (.str ⟨#[]⟩)),(.c (.str ⟨#[32,32]⟩)),(.c (.str ⟨#[9]⟩))] none) (fun K' h=>⟨by show 3≤big;decide,h⟩)
 have B0:=bd0 a ma
 have la:(a++[105,102]).length≤4:=B0.len
 have la':(S5 a).length≤2:=by rw[List.length_append] at la;show a.length≤2;have:([105,102]:List Nat).length=2:=rfl;omega
 have e0:sg (x++S5 a++S5 [105,102])=sg x++(a++[105,102]):=by rw[df,df,gj,gj,List.append_assoc]
 have l1:(x++S5 a).length≤502:=by rw[cN];omega
 have l2:(x++S5 a++S5 [105,102]).length≤x.length+4:=by rw[←aB,e0,List.length_append];omega
 refine cb (n:=N+58) (.d (.str (x++S5 a++S5 [105,102]))) (c':=c4 P.C rest1 fs) (fun K' h=>?_) ?_
 ·rw[cp,cp]
  refine bv (n:=N+55) rfl _ (g1 _ (fG (by unfold big;omega) ?_))
  show hH (c4 P.C rest1 fs) .Add (.d (.str (x++S5 a))) (.d (.str (S5 [105,102]))) (fun d=>K' (.d d) (c4 P.C rest1 fs))
  exact fG (x:=x++S5 a) (y:=S5 [105,102]) (by show (x++S5 a).length+2≤big;unfold big;omega) h
 refine aq (n:=N+57) (.d (.str ⟨#[102]⟩)) (fun K' h=>h) ?_
 refine aq (n:=N+56) (.d (.int (0:Nat))) (fun K' h=>h) ?_
 show wpB P pr (N+57) _ ⟨sl4 a0 (x++S5 a++S5 [105,102]) (some (.d d5)) (some (.d (.str ⟨#[102]⟩))) (some (.d (.int (0:Nat)))) none none,c4 P.C rest1 fs⟩ K
 obtain⟨v,ao,hv,q2,g2⟩:=dY (n:=N+48) (l:=sl4 a0 (x++S5 a++S5 [105,102]) (some (.d d5)) (some (.d (.str ⟨#[102]⟩))) (some (.d (.int (0:Nat)))) none none) (b:=5) L (by decide) rfl hfs q1
 refine cG (n:=N+56) ?_
 rw[jn]
 have hit:∀K':V→aa→Prop,K' (.rng 0 (1+(v:Nat))) (c4 P.C ao fs)→wpE P (N+55) (.call (.g (.bi .range)) [(.bin .Add (.c (.int 1)) (gW 5))] none) (sl4 a0 (x++S5 a++S5 [105,102]) (some (.d d5)) (some (.d (.str ⟨#[102]⟩))) (some (.d (.int (0:Nat)))) none none) (c4 P.C rest1 fs) K':=fun K' h=>by
  rw[e6]
  refine zC (n:=N+53) _ ?_
  rw[aZ,cp]
  exact zF (n:=N+51) _ (g2 _ h)
 refine hit _ ?_
 refine⟨⟨by decide,by decide,by omega,by omega⟩,_,rfl,fun j τ=>∃rest x' last lv S,rest.length≤63∧sg x'=sg x++S∧Bd S last lv j∧x'.length≤x.length+4+9*j∧τ=⟨sl4 a0 x' (some (.d d5)) (some (.d (.str last))) (some (.d (.int (lv:Nat)))) none none,c4 P.C rest fs⟩,
  ⟨ao,_,⟨#[102]⟩,0,_,by omega,e0,B0,l2,rfl⟩,?_,?_⟩
 ·rintro j d _ hd ⟨rest,x',last,lv,S,hr',hx',hB,hl',rfl⟩
  have hj:=ny hd
  refine⟨by show 8<10;decide,?_⟩
  refine sJ (N:=N+25) (l:=sg x) L hfs hr' hx' (by omega) hB fun x2 last2 lv2 rest3 w S2 h1 h2 h3 h4=>?_
  refine⟨⟨sl4 a0 x2 (some (.d d5)) (some (.d (.str last2))) (some (.d (.int (lv2:Nat)))) none none,c4 P.C rest3 fs⟩,⟨?_,rfl,(hfs.wf rest3).w,fun k hk=>by rw[hpr] at hk;cases hk⟩,rest3,x2,last2,lv2,S2,h4,h1,h2,by omega,rfl⟩
  exact⟨⟨_,rfl,vD _ _ _⟩,⟨_,rfl,vD _ _ _⟩,⟨_,rfl,.inl ⟨rfl,by show (232011:Nat)∈dom (c4 P.C rest3 fs);simp[dom]⟩⟩,⟨_,rfl,.inl ⟨rfl,by show (1:Nat)∈dom (c4 P.C rest3 fs);simp[dom]⟩⟩,⟨_,rfl,vD _ _ _⟩,⟨_,rfl,vD _ _ _⟩,⟨_,rfl,vD _ _ _⟩,⟨_,rfl,vD _ _ _⟩,trivial⟩
 ·rintro _ ⟨rest,x',last,lv,S,hr',hx',hB,hl',rfl⟩
  have hlen:(bQ 0 (1+((v:Nat):Int))).length=1+v:=by simp[bQ];omega
  rw[hlen] at hB hl'
  exact s3 L hfs hm hr' hcl hx.low (by omega) hx' hB (by omega) fun x2 rest3 fs2 r6 r7 t1 t2 t3=>hK _ _ _ _ _ ⟨t1.cl,t1.low,by have:=t1.len;omega⟩ t2 t3
noncomputable def iW:List IS:=[
 .asg 1 (.lst [(.tup [(.c (.str ⟨#[58]⟩)),(.c (.str ⟨#[58]⟩))]),(.tup [(.c (.str ⟨#[97]⟩)),(.c (.str ⟨#[97]⟩))]),(.tup [(.c (.str ⟨#[32]⟩)),(.c (.str ⟨#[]⟩))]),(.tup [(.c (.str ⟨#[40]⟩)),(.c (.str ⟨#[40]⟩))]),(.tup [(.c (.str ⟨#[41]⟩)),(.c (.str ⟨#[41]⟩))]),(.tup [(.c (.str ⟨#[43,39,58,39]⟩)),(.c (.str ⟨#[39]⟩))]),(.tup [(.c (.str ⟨#[92,58]⟩)),(.c (.str ⟨#[92,58]⟩))]),(.tup [(.c (.str ⟨#[92,10]⟩)),(.c (.str ⟨#[]⟩))])] none),
 .asg 1 (.bin .Add (.v 1) (.lst [(.tup [(.c (.str ⟨#[58,9]⟩)),(.c (.str ⟨#[58]⟩))]),(.tup [(.c (.str ⟨#[98,58]⟩)),(.c (.str ⟨#[58]⟩))]),(.tup [(.c (.str ⟨#[44,34,34,34,10,58,34,34,34]⟩)),(.c (.str ⟨#[34]⟩))]),(.tup [(.c (.str ⟨#[10]⟩)),(.c (.str ⟨#[]⟩))]),(.tup [(.c (.str ⟨#[32,35,32,99,58,10]⟩)),(.c (.str ⟨#[]⟩))])] none)),
 .asg 2 (.call (.g (.bi .list)) [(.v 0)] (some 232011)),
 .asg 3 (.make 243 [(.c (.int 4)),(.c (.int 8))] 0 0),
 .asg 4 (.c (.str ⟨#[]⟩)),
 .if_ (.not (.call (.g (.val (.ref 259))) [(.v 3),(.v 4),(.c (.bool false))] none)) [
  .ret (some (.c (.bool false)))] [],
 .for_ 5 (.call (.g (.bi .range)) [(.call (.g (.bi .max)) [(.c (.int 2)),(.call (.g (.bi .min)) [(.c (.int 3)),(.bin .FloorDiv (.call (.g (.bi .len)) [(.v 2)] none) (.c (.int 6)))] none)] none)] none) jh,
 .ret (some (.c (.bool true)))]
noncomputable abbrev pD (p:List Nat×List Nat):D:=.tup [.str (S5 p.1),.str (S5 p.2)]
theorem wb:dK (⟨#[]⟩:Str) false:=by
 have h:stm (⟨#[]⟩:Str)=(0,0):=by decide +kernel
 exact gp (x:=⟨#[]⟩) (l:=[]) (S:=[]) (J:=[]) (l':=⟨#[]⟩) h rfl mZ
theorem y5 (C:Addr):Fs4 C 20 fs0:=⟨by intro m hm;revert m hm;decide +kernel,by decide,⟨⟨_,rfl,rfl⟩,⟨_,rfl,yv _⟩,⟨_,rfl,rfl,rfl,by simp[dom]⟩,trivial⟩,by simp[dom]⟩
theorem t9 (L:L4Ok P)(l:List Int)(hl:l.length≤63){K:F→Sg'→Prop}(hK:∀l c,K (.ret (.d (.bool true))) ⟨l,c⟩) :
  wpB P [] (N+100) iW ⟨start [.d (.lst (l.map .int))] 9,[]⟩ K:=by
 have hll:(l.map D.int).length≤big:=by rw[List.length_map];unfold big;omega
 unfold iW
 show wpB P [] (N+100) _ ⟨[some (.d (.lst (l.map .int))),none,none,none,none,none,none,none,none,none],[]⟩ K
 refine aq (n:=N+98) (.d (.lst ((parts4.take 8).map pD))) (fun K' h=>⟨by show 2≤big;decide,by show 2≤big;decide,by show 2≤big;decide,by show 2≤big;decide,by show 2≤big;decide,by show 2≤big;decide,by show 2≤big;decide,by show 2≤big;decide,by show 8≤big;decide,h⟩) ?_
 refine aq (n:=N+97) (.d jo) (fun K' h=>?_) ?_
 ·refine d7 (n:=N+96) (.d (.lst ((parts4.take 8).map pD))) (.d (.lst ((parts4.drop 8).map pD))) (fun K' h=>h) (fun K' h=>⟨by show 2≤big;decide,by show 2≤big;decide,by show 2≤big;decide,by show 2≤big;decide,by show 2≤big;decide,by show 5≤big;decide,h⟩) ⟨by show 8+5≤big;decide,h⟩
 refine cb (n:=N+96) (.obj 232011) (c':=[(232011,.list (l.map .int))]) (fun K' h=>⟨hll,by simp[dom],h⟩) ?_
 refine cb (n:=N+95) (.obj 1) (c':=c4 P.C l fs0) (fun K' h=>?_) ?_
 ·refine⟨L.C.symm,?_⟩
  show ∃k dk,_
  rw[←L.C,L.ini]
  refine⟨1,2,by simp[dom],by simp[dom],by decide,1,2,rfl,?_,rfl,rfl,rfl,fun j hj=>hj,h⟩
  exact⟨⟨⟨_,rfl,rfl⟩,⟨_,rfl,trivial⟩,⟨_,rfl,rfl,rfl,by simp[dom]⟩,trivial⟩,by simp[dom]⟩
 refine aq (n:=N+94) (.d (.str ⟨#[]⟩)) (fun K' h=>h) ?_
 obtain⟨T0,hb0⟩:=m8 (x:=⟨#[]⟩) (fun c hc=>by cases hc) (.inl rfl) (Nat.zero_le _)
 refine i9 (n:=N+86) L rfl rfl (fun K' h=>h) (y5 P.C) (by decide) T0 hb0 wb fun fs1 hfs1=>?_
 show wpB P [] (N+94) _ ⟨sl4 (.lst (l.map .int)) ⟨#[]⟩ none none none none none,c4 P.C l fs1⟩ K
 generalize hn:(if (if (((l.map D.int).length:Int).fdiv 6)<3 then (((l.map D.int).length:Int).fdiv 6) else 3) > 2 then (if (((l.map D.int).length:Int).fdiv 6)<3 then (((l.map D.int).length:Int).fdiv 6) else 3) else 2)=nn
 have hn1:2≤nn∧nn≤3:=by rw[←hn];split<;>split<;>omega
 refine cG (n:=N+93) ?_
 rw[jn]
 have hit:∀K':V→aa→Prop,K' (.rng 0 nn) (c4 P.C l fs1)→wpE P (N+92) (.call (.g (.bi .range)) [(.call (.g (.bi .max)) [(.c (.int 2)),(.call (.g (.bi .min)) [(.c (.int 3)),(.bin .FloorDiv (.call (.g (.bi .len)) [(.v 2)] none) (.c (.int 6)))] none)] none)] none) (sl4 (.lst (l.map .int)) ⟨#[]⟩ none none none none none) (c4 P.C l fs1) K':=fun K' h=>by
  refine⟨hll,⟨Int.natCast_nonneg _,?_,by decide,by decide⟩,?_⟩
  ·rw[List.length_map];omega
  ·rw[←hn] at h
   exact h
 refine hit _ ?_
 refine⟨⟨by decide,by decide,by omega,by omega⟩,_,rfl,fun j τ=>∃rest x fs,rest.length≤63∧Tx4 x (100*j)∧Fs4 P.C (31+33*j) fs∧τ=⟨sl4 (.lst (l.map .int)) x none none none none none,c4 P.C rest fs⟩,
  ⟨l,⟨#[]⟩,fs1,hl,⟨⟨_,cl0⟩,(fun c hc=>by cases hc),Nat.le_refl _⟩,hfs1,rfl⟩,?_,?_⟩
 ·rintro j d _ hd ⟨rest,x,fs,hr,hx,hfs,rfl⟩
  have hj:=ny hd
  refine⟨by show 5<10;decide,?_⟩
  refine qU (N:=N+32) (d5:=d) L hfs (by omega) hr hx (by omega) rfl fun x' rest' fs' r6 r7 t1 t2 t3=>?_
  refine⟨⟨sl4 (.lst (l.map .int)) x' none none none none none,c4 P.C rest' fs'⟩,⟨?_,rfl,(t3.wf rest').w,fun k hk=>by cases hk⟩,rest',x',fs',t2,⟨t1.cl,t1.low,by have:=t1.len;omega⟩,⟨t3.no,by have:=t3.len;omega,t3.w⟩,rfl⟩
  exact⟨⟨_,rfl,vD _ _ _⟩,⟨_,rfl,vD _ _ _⟩,⟨_,rfl,.inl ⟨rfl,by show (232011:Nat)∈dom (c4 P.C rest' fs');simp[dom]⟩⟩,⟨_,rfl,.inl ⟨rfl,by show (1:Nat)∈dom (c4 P.C rest' fs');simp[dom]⟩⟩,⟨_,rfl,vD _ _ _⟩,trivial⟩
 ·rintro _ ⟨rest,x,fs,hr,hx,hfs,rfl⟩
  exact fo (n:=N+91) (.d (.bool true)) (fun K' h=>h) (hK _ _)
end
theorem qm (p:Params):bG 60 (T1 p 266) (bh (K1 p) 266)=some iW:=by kernel_rfl
section
variable {p:Params}{hb:Heap}(X:(K1 p).In hb)(lim:hb.NoLimit)
include X lim
theorem vx:FnT hb 266 (T1 p 266) iW [Str.ofString "script"] (dj (K1 p) 266) (fu (K1 p) 266) (bh (K1 p) 266) 60:=
 dG X lim (by kernel_rfl) (lsS fun _=>ls0 (by kernel_rfl)) rfl (by kernel_rfl) (by kernel_rfl) (qm p)
end
noncomputable def zA:Addr→Spec:=fun a=>if a=254 then eT else if a=259 then gP 243 51037 52020 148016 149021 150021 227011 228034 else if a=149 then ge 243 else jA a
noncomputable def yL:Addr→Bool:=fun a=>a==254||a==259
noncomputable def PE4 (w:World):Pm:=Pm1 w zA yL
theorem L4 (w:World):L4Ok (PE4 w):=⟨rfl,rfl,rfl,rfl,rfl,rfl⟩
noncomputable def rx:Spec:=fun vs c K=>∃l:List Int,vs=[.d (.lst (l.map .int))]∧l.length≤63∧c=[]∧K (.d (.bool true)) []
section
variable {prog:Program}{w:World}{p:Params}{hb:Heap}{mg mb:Str→Option Value}(B:Base1 w p hb mg mb)
include B
theorem zj (a:Addr):Cx0 prog w hb (K1 p) (T1 p a) (PE4 w) 8:=by
 refine cx1 B a (fun a h=>?_) ((xK B).more (by decide))
 simp only[yL,Bool.or_eq_true,beq_iff_eq] at h
 rcases h with rfl|rfl
 ·exact⟨let ⟨o,h1,h2⟩:=(nL B.x B.lim).N.at_;cv B h1 h2,yK B⟩
 ·exact⟨let ⟨o,h1,h2⟩:=(nV B.x B.lim).N.at_;cv B h1 h2,ym B⟩
theorem law1:nr prog w hb 10 266 rx:=by
 refine xj (vx B.x B.lim) (by kernel_rfl) (zj B 266) fun vs c K h=>?_
 obtain⟨l,rfl,hl,rfl,hK⟩:=h
 refine⟨rfl,100,?_⟩
 have hr:(dj (K1 p) 266).length=9:=by kernel_rfl
 rw[hr]
 exact t9 (L4 w) (N:=0) l hl fun l c=>⟨.d (.bool true),[],vD _ _ _,trivial,fun k hk=>hk,hK⟩
end
def za (P:Params)(h:Heap)(w:Value)(d:WData):Prop:=match d with
 | .int i=>∃t,w=.int i t
 |_=>True
def x4 (P:Params)(h:Heap)(ws:List Value)(ds:List WData):Prop:=match ds with
 | []=>ws=[]
 |d::ds=>∃w r,ws=w::r∧Well P h w d∧WellAll P h r ds
theorem pK {P:Params}{h:Heap}{w:Value}{d:WData}(i:Well P h w d):za P h w d:=by cases i<;>first|trivial|exact⟨_,rfl⟩
theorem fN {P:Params}{h:Heap}{ws:List Value}{ds:List WData}(i:WellAll P h ws ds):x4 P h ws ds:=by
 cases i with
 |nil=>rfl
 |cons a r=>exact⟨_,_,rfl,a,r⟩
theorem n9 {P:Params}{h:Heap}{own:Addr→Prop}{l:List Int}:∀{ws:List Value},WellAll P h ws (ofPys (l.map .int))→IsDs h own (l.map D.int) ws:=by
 induction l with
 |nil=>intro ws i;obtain rfl:ws=[]:=fN i;exact .nil
 |cons n l ih=>
  intro ws i
  obtain⟨w,r,rfl,a,q⟩:=fN i
  obtain⟨t,rfl⟩:=pK a
  exact .cons (.int n t) (ih q)
theorem enter {prog:Program}{w:World}{s:Shared}{d:Nat}{a:Addr}{spec:Spec}(F:nr prog w s.heap d a spec)(hd:d≤20){l:List Int}{b:Addr}(hl:Well w.params s.heap (.ref b) (ofPy (.list (l.map .int))))
  (sp:spec [.d (.lst (l.map .int))] [] (fun v c=>v=.d (.bool true))) {Q:Value→Shared→Prop} {E:Value→Shared→Prop}
  (hq:∀h' tk,(∀x o,s.heap.get? x=some o→h'.get? x=some o)→Q (.bool true) {s with heap:=h',toks:=tk}):wpAny (model prog w) callerA (call (.ref a) [.ref b]) Q E s:=by
 have C:Cst s.heap [] [] (fun _=>0) s.heap:=⟨fun _ _ e=>e,fun k o e=>(by contradiction),fun k hk=>(by contradiction),fun k hk=>(by contradiction),fun k hk=>(by contradiction)⟩
 refine wpAny_call (F callerA ⟨rfl,?_,?_⟩ [.d (.lst (l.map .int))] [.ref b] [] (fun _=>0) s _ _ C ?_ sp ?_)
 ·have:(1+claimMargin)+20<recursionLimit:=by decide +kernel
  show (1+claimMargin)+d<recursionLimit;exact Om.o446 hd this
 ·have:4+10*20+200<cLine:=by decide +kernel
  show 4+10*d+200<cLine;exact Om.o445 hd this
 ·refine .cons ?_ .nil
  have hl:Well w.params s.heap (.ref b) (.list (ofPys (l.map .int))):=hl
  cases hl with
  | @list _ vs _ g r=>
   refine IsD.lst (ws:=vs) (ep:=0) g ?_ (n9 r)
   rintro⟨k,hk,_⟩;contradiction
 ·rintro v c' α' g h' tk rfl C' L' i
  cases i
  exact hq h' tk fun x o e=>L'.kept x o e (by rintro⟨k,hk,_⟩;cases hk)
end Mine
end
open PySem PySem.W PyProof.Rows
set_option maxRecDepth 100000 in
set_option maxHeartbeats 8000000 in
theorem PySem.Challenge.cw_dm0168_04_holds : PySem.Challenge.rw_dm0168_04.Holds := by
 w_on
 refine holds_law (by kernel_rfl) fun said=>?_
 refine holds_openN (q:=Mine.H4.view) (loose:=Mine.H4.loose) (Xt:=Mine.H4.Xt) (XP:=XL Mine.H4.view Mine.H4.lv) (Yf:=Hook.obs Mine.H4.H) (Ya:=Hook.val Mine.H4.H) (YP:=Hook.says Mine.H4.H) (N:=16622) Mine.H4.hl (Hook.of Mine.H4.H) (Hook.keeps Mine.H4.H)
  (fun s e=>xl_of s (Bool.and_eq_true_iff.mp e).1) XL.keeps (by rfl) (by rfl) (by rfl) (fun s e=>recFacts_of (Bool.and_eq_true_iff.mp e).2) (by rfl) (by first|assumption|decide +kernel) (by decide +kernel) ⟨rfl,rfl,rfl,rfl,rfl,by decide +kernel⟩ ?hw ?hc
 case hw=>w_witness2
 intro w s0 s1 mg mb G Y fa o pm cd doc dV kV ho hd hcd hD hmg hg args vals as hpre hlay hrd hwl hlo
 have KX:(Mine.K1 w.params).In s1.heap:=Y
 refine Ground.open G ?_
 intro T B D TE TW
 wrow_args hpre hlay hrd hwl hlo
 rename_i l hs hlay0 hL1 hr1 hl2 as1 as2 a ws as3 hL ra w1 r0 hI hr hcond hcond1
 clear B D TE TW hs hlay0 hL1 hr1 hl2 ra r0 hr hD hcd hd ho Y
 have hB:Mine.Base1 w w.params s1.heap mg mb:=⟨KX,T.nolimit,T.g,T.b,T.builtins⟩
 have hfa:fa=266:=by
  have e:mg (Str.ofString "law")=some (.ref fa):=hmg
  have e2:nsFind (Mine.nsOf (Mine.K1 w.params) mainGlobals) (Str.ofString "law")=some (.ref 266):=by kernel_rfl
  rw[Mine.mg_of KX T.g (by kernel_rfl) (Str.ofString "law"),e2] at e
  cases e;rfl
 subst hfa
 have hlen:l.length≤63:=by omega
 refine Mine.enter (Mine.law1 hB) (by decide) (l:=l) w1 ⟨l,rfl,hlen,rfl,rfl⟩ fun h' tk hk=>?_
 refine⟨.inl ⟨.bool true,.bool true,[],rfl,raisesW_false (by wrow_none_raised),.bool _,?_,fun _=>⟨List.nodup_nil,fun a ha=>(by cases ha)⟩⟩,hk,rfl,hg⟩
 wrow_post
