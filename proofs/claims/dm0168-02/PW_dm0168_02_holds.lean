import PyProof.Rows.All
import Wide.All
import OpenK.AllK
import Wide.FinOn
import PyProof.AttrMissHeap
import Lean
import PySem.Challenge.RW_dm0168_02
set_option Elab.async false
set_option linter.all false
set_option genSizeOf false
set_option genSizeOfSpec false
set_option genInjectivity false
open PySem.Str renaming ofString→Qq
open List renaming forall_mem_cons→Qx,length_cons→Qz,length_append→Qj,append_assoc→Qv,getElem?_eq_getElem→Qk,getElem?_eq_some_iff→Qw,mem_append→Qu,mem_cons→Qy,mem_of_getElem?→Qg,getLast?_append→Qb,getLast?_eq_getElem?→Qp,size_toArray→Xq,takeWhile_cons→Xw,all_eq_true→Xu,getElem?_map→Xy,length_drop→Xp,lookup_cons→Zq,getElem?_drop→Zx,forall_mem_nil→Zz,length_map→Zu,append_nil→Zg
open Nat renaming mul_le_mul_left→Xx,zero_le→Zj,le_refl→Zv,le_trans→Zk
open PySem.Heap renaming get?_push_of_some→Xz,get?_push_size→Xj
open Bool renaming and_eq_true→Xv
open PySem.World renaming withFollow→Xk
open PySem renaming wpAny_bind→Zb,wpAny_pure→Zp,wpAny_mono→Jq,wpAny_holding→Jx,wpAny_of_eq→Jz,wpAny_standAt→Jj,wpAny_assign_Name→Jv
noncomputable section
set_option maxRecDepth 100000
set_option maxHeartbeats 8000000
section
namespace Mine.H2
open PySem PySem.W PySem.Calls PyProof.Rows
noncomputable abbrev pw:Program:=PySem.Challenge.pw_dm0168_02
noncomputable def aL:List Stmt→Nat→Stmt
 | [],_=>.Pass ⟨0,0,0,0⟩
 |s::_,0=>s
 |_::r,n+1=>aL r n
noncomputable def aK:Stmt→List Stmt
 | .FunctionDef _ _ b _ _ _ _ _ _ _=>b
 | .ClassDef _ _ _ b _ _ _ _ _ _ _=>b
 |_=>[]
noncomputable def aT:Stmt→Arguments
 | .FunctionDef _ a _ _ _ _ _ _ _ _=>a
 |_=>default
noncomputable def aA:Stmt→Scope
 | .FunctionDef _ _ _ _ _ _ s _ _ _=>s
 | .ClassDef _ _ _ _ _ _ s _ _ _ _=>s
 |_=>default
noncomputable def sv (s:String)(n:Nat):Value:=.str (Qq s) n
noncomputable def kv (P:Params)(s:String)(n:Nat)(v:Value):DictEntry:=⟨PyData.keyHash P (Qq s),.str (Qq s) n,v⟩
def kq (P:Params)(s:String)(n:Nat):DictEntry:=kv P s n (.builtin s)
noncomputable def ki (k n v m:Nat):DictEntry:=⟨k,.int k n,.int v m⟩
def mb (n:Nat):Stmt:=aL (aK (aL pw.main.body 15)) n
noncomputable def lf (o:Obj):BT:=.node o .nil .nil
open PySem.W.BT renaming node→N,nil→O
open PySem.W.Fast renaming te10110043849684766642→tA,te10274390034422433532→tB,te10295753902157049106→tC,te11892475500146522536→tD,te14082659384304107361→tE,te14364793385576792824→tF,te14374325043358763698→tG,te15667345088766844465→tH
def o0 (P:Params):Obj:=⟨(.type "dict"),none,(.dict #[kv P "__name__" 1 (sv "builtins" 160),kv P "__doc__" 2 (.builtin "builtins.__doc__:str#opaque"),kv P "__package__" 3 (.builtin "builtins.__package__:str#opaque"),kv P "__loader__" 4 (.builtin "builtins.__loader__:shared#opaque"),kv P "__spec__" 5 (.builtin "builtins.__spec__#opaque"),kq P "__build_class__" 6,kq P "__import__" 7,kq P "abs" 8,kq P "all" 9,kq P "any" 10,kq P "ascii" 11,kq P "bin" 12,kq P "breakpoint" 13,kq P "callable" 14,kq P "chr" 15,kq P "compile" 16,kq P "delattr" 17,kq P "dir" 18,kq P "divmod" 19,kq P "eval" 20,kq P "exec" 21,kq P "format" 22,kq P "getattr" 23,kq P "globals" 24,kq P "hasattr" 25,kq P "hash" 26,kq P "hex" 27,kq P "id" 28,kq P "input" 29,kq P "isinstance" 30,kq P "issubclass" 31,kq P "iter" 32,kq P "aiter" 33,kq P "len" 34,kq P "locals" 35,kq P "max" 36,kq P "min" 37,kq P "next" 38,kq P "anext" 39,kq P "oct" 40,kq P "ord" 41,kq P "pow" 42,kq P "print" 43,kq P "repr" 44,kq P "round" 45,kq P "setattr" 46,kq P "sorted" 47,kq P "sum" 48,kq P "vars" 49,kv P "None" 50 .none,kv P "Ellipsis" 51 .ellipsis,kv P "NotImplemented" 52 .notImplemented,kv P "False" 53 (.bool false),kv P "True" 54 (.bool true),kv P "bool" 55 (.type "bool"),kv P "memoryview" 56 (.type "memoryview"),kv P "bytearray" 57 (.type "bytearray"),kv P "bytes" 58 (.type "bytes"),kv P "classmethod" 59 (.type "classmethod"),kv P "complex" 60 (.type "complex"),kv P "dict" 61 (.type "dict"),kv P "enumerate" 62 (.type "enumerate"),kv P "filter" 63 (.type "filter"),kv P "float" 64 (.type "float"),kv P "frozenset" 65 (.type "frozenset"),kv P "property" 66 (.type "property"),kv P "int" 67 (.type "int"),kv P "list" 68 (.type "list"),kv P "map" 69 (.type "map"),kv P "object" 70 (.type "object"),kv P "range" 71 (.type "range"),kv P "reversed" 72 (.type "reversed"),kv P "set" 73 (.type "set"),kv P "slice" 74 (.type "slice"),kv P "staticmethod" 75 (.type "staticmethod"),kv P "str" 76 (.type "str"),kv P "super" 77 (.type "super"),kv P "tuple" 78 (.type "tuple"),kv P "type" 79 (.type "type"),kv P "zip" 80 (.type "zip"),kv P "__debug__" 81 (.bool true),kv P "BaseException" 82 (.type "BaseException"),kv P "BaseExceptionGroup" 83 (.type "BaseExceptionGroup"),kv P "Exception" 84 (.type "Exception"),kv P "GeneratorExit" 85 (.type "GeneratorExit"),kv P "KeyboardInterrupt" 86 (.type "KeyboardInterrupt"),kv P "SystemExit" 87 (.type "SystemExit"),kv P "ArithmeticError" 88 (.type "ArithmeticError"),kv P "AssertionError" 89 (.type "AssertionError"),kv P "AttributeError" 90 (.type "AttributeError"),kv P "BufferError" 91 (.type "BufferError"),kv P "EOFError" 92 (.type "EOFError"),kv P "ImportError" 93 (.type "ImportError"),kv P "LookupError" 94 (.type "LookupError"),kv P "MemoryError" 95 (.type "MemoryError"),kv P "NameError" 96 (.type "NameError"),kv P "OSError" 97 (.type "OSError"),kv P "ReferenceError" 98 (.type "ReferenceError"),kv P "RuntimeError" 99 (.type "RuntimeError"),kv P "StopAsyncIteration" 100 (.type "StopAsyncIteration"),kv P "StopIteration" 101 (.type "StopIteration"),kv P "SyntaxError" 102 (.type "SyntaxError"),kv P "SystemError" 103 (.type "SystemError"),kv P "TypeError" 104 (.type "TypeError"),kv P "ValueError" 105 (.type "ValueError"),kv P "Warning" 106 (.type "Warning"),kv P "FloatingPointError" 107 (.type "FloatingPointError"),kv P "OverflowError" 108 (.type "OverflowError"),kv P "ZeroDivisionError" 109 (.type "ZeroDivisionError"),kv P "BytesWarning" 110 (.type "BytesWarning"),kv P "DeprecationWarning" 111 (.type "DeprecationWarning"),kv P "EncodingWarning" 112 (.type "EncodingWarning"),kv P "FutureWarning" 113 (.type "FutureWarning"),kv P "ImportWarning" 114 (.type "ImportWarning"),kv P "PendingDeprecationWarning" 115 (.type "PendingDeprecationWarning"),kv P "ResourceWarning" 116 (.type "ResourceWarning"),kv P "RuntimeWarning" 117 (.type "RuntimeWarning"),kv P "SyntaxWarning" 118 (.type "SyntaxWarning"),kv P "UnicodeWarning" 119 (.type "UnicodeWarning"),kv P "UserWarning" 120 (.type "UserWarning"),kv P "BlockingIOError" 121 (.type "BlockingIOError"),kv P "ChildProcessError" 122 (.type "ChildProcessError"),kv P "ConnectionError" 123 (.type "ConnectionError"),kv P "FileExistsError" 124 (.type "FileExistsError"),kv P "FileNotFoundError" 125 (.type "FileNotFoundError"),kv P "InterruptedError" 126 (.type "InterruptedError"),kv P "IsADirectoryError" 127 (.type "IsADirectoryError"),kv P "NotADirectoryError" 128 (.type "NotADirectoryError"),kv P "PermissionError" 129 (.type "PermissionError"),kv P "ProcessLookupError" 130 (.type "ProcessLookupError"),kv P "TimeoutError" 131 (.type "TimeoutError"),kv P "IndentationError" 132 (.type "IndentationError"),kv P "_IncompleteInputError" 133 (.type "_IncompleteInputError"),kv P "IndexError" 134 (.type "IndexError"),kv P "KeyError" 135 (.type "KeyError"),kv P "ModuleNotFoundError" 136 (.type "ModuleNotFoundError"),kv P "NotImplementedError" 137 (.type "NotImplementedError"),kv P "PythonFinalizationError" 138 (.type "PythonFinalizationError"),kv P "RecursionError" 139 (.type "RecursionError"),kv P "UnboundLocalError" 140 (.type "UnboundLocalError"),kv P "UnicodeError" 141 (.type "UnicodeError"),kv P "BrokenPipeError" 142 (.type "BrokenPipeError"),kv P "ConnectionAbortedError" 143 (.type "ConnectionAbortedError"),kv P "ConnectionRefusedError" 144 (.type "ConnectionRefusedError"),kv P "ConnectionResetError" 145 (.type "ConnectionResetError"),kv P "TabError" 146 (.type "TabError"),kv P "UnicodeDecodeError" 147 (.type "UnicodeDecodeError"),kv P "UnicodeEncodeError" 148 (.type "UnicodeEncodeError"),kv P "UnicodeTranslateError" 149 (.type "UnicodeTranslateError"),kv P "ExceptionGroup" 150 (.type "ExceptionGroup"),kv P "EnvironmentError" 151 (.type "OSError"),kv P "IOError" 152 (.type "OSError"),kq P "open" 153,kv P "quit" 154 (.builtin "builtins.quit#opaque"),kv P "exit" 155 (.builtin "builtins.exit#opaque"),kv P "copyright" 156 (.builtin "builtins.copyright#opaque"),kv P "credits" 157 (.builtin "builtins.credits#opaque"),kv P "license" 158 (.builtin "builtins.license#opaque"),kv P "help" 159 (.builtin "builtins.help#opaque")] 159),#[]⟩
def o1 (P:Params):Obj:=⟨(.type "dict"),none,(.dict #[kv P "builtins" 162 (.ref 4),kv P "__main__" 163 (.ref 5),kv P "_sre" 244 (.ref 12)] 3),#[]⟩
def o2 (P:Params):Obj:=⟨.none,none,(.dict #[kv P "\x69mport.loaded._sre" 183 (.bool true),kv P "class._frozen_importlib.BuiltinImporter" 185 (.ref 14),kv P "watched.\x69mport" 206 (.ref 18),kv P "class._frozen_importlib.ModuleSpec" 216 (.ref 22),kv P "sys.modules.booked-epoch" 245 (.int 3 0),kv P "\x69mport.later-laid._sre" 270 (.bool true),kv P "watched.library" 272 (.ref 27),kv P "watched.library-objects" 0 (sv "\x0c" 0),kv P "watched.library-deep._sre" 273 (sv "\x04\x00\x00\x0b\x04\x00\x00\x0b\x04\x00\x00\x03\x04\x00\x00\x0b\x08\x04dict\x02" 0)] 9),#[]⟩
def o3 (P:Params):Obj:=⟨(.type "dict"),none,(.dict #[kv P "__name__" 165 (sv "__main__" 164),kv P "__doc__" 166 .none,kv P "__package__" 167 .none,kv P "__loader__" 168 (.builtin "__main__.__loader__#opaque"),kv P "__spec__" 169 .none,kv P "__annotations__" 170 (.ref 6),kv P "__builtins__" 171 (.ref 4),kv P "__file__" 173 (sv "/claim/cut.py" 172),kv P "__cached__" 174 .none,kv P "_sre" 275 (.ref 12)] 10),#[]⟩
noncomputable def o4:Obj:=⟨(.type "module"),(some 0),.plain,#[]⟩
noncomputable def o5:Obj:=⟨(.type "module"),(some 3),.plain,#[]⟩
noncomputable def o6:Obj:=⟨(.type "dict"),none,(.dict #[] 0),#[]⟩
noncomputable def o7:Obj:=⟨(.type "tuple"),none,(.seq #[] 0),#[]⟩
noncomputable def o8:Obj:=⟨.none,none,(.fields #[]),#[]⟩
def o9:Obj:=⟨(.type "code"),none,(.fields #[(sv "<module>" 176),(sv "<module>" 177),(sv "/claim/cut.py" 178),(.int 1 0),(.int 0 0),(.int 0 0),(.int 0 0),(.int 0 0),(.ref 7),(.bool false),(.int 175 0),(.ref 8),.none,.none,.none,.none,(.int 179 0),(.int 1 0),(sv "/claim/cut.py" 180)]),#[]⟩
def o10:Obj:=⟨(.type "frame"),none,.plain,#[(some (.ref 9)),(some (.ref 3)),(some (.ref 3)),none,(some (sv "__main__" 164)),none,(some (.ref 0))]⟩
def o11 (P:Params):Obj:=⟨(.type "dict"),none,(.dict #[kv P "__name__" 247 (sv "_sre" 246),kv P "__doc__" 248 .none,kv P "__package__" 250 (sv "" 249),kv P "__loader__" 251 (.ref 14),kv P "__spec__" 252 (.ref 26),kv P "compile" 253 (.builtin "_sre.compile"),kv P "template" 254 (.builtin "_sre.template"),kv P "getcodesize" 255 (.builtin "_sre.getcodesize"),kv P "ascii_iscased" 256 (.builtin "_sre.ascii_iscased"),kv P "unicode_iscased" 257 (.builtin "_sre.unicode_iscased"),kv P "ascii_tolower" 258 (.builtin "_sre.ascii_tolower"),kv P "unicode_tolower" 259 (.builtin "_sre.unicode_tolower"),kv P "MAGIC" 261 (.int 20230612 260),kv P "CODESIZE" 263 (.int 4 262),kv P "MAXREPEAT" 265 (.int 4294967295 264),kv P "MAXGROUPS" 267 (.int 1073741823 266),kv P "copyright" 269 (sv " SRE 2.2.2 Copyright (c) 1997-2002 by Secret Labs AB " 268)] 17),#[]⟩
noncomputable def o12:Obj:=⟨(.type "module"),(some 11),.plain,#[]⟩
def o13 (P:Params):Obj:=⟨(.type "dict"),none,(.dict #[kv P "__module__" 189 (sv "_frozen_importlib" 186),kv P "__firstlineno__" 190 (.int 971 187),kv P "__doc__" 191 (.builtin "_frozen_importlib.BuiltinImporter.__doc__:str#opaque"),kv P "_ORIGIN" 192 (sv "built-in" 188),kv P "find_spec" 193 (.builtin "_frozen_importlib.BuiltinImporter.find_spec#opaque"),kv P "create_module" 194 (.builtin "_frozen_importlib.BuiltinImporter.create_module#opaque"),kv P "exec_module" 195 (.builtin "_frozen_importlib.BuiltinImporter.exec_module#opaque"),kv P "get_code" 196 (.builtin "_frozen_importlib.BuiltinImporter.get_code#opaque"),kv P "get_source" 197 (.builtin "_frozen_importlib.BuiltinImporter.get_source#opaque"),kv P "is_package" 198 (.builtin "_frozen_importlib.BuiltinImporter.is_package#opaque"),kv P "load_module" 199 (.builtin "_frozen_importlib.BuiltinImporter.load_module#opaque"),kv P "__static_attributes__" 200 (.ref 15),kv P "__dict__" 202 (.ref 16),kv P "__weakref__" 204 (.ref 17)] 14),#[]⟩
noncomputable def o14:Obj:=⟨(.type "type"),none,(.cls ⟨(Qq "BuiltinImporter"),[(.type "object")],[(.ref 14),(.type "object")],13,(Qq "BuiltinImporter"),true,[],[],false,none,false⟩),#[]⟩
def o15:Obj:=⟨(.type "getset_descriptor"),none,(.fields #[(sv "__dict__" 201),(.ref 14),(.builtin "function.__dict__"),(.builtin "function.__dict__#set")]),#[]⟩
def o16:Obj:=⟨(.type "getset_descriptor"),none,(.fields #[(sv "__weakref__" 203),(.ref 14),(.builtin "ExceptionGroup.__weakref__"),.none]),#[]⟩
def o17:Obj:=⟨.none,none,(.seq #[(.int 13 0),(sv "\x06½\n__module__\x06º\x11_frozen_importlib\x06¾\x0f__firstlineno__\x04»\x00ϋ\x06¿\x07__doc__\t4_frozen_importlib.BuiltinImporter.__doc__:str#opaque\x06À\x07_ORIGIN\x06¼\x08built-in\x06Á\tfind_spec\t2_frozen_importlib.BuiltinImporter.find_spec#opaque\x06Â\x0dcreate_module\t6_frozen_importlib.BuiltinImporter.create_module#opaque\x06Ã\x0bexec_module\t4_frozen_importlib.BuiltinImporter.exec_module#opaque\x06Ä\x08get_code\t1_frozen_importlib.BuiltinImporter.get_code#opaque\x06Å\nget_source\t3_frozen_importlib.BuiltinImporter.get_source#opaque\x06Æ\nis_package\t3_frozen_importlib.BuiltinImporter.is_package#opaque\x06Ç\x0bload_module\t4_frozen_importlib.BuiltinImporter.load_module#opaque\x06È\x15__static_attributes__\x04\x00\x00\x0f\x06Ê\x08__dict__\x04\x00\x00\x10\x06Ì\x0b__weakref__\x04\x00\x00\x11" 0),(.bool true),(.bool true),(sv "" 205),(.int 21 0),(sv "\x06ã\n__module__\x06Ù\x11_frozen_importlib\x06ä\x0f__firstlineno__\x04Ú\x00Ȳ\x06å\x07__doc__\t/_frozen_importlib.ModuleSpec.__doc__:str#opaque\x06æ\x08__init__\t,_frozen_importlib.ModuleSpec.__init__#opaque\x06ç\x08__repr__\t,_frozen_importlib.ModuleSpec.__repr__#opaque\x06è\x06__eq__\t*_frozen_importlib.ModuleSpec.__eq__#opaque\x06é\x06cached\t*_frozen_importlib.ModuleSpec.cached#opaque\x06ê\x06parent\t*_frozen_importlib.ModuleSpec.parent#opaque\x06ë\x0chas_location\t0_frozen_importlib.ModuleSpec.has_location#opaque\x06ì\x15__static_attributes__\x04\x00\x00\x17\x06î\x08__dict__\x04\x00\x00\x18\x06ð\x0b__weakref__\x04\x00\x00\x19\x06ñ\x08__hash__\x00" 0),(.bool true),(.bool true),(sv "" 242)] 1),#[]⟩
noncomputable def o18:Obj:=⟨(.type "list"),none,(.seq #[] 0),#[]⟩
def o19 (P:Params):Obj:=⟨(.type "dict"),none,(.dict #[kv P "name" 208 (sv "_sre" 207),kv P "loader" 209 (.ref 14),kv P "origin" 210 (sv "built-in" 184),kv P "loader_state" 211 .none,kv P "submodule_search_locations" 212 .none,kv P "_uninitialized_submodules" 213 (.ref 19),kv P "_set_fileattr" 214 (.bool false),kv P "_cached" 215 .none,kv P "_initializing" 243 (.bool false)] 9),#[]⟩
def o20 (P:Params):Obj:=⟨(.type "dict"),none,(.dict #[kv P "__module__" 227 (sv "_frozen_importlib" 217),kv P "__firstlineno__" 228 (.int 562 218),kv P "__doc__" 229 (.builtin "_frozen_importlib.ModuleSpec.__doc__:str#opaque"),kv P "__init__" 230 (.builtin "_frozen_importlib.ModuleSpec.__init__#opaque"),kv P "__repr__" 231 (.builtin "_frozen_importlib.ModuleSpec.__repr__#opaque"),kv P "__eq__" 232 (.builtin "_frozen_importlib.ModuleSpec.__eq__#opaque"),kv P "cached" 233 (.builtin "_frozen_importlib.ModuleSpec.cached#opaque"),kv P "parent" 234 (.builtin "_frozen_importlib.ModuleSpec.parent#opaque"),kv P "has_location" 235 (.builtin "_frozen_importlib.ModuleSpec.has_location#opaque"),kv P "__static_attributes__" 236 (.ref 23),kv P "__dict__" 238 (.ref 24),kv P "__weakref__" 240 (.ref 25),kv P "__hash__" 241 .none] 13),#[]⟩
noncomputable def o21:Obj:=⟨(.type "type"),none,(.cls ⟨(Qq "ModuleSpec"),[(.type "object")],[(.ref 22),(.type "object")],21,(Qq "ModuleSpec"),true,[],[],false,none,false⟩),#[]⟩
def o22:Obj:=⟨(.type "tuple"),none,(.seq #[(sv "_cached" 219),(sv "_set_fileattr" 220),(sv "_uninitialized_submodules" 221),(sv "loader" 222),(sv "loader_state" 223),(sv "name" 224),(sv "origin" 225),(sv "submodule_search_locations" 226)] 0),#[]⟩
def o23:Obj:=⟨(.type "getset_descriptor"),none,(.fields #[(sv "__dict__" 237),(.ref 22),(.builtin "function.__dict__"),(.builtin "function.__dict__#set")]),#[]⟩
def o24:Obj:=⟨(.type "getset_descriptor"),none,(.fields #[(sv "__weakref__" 239),(.ref 22),(.builtin "ExceptionGroup.__weakref__"),.none]),#[]⟩
noncomputable def o25:Obj:=⟨(.ref 22),(some 20),.plain,#[]⟩
def o26:Obj:=⟨.none,none,(.seq #[(.int 11 0),(.str (PySem.Str.mk #[6,247,8,95,95,110,97,109,101,95,95,6,246,4,95,115,114,101,6,248,7,95,95,100,111,99,95,95,0,6,250,11,95,95,112,97,99,107,97,103,101,95,95,6,249,0,6,251,10,95,95,108,111,97,100,101,114,95,95,4,0,0,14,6,252,8,95,95,115,112,101,99,95,95,4,0,0,26,6,253,7,99,111,109,112,105,108,101,9,12,95,115,114,101,46,99,111,109,112,105,108,101,6,254,8,116,101,109,112,108,97,116,101,9,13,95,115,114,101,46,116,101,109,112,108,97,116,101,6,255,11,103,101,116,99,111,100,101,115,105,122,101,9,16,95,115,114,101,46,103,101,116,99,111,100,101,115,105,122,101,6,256,13,97,115,99,105,105,95,105,115,99,97,115,101,100,9,18,95,115,114,101,46,97,115,99,105,105,95,105,115,99,97,115,101,100,6,257,15,117,110,105,99,111,100,101,95,105,115,99,97,115,101,100,9,20,95,115,114,101,46,117,110,105,99,111,100,101,95,105,115,99,97,115,101,100,6,258,13,97,115,99,105,105,95,116,111,108,111,119,101,114,9,18,95,115,114,101,46,97,115,99,105,105,95,116,111,108,111,119,101,114,6,259,15,117,110,105,99,111,100,101,95,116,111,108,111,119,101,114,9,20,95,115,114,101,46,117,110,105,99,111,100,101,95,116,111,108,111,119,101,114,6,261,5,77,65,71,73,67,4,260,0,20230612,6,263,8,67,79,68,69,83,73,90,69,4,262,0,4,6,265,9,77,65,88,82,69,80,69,65,84,4,264,0,4294967295,6,267,9,77,65,88,71,82,79,85,80,83,4,266,0,1073741823,6,269,9,99,111,112,121,114,105,103,104,116,6,268,53,32,83,82,69,32,50,46,50,46,50,32,67,111,112,121,114,105,103,104,116,32,40,99,41,32,49,57,57,55,45,50,48,48,50,32,98,121,32,83,101,99,114,101,116,32,76,97,98,115,32,65,66,32]) 0),(.bool true),(.bool false),(sv "_sre" 271)] 0),#[]⟩
def hSe (P:Params):Heap:=⟨Array.mk [o0 P,o1 P,o2 P,o3 P,o4,o5,o6,o7,o8,o9,o10,o11 P,o12,o13 P,o14,o7,o15,o16,o17,o18,o19 P,o20 P,o21,o22,o23,o24,o25,o26],{}⟩
def o27 (P:Params):Obj:=⟨(.type "dict"),none,(.dict #[kv P "__name__" 247 (sv "_sre" 246),kv P "__doc__" 248 .none,kv P "__package__" 250 (sv "" 249),kv P "__loader__" 251 (.builtin "off-the-table:_sre.__loader__:shared#opaque"),kv P "__spec__" 252 (.builtin "off-the-table:_sre.__spec__:shared#opaque"),kv P "compile" 253 (.builtin "_sre.compile"),kv P "template" 254 (.builtin "off-the-table:_sre.template:shared#opaque"),kv P "getcodesize" 255 (.builtin "off-the-table:_sre.getcodesize:shared#opaque"),kv P "ascii_iscased" 256 (.builtin "off-the-table:_sre.ascii_iscased:shared#opaque"),kv P "unicode_iscased" 257 (.builtin "off-the-table:_sre.unicode_iscased:shared#opaque"),kv P "ascii_tolower" 258 (.builtin "off-the-table:_sre.ascii_tolower:shared#opaque"),kv P "unicode_tolower" 259 (.builtin "off-the-table:_sre.unicode_tolower:shared#opaque"),kv P "MAGIC" 261 (.int 20230612 260),kv P "CODESIZE" 263 (.int 4 262),kv P "MAXREPEAT" 265 (.int 4294967295 264),kv P "MAXGROUPS" 267 (.int 1073741823 266),kv P "copyright" 269 (sv " SRE 2.2.2 Copyright (c) 1997-2002 by Secret Labs AB " 268)] 17),#[]⟩
def hSz (P:Params):Heap:=⟨Array.mk [o0 P,o1 P,o2 P,o3 P,o4,o5,o6,o7,o8,o9,o10,o27 P,o12,o13 P,o14,o7,o15,o16,o17,o18,o19 P,o20 P,o21,o22,o23,o24,o25,o26],{}⟩
def o28:Obj:=⟨(.type "code"),none,(.fields #[(sv "<module>" 277),(sv "<module>" 278),(sv "/claim/cut.py" 279),(.int 1 0),(.int 0 0),(.int 0 0),(.int 0 0),(.int 0 0),(.ref 28),(.bool false),(.int 276 0),(.ref 29),.none,.none,.none,.none,(.int 280 0),(.int 1 0),(sv "/claim/cut.py" 281)]),#[]⟩
def o29:Obj:=⟨(.type "frame"),none,.plain,#[(some (.ref 30)),(some (.ref 3)),(some (.ref 3)),none,(some (sv "__main__" 164)),none,(some (.ref 0))]⟩
def hSa (P:Params):Heap:=⟨Array.mk [o0 P,o1 P,o2 P,o3 P,o4,o5,o6,o7,o8,o9,o10,o27 P,o12,o13 P,o14,o7,o15,o16,o17,o18,o19 P,o20 P,o21,o22,o23,o24,o25,o26,o7,o8,o28,o29],{}⟩
def Sa (w:World)(os:OsState):Shared:=⟨hSa w.params,Array.mk [],⟨0,0,0,0⟩,282,os⟩
def tS0 (P:Params):BT:=(N (o0 P) (N (o1 P) (N (o3 P) (N o7 (N o7 (lf o29) O) (lf o22)) (N (o27 P) (lf o18) (lf o26))) (N o5 (N o9 (lf o16) (lf o24)) (N (o13 P) (lf (o20 P)) (lf o8)))) (N (o2 P) (N o4 (N o8 (lf o15) (lf o23)) (N o12 (lf (o19 P)) (lf o7))) (N o6 (N o10 (lf o17) (lf o25)) (N o14 (lf o21) (lf o28)))))
def S0 (w:World)(os:OsState):SharedT:=⟨tS0 w.params,32,{},Array.mk [],⟨0,0,0,0⟩,282,os⟩
def o30 (P:Params):Obj:=⟨(.type "dict"),none,(.dict #[kv P "__name__" 165 (sv "cpy313.idlelib.pyparse" 289),kv P "__doc__" 166 .none,kv P "__package__" 167 .none,kv P "__loader__" 168 (.builtin "__main__.__loader__#opaque"),kv P "__spec__" 169 .none,kv P "__annotations__" 170 (.ref 6),kv P "__builtins__" 171 (.ref 4),kv P "__file__" 173 (sv "/claim/cut.py" 172),kv P "__cached__" 174 .none,kv P "_sre" 275 (.ref 12),kv P "_wall" 288 (.ref 38),kv P "_twin_re_2" 334 (.ref 43)] 12),#[]⟩
noncomputable def o31:Obj:=⟨.none,none,(.fields #[(.int 2 0),(.int 0 0),(.ref 37)]),#[]⟩
def o32:Obj:=⟨(.type "tuple"),none,(.seq #[(sv "k" 285)] 0),#[]⟩
def o33:Obj:=⟨.none,none,(.func ⟨(Qq "_wall"),(Qq "_wall"),(aT (aL pw.main.body 1)),(.stmts (aK (aL pw.main.body 1))),(aA (aL pw.main.body 1)),0,[],.none,.none,.none,.none,none,.none,.none,0⟩),#[]⟩
def o34:Obj:=⟨(.type "code"),none,(.fields #[(sv "_wall" 282),(sv "_wall" 283),(sv "/claim/cut.py" 284),(.int 2 0),(.int 1 0),(.int 0 0),(.int 0 0),(.int 3 0),(.ref 32),(.bool true),(.int 276 0),(.ref 33),.none,(.ref 34),(.ref 35),(.ref 36),(.int 286 0),(.int 2 0),(sv "/claim/cut.py" 287)]),#[]⟩
def o35:Obj:=⟨(.type "function"),none,(.func ⟨(Qq "_wall"),(Qq "_wall"),(aT (aL pw.main.body 1)),(.stmts (aK (aL pw.main.body 1))),(aA (aL pw.main.body 1)),3,[],.none,.none,.none,(sv "__main__" 164),none,(.ref 37),.none,0⟩),#[]⟩
noncomputable def o36:Obj:=⟨(.type "list"),none,(.seq #[(.int 14 294),(.int 4 295),(.int 0 296),(.int 1 297),(.int 4294967295 298),(.int 24 299),(.int 11 300),(.int 0 301),(.int 4294967295 302),(.int 13 303),(.int 6 304),(.int 16 305),(.int 32 306),(.int 16 307),(.int 9 308),(.int 0 309),(.int 1 310),(.int 23 311),(.int 16 312),(.int 0 313),(.int 1 314),(.int 16 315),(.int 35 316),(.int 13 317),(.int 4 318),(.int 8 319),(.int 13 320),(.int 0 321),(.int 24 322),(.int 5 323),(.int 0 324),(.int 4294967295 325),(.int 2 326),(.int 1 327),(.int 18 328),(.int 16 329),(.int 10 330),(.int 1 331)] 0),#[]⟩
noncomputable def o37:Obj:=⟨(.type "tuple"),none,(.seq #[.none] 0),#[]⟩
noncomputable def o38:Obj:=⟨(.type "tuple"),none,(.seq #[(.int 14 0),(.int 4 0),(.int 0 0),(.int 1 0),(.int 4294967295 0),(.int 24 0),(.int 11 0),(.int 0 0),(.int 4294967295 0),(.int 13 0),(.int 6 0),(.int 16 0),(.int 32 0),(.int 16 0),(.int 9 0),(.int 0 0),(.int 1 0),(.int 23 0),(.int 16 0),(.int 0 0),(.int 1 0),(.int 16 0),(.int 35 0),(.int 13 0),(.int 4 0),(.int 8 0),(.int 13 0),(.int 0 0),(.int 24 0),(.int 5 0),(.int 0 0),(.int 4294967295 0),(.int 2 0),(.int 1 0),(.int 18 0),(.int 16 0),(.int 10 0),(.int 1 0)] 0),#[]⟩
def o39:Obj:=⟨(.type "re.Pattern"),none,(.fields #[(sv "\n    [ \\t]*\n    (?: \\# \\S .* )?\n    \\n\n" 292),(.int 96 333),(.int 0 0),.none,.none,(.ref 42),(.int 0 0)]),#[]⟩
def tS1 (P:Params):BT:=(N (o0 P) (N (o1 P) (N (o30 P) (N o7 (N o7 (lf o29) O) (N o22 (lf o36) O)) (N (o27 P) (N o18 (lf o7) O) (N o26 (lf o39) O))) (N o5 (N o9 (N o16 (lf o8) O) (N o24 (lf o37) O)) (N (o13 P) (N (o20 P) (lf o34) O) (lf o31)))) (N (o2 P) (N o4 (N o8 (N o15 (lf o7) O) (N o23 (lf o6) O)) (N o12 (N (o19 P) (lf o33) O) (lf o7))) (N o6 (N o10 (N o17 (lf o32) O) (N o25 (lf o38) O)) (N o14 (N o21 (lf o35) O) (lf o28)))))
def S1 (w:World)(os:OsState):SharedT:=⟨tS1 w.params,44,{},Array.mk [],⟨0,0,0,0⟩,335,os⟩
def o40 (P:Params):Obj:=⟨(.type "dict"),none,(.dict #[kv P "__name__" 165 (sv "cpy313.idlelib.pyparse" 289),kv P "__doc__" 166 .none,kv P "__package__" 167 .none,kv P "__loader__" 168 (.builtin "__main__.__loader__#opaque"),kv P "__spec__" 169 .none,kv P "__annotations__" 170 (.ref 6),kv P "__builtins__" 171 (.ref 4),kv P "__file__" 173 (sv "/claim/cut.py" 172),kv P "__cached__" 174 .none,kv P "_sre" 275 (.ref 12),kv P "_wall" 288 (.ref 38),kv P "_twin_re_2" 334 (.ref 43),kv P "_twin_re_3" 609 (.ref 48),kv P "_twin_re_6" 639 (.ref 53)] 14),#[]⟩
noncomputable def o41:Obj:=⟨(.type "list"),none,(.seq #[(.int 14 338),(.int 9 339),(.int 4 340),(.int 1 341),(.int 4294967295 342),(.int 16 343),(.int 34 344),(.int 16 345),(.int 39 346),(.int 0 347),(.int 7 348),(.int 72 349),(.int 16 350),(.int 34 351),(.int 16 352),(.int 34 353),(.int 16 354),(.int 34 355),(.int 24 356),(.int 12 357),(.int 0 358),(.int 4294967295 359),(.int 13 360),(.int 7 361),(.int 21 362),(.int 16 363),(.int 34 364),(.int 16 365),(.int 92 366),(.int 0 367),(.int 1 368),(.int 23 369),(.int 37 370),(.int 0 371),(.int 4294967295 372),(.int 7 373),(.int 6 374),(.int 16 375),(.int 92 376),(.int 3 377),(.int 15 378),(.int 15 379),(.int 13 380),(.int 16 381),(.int 34 382),(.int 5 383),(.int 7 384),(.int 0 385),(.int 16 386),(.int 34 387),(.int 16 388),(.int 34 389),(.int 1 390),(.int 15 391),(.int 2 392),(.int 0 393),(.int 24 394),(.int 12 395),(.int 0 396),(.int 4294967295 397),(.int 13 398),(.int 7 399),(.int 21 400),(.int 16 401),(.int 34 402),(.int 16 403),(.int 92 404),(.int 0 405),(.int 1 406),(.int 18 407),(.int 23 408),(.int 9 409),(.int 0 410),(.int 1 411),(.int 16 412),(.int 34 413),(.int 16 414),(.int 34 415),(.int 16 416),(.int 34 417),(.int 18 418),(.int 15 419),(.int 186 420),(.int 56 421),(.int 16 422),(.int 34 423),(.int 24 424),(.int 17 425),(.int 0 426),(.int 4294967295 427),(.int 13 428),(.int 12 429),(.int 21 430),(.int 9 431),(.int 1024 432),(.int 4 433),(.int 268435456 434),(.int 0 435),(.int 0 436),(.int 0 437),(.int 0 438),(.int 0 439),(.int 0 440),(.int 1 441),(.int 23 442),(.int 24 443),(.int 0 444),(.int 4294967295 445),(.int 16 446),(.int 92 447),(.int 3 448),(.int 24 449),(.int 17 450),(.int 0 451),(.int 4294967295 452),(.int 13 453),(.int 12 454),(.int 21 455),(.int 9 456),(.int 1024 457),(.int 4 458),(.int 268435456 459),(.int 0 460),(.int 0 461),(.int 0 462),(.int 0 463),(.int 0 464),(.int 0 465),(.int 1 466),(.int 18 467),(.int 24 468),(.int 6 469),(.int 0 470),(.int 1 471),(.int 16 472),(.int 34 473),(.int 1 474),(.int 15 475),(.int 130 476),(.int 72 477),(.int 16 478),(.int 39 479),(.int 16 480),(.int 39 481),(.int 16 482),(.int 39 483),(.int 24 484),(.int 12 485),(.int 0 486),(.int 4294967295 487),(.int 13 488),(.int 7 489),(.int 21 490),(.int 16 491),(.int 39 492),(.int 16 493),(.int 92 494),(.int 0 495),(.int 1 496),(.int 23 497),(.int 37 498),(.int 0 499),(.int 4294967295 500),(.int 7 501),(.int 6 502),(.int 16 503),(.int 92 504),(.int 3 505),(.int 15 506),(.int 15 507),(.int 13 508),(.int 16 509),(.int 39 510),(.int 5 511),(.int 7 512),(.int 0 513),(.int 16 514),(.int 39 515),(.int 16 516),(.int 39 517),(.int 1 518),(.int 15 519),(.int 2 520),(.int 0 521),(.int 24 522),(.int 12 523),(.int 0 524),(.int 4294967295 525),(.int 13 526),(.int 7 527),(.int 21 528),(.int 16 529),(.int 39 530),(.int 16 531),(.int 92 532),(.int 0 533),(.int 1 534),(.int 18 535),(.int 23 536),(.int 9 537),(.int 0 538),(.int 1 539),(.int 16 540),(.int 39 541),(.int 16 542),(.int 39 543),(.int 16 544),(.int 39 545),(.int 18 546),(.int 15 547),(.int 58 548),(.int 56 549),(.int 16 550),(.int 39 551),(.int 24 552),(.int 17 553),(.int 0 554),(.int 4294967295 555),(.int 13 556),(.int 12 557),(.int 21 558),(.int 9 559),(.int 1024 560),(.int 128 561),(.int 268435456 562),(.int 0 563),(.int 0 564),(.int 0 565),(.int 0 566),(.int 0 567),(.int 0 568),(.int 1 569),(.int 23 570),(.int 24 571),(.int 0 572),(.int 4294967295 573),(.int 16 574),(.int 92 575),(.int 3 576),(.int 24 577),(.int 17 578),(.int 0 579),(.int 4294967295 580),(.int 13 581),(.int 12 582),(.int 21 583),(.int 9 584),(.int 1024 585),(.int 128 586),(.int 268435456 587),(.int 0 588),(.int 0 589),(.int 0 590),(.int 0 591),(.int 0 592),(.int 0 593),(.int 1 594),(.int 18 595),(.int 24 596),(.int 6 597),(.int 0 598),(.int 1 599),(.int 16 600),(.int 39 601),(.int 1 602),(.int 15 603),(.int 2 604),(.int 0 605),(.int 1 606)] 0),#[]⟩
noncomputable def o42:Obj:=⟨(.type "tuple"),none,(.seq #[(.int 14 0),(.int 9 0),(.int 4 0),(.int 1 0),(.int 4294967295 0),(.int 16 0),(.int 34 0),(.int 16 0),(.int 39 0),(.int 0 0),(.int 7 0),(.int 72 0),(.int 16 0),(.int 34 0),(.int 16 0),(.int 34 0),(.int 16 0),(.int 34 0),(.int 24 0),(.int 12 0),(.int 0 0),(.int 4294967295 0),(.int 13 0),(.int 7 0),(.int 21 0),(.int 16 0),(.int 34 0),(.int 16 0),(.int 92 0),(.int 0 0),(.int 1 0),(.int 23 0),(.int 37 0),(.int 0 0),(.int 4294967295 0),(.int 7 0),(.int 6 0),(.int 16 0),(.int 92 0),(.int 3 0),(.int 15 0),(.int 15 0),(.int 13 0),(.int 16 0),(.int 34 0),(.int 5 0),(.int 7 0),(.int 0 0),(.int 16 0),(.int 34 0),(.int 16 0),(.int 34 0),(.int 1 0),(.int 15 0),(.int 2 0),(.int 0 0),(.int 24 0),(.int 12 0),(.int 0 0),(.int 4294967295 0),(.int 13 0),(.int 7 0),(.int 21 0),(.int 16 0),(.int 34 0),(.int 16 0),(.int 92 0),(.int 0 0),(.int 1 0),(.int 18 0),(.int 23 0),(.int 9 0),(.int 0 0),(.int 1 0),(.int 16 0),(.int 34 0),(.int 16 0),(.int 34 0),(.int 16 0),(.int 34 0),(.int 18 0),(.int 15 0),(.int 186 0),(.int 56 0),(.int 16 0),(.int 34 0),(.int 24 0),(.int 17 0),(.int 0 0),(.int 4294967295 0),(.int 13 0),(.int 12 0),(.int 21 0),(.int 9 0),(.int 1024 0),(.int 4 0),(.int 268435456 0),(.int 0 0),(.int 0 0),(.int 0 0),(.int 0 0),(.int 0 0),(.int 0 0),(.int 1 0),(.int 23 0),(.int 24 0),(.int 0 0),(.int 4294967295 0),(.int 16 0),(.int 92 0),(.int 3 0),(.int 24 0),(.int 17 0),(.int 0 0),(.int 4294967295 0),(.int 13 0),(.int 12 0),(.int 21 0),(.int 9 0),(.int 1024 0),(.int 4 0),(.int 268435456 0),(.int 0 0),(.int 0 0),(.int 0 0),(.int 0 0),(.int 0 0),(.int 0 0),(.int 1 0),(.int 18 0),(.int 24 0),(.int 6 0),(.int 0 0),(.int 1 0),(.int 16 0),(.int 34 0),(.int 1 0),(.int 15 0),(.int 130 0),(.int 72 0),(.int 16 0),(.int 39 0),(.int 16 0),(.int 39 0),(.int 16 0),(.int 39 0),(.int 24 0),(.int 12 0),(.int 0 0),(.int 4294967295 0),(.int 13 0),(.int 7 0),(.int 21 0),(.int 16 0),(.int 39 0),(.int 16 0),(.int 92 0),(.int 0 0),(.int 1 0),(.int 23 0),(.int 37 0),(.int 0 0),(.int 4294967295 0),(.int 7 0),(.int 6 0),(.int 16 0),(.int 92 0),(.int 3 0),(.int 15 0),(.int 15 0),(.int 13 0),(.int 16 0),(.int 39 0),(.int 5 0),(.int 7 0),(.int 0 0),(.int 16 0),(.int 39 0),(.int 16 0),(.int 39 0),(.int 1 0),(.int 15 0),(.int 2 0),(.int 0 0),(.int 24 0),(.int 12 0),(.int 0 0),(.int 4294967295 0),(.int 13 0),(.int 7 0),(.int 21 0),(.int 16 0),(.int 39 0),(.int 16 0),(.int 92 0),(.int 0 0),(.int 1 0),(.int 18 0),(.int 23 0),(.int 9 0),(.int 0 0),(.int 1 0),(.int 16 0),(.int 39 0),(.int 16 0),(.int 39 0),(.int 16 0),(.int 39 0),(.int 18 0),(.int 15 0),(.int 58 0),(.int 56 0),(.int 16 0),(.int 39 0),(.int 24 0),(.int 17 0),(.int 0 0),(.int 4294967295 0),(.int 13 0),(.int 12 0),(.int 21 0),(.int 9 0),(.int 1024 0),(.int 128 0),(.int 268435456 0),(.int 0 0),(.int 0 0),(.int 0 0),(.int 0 0),(.int 0 0),(.int 0 0),(.int 1 0),(.int 23 0),(.int 24 0),(.int 0 0),(.int 4294967295 0),(.int 16 0),(.int 92 0),(.int 3 0),(.int 24 0),(.int 17 0),(.int 0 0),(.int 4294967295 0),(.int 13 0),(.int 12 0),(.int 21 0),(.int 9 0),(.int 1024 0),(.int 128 0),(.int 268435456 0),(.int 0 0),(.int 0 0),(.int 0 0),(.int 0 0),(.int 0 0),(.int 0 0),(.int 1 0),(.int 18 0),(.int 24 0),(.int 6 0),(.int 0 0),(.int 1 0),(.int 16 0),(.int 39 0),(.int 1 0),(.int 15 0),(.int 2 0),(.int 0 0),(.int 1 0)] 0),#[]⟩
noncomputable def o43:Obj:=⟨(.type "re.Pattern"),none,(.fields #[(.str (Qq "\n    \\\"\"\" [^\"\\\\]* (?:\n                     (?: \\\\. | \"(?!\"\") )\n                     [^\"\\\\]*\n                 )*\n    (?: \\\"\"\" )?\n\n|   \" [^\"\\\\\\n]* (?: \\\\. [^\"\\\\\\n]* )* \"?\n\n|   ''' [^'\\\\]* (?:\n                   (?: \\\\. | '(?!'') )\n                   [^'\\\\]*\n                )*\n    (?: ''' )?\n\n|   ' [^'\\\\\\n]* (?: \\\\. [^'\\\\\\n]* )* '?\n") 336),(.int 112 608),(.int 0 0),.none,.none,(.ref 47),(.int 0 0)]),#[]⟩
noncomputable def o44:Obj:=⟨(.type "list"),none,(.seq #[(.int 14 613),(.int 4 614),(.int 0 615),(.int 1 616),(.int 4294967295 617),(.int 24 618),(.int 17 619),(.int 1 620),(.int 4294967295 621),(.int 13 622),(.int 12 623),(.int 21 624),(.int 9 625),(.int 0 626),(.int 908 627),(.int 939524096 628),(.int 671088640 629),(.int 0 630),(.int 0 631),(.int 0 632),(.int 0 633),(.int 0 634),(.int 1 635),(.int 1 636)] 0),#[]⟩
noncomputable def o45:Obj:=⟨(.type "tuple"),none,(.seq #[(.int 14 0),(.int 4 0),(.int 0 0),(.int 1 0),(.int 4294967295 0),(.int 24 0),(.int 17 0),(.int 1 0),(.int 4294967295 0),(.int 13 0),(.int 12 0),(.int 21 0),(.int 9 0),(.int 0 0),(.int 908 0),(.int 939524096 0),(.int 671088640 0),(.int 0 0),(.int 0 0),(.int 0 0),(.int 0 0),(.int 0 0),(.int 1 0),(.int 1 0)] 0),#[]⟩
noncomputable def o46:Obj:=⟨(.type "re.Pattern"),none,(.fields #[(.str (Qq "\n    [^[\\](){}#'\"\\\\]+\n") 611),(.int 96 638),(.int 0 0),.none,.none,(.ref 52),(.int 0 0)]),#[]⟩
def tS2 (P:Params):BT:=(N (o0 P) (N (o1 P) (N (o40 P) (N o7 (N o7 (lf o29) (lf o42)) (N o22 (lf o36) O)) (N (o27 P) (N o18 (lf o7) (lf o37)) (N o26 (lf o39) O))) (N o5 (N o9 (N o16 (lf o8) (lf o44)) (N o24 (lf o37) O)) (N (o13 P) (N (o20 P) (lf o34) (lf o46)) (N o31 (lf o6) O)))) (N (o2 P) (N o4 (N o8 (N o15 (lf o7) (lf o43)) (N o23 (lf o6) O)) (N o12 (N (o19 P) (lf o33) (lf o45)) (N o7 (lf o41) O))) (N o6 (N o10 (N o17 (lf o32) (lf o6)) (N o25 (lf o38) O)) (N o14 (N o21 (lf o35) O) (N o28 (lf o37) O)))))
def S2 (w:World)(os:OsState):SharedT:=⟨tS2 w.params,54,{},Array.mk [],⟨0,0,0,0⟩,640,os⟩
def o47 (P:Params):Obj:=⟨(.type "dict"),none,(.dict #[kv P "__name__" 165 (sv "cpy313.idlelib.pyparse" 289),kv P "__doc__" 166 .none,kv P "__package__" 167 .none,kv P "__loader__" 168 (.builtin "__main__.__loader__#opaque"),kv P "__spec__" 169 .none,kv P "__annotations__" 170 (.ref 6),kv P "__builtins__" 171 (.ref 4),kv P "__file__" 173 (sv "/claim/cut.py" 172),kv P "__cached__" 174 .none,kv P "_sre" 275 (.ref 12),kv P "_wall" 288 (.ref 38),kv P "_twin_re_2" 334 (.ref 43),kv P "_twin_re_3" 609 (.ref 48),kv P "_twin_re_6" 639 (.ref 53),kv P "C_NONE" 648 (.int 0 643),kv P "C_BACKSLASH" 649 (.int 1 644),kv P "C_STRING_FIRST_LINE" 650 (.int 2 645),kv P "C_STRING_NEXT_LINES" 651 (.int 3 646),kv P "C_BRACKET" 652 (.int 4 647),kv P "_junkre" 654 (.ref 58),kv P "_match_stringre" 656 (.ref 59),kv P "_chew_ordinaryre" 658 (.ref 60)] 22),#[]⟩
noncomputable def o48:Obj:=⟨(.type "range"),none,(.fields #[(.int 0 641),(.int 5 640),(.int 1 642)]),#[]⟩
noncomputable def o49:Obj:=⟨(.type "range_iterator"),none,(.fields #[(.int 5 0),(.int 0 0),(.int 1 0)]),#[]⟩
noncomputable def o50:Obj:=⟨(.type "StopIteration"),none,(.fields #[(.ref 56),.none,.none,.none,(.bool false),.none]),#[]⟩
noncomputable def o51:Obj:=⟨(.type "builtin_function_or_method"),none,(.fields #[(.builtin "re.Pattern.match"),(.ref 43)]),#[]⟩
noncomputable def o52:Obj:=⟨(.type "builtin_function_or_method"),none,(.fields #[(.builtin "re.Pattern.match"),(.ref 48)]),#[]⟩
noncomputable def o53:Obj:=⟨(.type "builtin_function_or_method"),none,(.fields #[(.builtin "re.Pattern.match"),(.ref 53)]),#[]⟩
def tS3 (P:Params):BT:=(N (o0 P) (N (o1 P) (N (o47 P) (N o7 (N o7 (lf o29) (lf o42)) (N o22 (lf o36) (lf o49))) (N (o27 P) (N o18 (lf o7) (lf o37)) (N o26 (lf o39) (lf o52)))) (N o5 (N o9 (N o16 (lf o8) (lf o44)) (N o24 (lf o37) (lf o50))) (N (o13 P) (N (o20 P) (lf o34) (lf o46)) (N o31 (lf o6) O)))) (N (o2 P) (N o4 (N o8 (N o15 (lf o7) (lf o43)) (N o23 (lf o6) (lf o7))) (N o12 (N (o19 P) (lf o33) (lf o45)) (N o7 (lf o41) (lf o53)))) (N o6 (N o10 (N o17 (lf o32) (lf o6)) (N o25 (lf o38) (lf o51))) (N o14 (N o21 (lf o35) (lf o48)) (N o28 (lf o37) O)))))
def S3 (w:World)(os:OsState):SharedT:=⟨tS3 w.params,61,{},Array.mk [],⟨0,0,0,0⟩,659,os⟩
def o54 (P:Params):Obj:=⟨(.type "dict"),none,(.dict #[kv P "__name__" 165 (sv "cpy313.idlelib.pyparse" 289),kv P "__doc__" 166 .none,kv P "__package__" 167 .none,kv P "__loader__" 168 (.builtin "__main__.__loader__#opaque"),kv P "__spec__" 169 .none,kv P "__annotations__" 170 (.ref 6),kv P "__builtins__" 171 (.ref 4),kv P "__file__" 173 (sv "/claim/cut.py" 172),kv P "__cached__" 174 .none,kv P "_sre" 275 (.ref 12),kv P "_wall" 288 (.ref 38),kv P "_twin_re_2" 334 (.ref 43),kv P "_twin_re_3" 609 (.ref 48),kv P "_twin_re_6" 639 (.ref 53),kv P "C_NONE" 648 (.int 0 643),kv P "C_BACKSLASH" 649 (.int 1 644),kv P "C_STRING_FIRST_LINE" 650 (.int 2 645),kv P "C_STRING_NEXT_LINES" 651 (.int 3 646),kv P "C_BRACKET" 652 (.int 4 647),kv P "_junkre" 654 (.ref 58),kv P "_match_stringre" 656 (.ref 59),kv P "_chew_ordinaryre" 658 (.ref 60),kv P "ParseMap" 686 (.ref 77)] 23),#[]⟩
noncomputable def o55:Obj:=⟨.none,none,(.fields #[(.int 2 0),(.int 0 0),(.ref 37),(.int 13 0),(.int 0 0),(.ref 66)]),#[]⟩
noncomputable def o56:Obj:=⟨(.type "tuple"),none,(.seq #[(.type "dict")] 0),#[]⟩
noncomputable def o57:Obj:=⟨(.type "builtin_function_or_method"),none,(.fields #[(.builtin "type.__prepare__"),(.type "type")]),#[]⟩
def o58 (P:Params):Obj:=⟨(.type "dict"),none,(.dict #[kv P "__module__" 666 (sv "cpy313.idlelib.pyparse" 289),kv P "__qualname__" 668 (sv "ParseMap" 667),kv P "__firstlineno__" 670 (.int 13 669),kv P "__missing__" 678 (.ref 74),kv P "__static_attributes__" 679 (.ref 75)] 5),#[]⟩
noncomputable def o59:Obj:=⟨.none,none,(.fields #[(.int 15 0),(.int 4 0),(.ref 73)]),#[]⟩
def o60:Obj:=⟨(.type "code"),none,(.fields #[(sv "ParseMap" 661),(sv "ParseMap" 662),(sv "/claim/cut.py" 663),(.int 13 0),(.int 0 0),(.int 0 0),(.int 0 0),(.int 0 0),(.ref 64),(.bool false),(.int 276 0),(.ref 65),.none,.none,.none,.none,(.int 664 0),(.int 13 0),(sv "/claim/cut.py" 665)]),#[]⟩
def o61:Obj:=⟨(.type "frame"),none,.plain,#[(some (.ref 66)),(some (.ref 3)),(some (.ref 63)),none,(some (sv "cpy313.idlelib.pyparse" 289)),none,(some (.ref 0))]⟩
def o62:Obj:=⟨(.type "tuple"),none,(.seq #[(sv "self" 674),(sv "key" 675)] 0),#[]⟩
def o63:Obj:=⟨.none,none,(.func ⟨(Qq "__missing__"),(Qq "ParseMap.__missing__"),(aT (aL (aK (aL pw.main.body 10)) 0)),(.stmts (aK (aL (aK (aL pw.main.body 10)) 0))),(aA (aL (aK (aL pw.main.body 10)) 0)),0,[],.none,.none,.none,.none,none,.none,.none,0⟩),#[]⟩
def o64:Obj:=⟨(.type "code"),none,(.fields #[(sv "__missing__" 671),(sv "ParseMap.__missing__" 672),(sv "/claim/cut.py" 673),(.int 15 0),(.int 2 0),(.int 0 0),(.int 0 0),(.int 3 0),(.ref 68),(.bool true),(.int 276 0),(.ref 69),.none,(.ref 70),(.ref 71),(.ref 72),(.int 676 0),(.int 15 0),(sv "/claim/cut.py" 677)]),#[]⟩
def o65:Obj:=⟨(.type "function"),none,(.func ⟨(Qq "__missing__"),(Qq "ParseMap.__missing__"),(aT (aL (aK (aL pw.main.body 10)) 0)),(.stmts (aK (aL (aK (aL pw.main.body 10)) 0))),(aA (aL (aK (aL pw.main.body 10)) 0)),3,[],.none,.none,.none,(sv "cpy313.idlelib.pyparse" 289),none,(.ref 73),.none,0⟩),#[]⟩
def o66 (P:Params):Obj:=⟨(.type "dict"),none,(.dict #[kv P "__module__" 666 (sv "cpy313.idlelib.pyparse" 289),kv P "__firstlineno__" 670 (.int 13 669),kv P "__missing__" 678 (.ref 74),kv P "__static_attributes__" 679 (.ref 75),kv P "__dict__" 681 (.ref 78),kv P "__weakref__" 683 (.ref 79),kv P "__doc__" 684 .none] 4),#[]⟩
def o67:Obj:=⟨(.type "type"),none,(.cls ⟨(Qq "ParseMap"),[(.type "dict")],[(.ref 77),(.type "dict"),(.type "object")],76,(Qq "ParseMap"),true,[],[],false,none,false⟩),#[(some (.ref 61)),none,(some (sv "ParseMap" 659)),(some (sv "ParseMap" 667)),(some (.builtin "dict.__new__")),(some (.bool true))]⟩
def o68:Obj:=⟨(.type "getset_descriptor"),none,(.fields #[(sv "__dict__" 680),(.ref 77),(.builtin "function.__dict__"),(.builtin "function.__dict__#set")]),#[]⟩
def o69:Obj:=⟨(.type "getset_descriptor"),none,(.fields #[(sv "__weakref__" 682),(.ref 77),(.builtin "ExceptionGroup.__weakref__"),.none]),#[]⟩
noncomputable def o70:Obj:=⟨(.type "super"),none,(.fields #[(.ref 77),(.ref 77),(.ref 77)]),#[]⟩
noncomputable def o71:Obj:=⟨(.type "builtin_function_or_method"),none,(.fields #[(.builtin "object.__init_subclass__"),(.ref 77)]),#[]⟩
def tS4 (P:Params):BT:=(N (o0 P) (N (o1 P) (N (o54 P) (N o7 (N o7 (N o29 (lf (o58 P)) O) (N o42 (lf o69) O)) (N o22 (N o36 (lf o7) O) (lf o49))) (N (o27 P) (N o18 (N o7 (lf o61) O) (lf o37)) (N o26 (N o39 (lf o7) O) (lf o52)))) (N o5 (N o9 (N o16 (N o8 (lf o59) O) (N o44 (lf o71) O)) (N o24 (N o37 (lf o64) O) (lf o50))) (N (o13 P) (N (o20 P) (N o34 (lf o8) O) (lf o46)) (N o55 (N o6 (lf o67) O) (lf o56))))) (N (o2 P) (N o4 (N o8 (N o15 (N o7 (lf o7) O) (N o43 (lf o70) O)) (N o23 (N o6 (lf o63) O) (lf o7))) (N o12 (N (o19 P) (N o33 (lf o7) O) (lf o45)) (N o7 (N o41 (lf (o66 P)) O) (lf o53)))) (N o6 (N o10 (N o17 (N o32 (lf o60) O) (lf o6)) (N o25 (N o38 (lf o65) O) (lf o51))) (N o14 (N o21 (N o35 (lf o62) O) (lf o48)) (N o28 (N o37 (lf o68) O) (lf o57))))))
def S4 (w:World)(os:OsState):SharedT:=⟨tS4 w.params,82,{},Array.mk [],⟨0,0,0,0⟩,687,os⟩
def o72 (P:Params):Obj:=⟨(.type "dict"),none,(.dict #[kv P "__name__" 165 (sv "cpy313.idlelib.pyparse" 289),kv P "__doc__" 166 .none,kv P "__package__" 167 .none,kv P "__loader__" 168 (.builtin "__main__.__loader__#opaque"),kv P "__spec__" 169 .none,kv P "__annotations__" 170 (.ref 6),kv P "__builtins__" 171 (.ref 4),kv P "__file__" 173 (sv "/claim/cut.py" 172),kv P "__cached__" 174 .none,kv P "_sre" 275 (.ref 12),kv P "_wall" 288 (.ref 38),kv P "_twin_re_2" 334 (.ref 43),kv P "_twin_re_3" 609 (.ref 48),kv P "_twin_re_6" 639 (.ref 53),kv P "C_NONE" 648 (.int 0 643),kv P "C_BACKSLASH" 649 (.int 1 644),kv P "C_STRING_FIRST_LINE" 650 (.int 2 645),kv P "C_STRING_NEXT_LINES" 651 (.int 3 646),kv P "C_BRACKET" 652 (.int 4 647),kv P "_junkre" 654 (.ref 58),kv P "_match_stringre" 656 (.ref 59),kv P "_chew_ordinaryre" 658 (.ref 60),kv P "ParseMap" 686 (.ref 77),kv P "trans" 948 (.ref 85)] 24),#[]⟩
noncomputable def o73:Obj:=⟨(.type "builtin_function_or_method"),none,(.fields #[(.builtin "dict.fromkeys"),(.ref 77)]),#[]⟩
noncomputable def o74:Obj:=⟨(.type "range"),none,(.fields #[(.int 0 689),(.int 128 688),(.int 1 690)]),#[]⟩
def o75:Obj:=⟨(.ref 77),(some 84),(.dict #[ki 0 692 120 691,ki 1 694 120 691,ki 2 696 120 691,ki 3 698 120 691,ki 4 700 120 691,ki 5 702 120 691,ki 6 704 120 691,ki 7 706 120 691,ki 8 708 120 691,ki 9 710 120 691,ki 10 712 120 691,ki 11 714 120 691,ki 12 716 120 691,ki 13 718 120 691,ki 14 720 120 691,ki 15 722 120 691,ki 16 724 120 691,ki 17 726 120 691,ki 18 728 120 691,ki 19 730 120 691,ki 20 732 120 691,ki 21 734 120 691,ki 22 736 120 691,ki 23 738 120 691,ki 24 740 120 691,ki 25 742 120 691,ki 26 744 120 691,ki 27 746 120 691,ki 28 748 120 691,ki 29 750 120 691,ki 30 752 120 691,ki 31 754 120 691,ki 32 756 120 691,ki 33 758 120 691,ki 34 760 120 691,ki 35 762 120 691,ki 36 764 120 691,ki 37 766 120 691,ki 38 768 120 691,ki 39 770 120 691,ki 40 772 120 691,ki 41 774 120 691,ki 42 776 120 691,ki 43 778 120 691,ki 44 780 120 691,ki 45 782 120 691,ki 46 784 120 691,ki 47 786 120 691,ki 48 788 120 691,ki 49 790 120 691,ki 50 792 120 691,ki 51 794 120 691,ki 52 796 120 691,ki 53 798 120 691,ki 54 800 120 691,ki 55 802 120 691,ki 56 804 120 691,ki 57 806 120 691,ki 58 808 120 691,ki 59 810 120 691,ki 60 812 120 691,ki 61 814 120 691,ki 62 816 120 691,ki 63 818 120 691,ki 64 820 120 691,ki 65 822 120 691,ki 66 824 120 691,ki 67 826 120 691,ki 68 828 120 691,ki 69 830 120 691,ki 70 832 120 691,ki 71 834 120 691,ki 72 836 120 691,ki 73 838 120 691,ki 74 840 120 691,ki 75 842 120 691,ki 76 844 120 691,ki 77 846 120 691,ki 78 848 120 691,ki 79 850 120 691,ki 80 852 120 691,ki 81 854 120 691,ki 82 856 120 691,ki 83 858 120 691,ki 84 860 120 691,ki 85 862 120 691,ki 86 864 120 691,ki 87 866 120 691,ki 88 868 120 691,ki 89 870 120 691,ki 90 872 120 691,ki 91 874 120 691,ki 92 876 120 691,ki 93 878 120 691,ki 94 880 120 691,ki 95 882 120 691,ki 96 884 120 691,ki 97 886 120 691,ki 98 888 120 691,ki 99 890 120 691,ki 100 892 120 691,ki 101 894 120 691,ki 102 896 120 691,ki 103 898 120 691,ki 104 900 120 691,ki 105 902 120 691,ki 106 904 120 691,ki 107 906 120 691,ki 108 908 120 691,ki 109 910 120 691,ki 110 912 120 691,ki 111 914 120 691,ki 112 916 120 691,ki 113 918 120 691,ki 114 920 120 691,ki 115 922 120 691,ki 116 924 120 691,ki 117 926 120 691,ki 118 928 120 691,ki 119 930 120 691,ki 120 932 120 691,ki 121 934 120 691,ki 122 936 120 691,ki 123 938 120 691,ki 124 940 120 691,ki 125 942 120 691,ki 126 944 120 691,ki 127 946 120 691] 128),#[]⟩
noncomputable def o76:Obj:=⟨(.type "range_iterator"),none,(.fields #[(.int 128 0),(.int 0 0),(.int 1 0)]),#[]⟩
noncomputable def o77:Obj:=⟨(.type "StopIteration"),none,(.fields #[(.ref 87),.none,.none,.none,(.bool false),.none]),#[]⟩
def tS5 (P:Params):BT:=(N (o0 P) (N (o1 P) (N (o72 P) (N o7 (N o7 (N o29 (lf (o58 P)) O) (N o42 (lf o69) O)) (N o22 (N o36 (lf o7) O) (N o49 (lf o7) O))) (N (o27 P) (N o18 (N o7 (lf o61) O) (N o37 (lf o74) O)) (N o26 (N o39 (lf o7) O) (lf o52)))) (N o5 (N o9 (N o16 (N o8 (lf o59) O) (N o44 (lf o71) O)) (N o24 (N o37 (lf o64) O) (lf o50))) (N (o13 P) (N (o20 P) (N o34 (lf o8) O) (N o46 (lf o75) O)) (N o55 (N o6 (lf o67) O) (lf o56))))) (N (o2 P) (N o4 (N o8 (N o15 (N o7 (lf o7) O) (N o43 (lf o70) O)) (N o23 (N o6 (lf o63) O) (N o7 (lf o77) O))) (N o12 (N (o19 P) (N o33 (lf o7) O) (N o45 (lf o6) O)) (N o7 (N o41 (lf (o66 P)) O) (lf o53)))) (N o6 (N o10 (N o17 (N o32 (lf o60) O) (N o6 (lf o73) O)) (N o25 (N o38 (lf o65) O) (lf o51))) (N o14 (N o21 (N o35 (lf o62) O) (N o48 (lf o76) O)) (N o28 (N o37 (lf o68) O) (lf o57))))))
def S5 (w:World)(os:OsState):SharedT:=⟨tS5 w.params,89,{},Array.mk [],⟨0,0,0,0⟩,949,os⟩
noncomputable def o78:Obj:=⟨.none,none,(.fields #[(.int 2 0),(.int 0 0),(.ref 37),(.int 13 0),(.int 0 0),(.ref 66),(.int 18 0),(.int 13 0),(.ref 92)]),#[]⟩
def o79:Obj:=⟨(.ref 77),(some 84),(.dict #[ki 0 692 120 691,ki 1 694 120 691,ki 2 696 120 691,ki 3 698 120 691,ki 4 700 120 691,ki 5 702 120 691,ki 6 704 120 691,ki 7 706 120 691,ki 8 708 120 691,ki 9 710 120 691,ki 10 712 120 691,ki 11 714 120 691,ki 12 716 120 691,ki 13 718 120 691,ki 14 720 120 691,ki 15 722 120 691,ki 16 724 120 691,ki 17 726 120 691,ki 18 728 120 691,ki 19 730 120 691,ki 20 732 120 691,ki 21 734 120 691,ki 22 736 120 691,ki 23 738 120 691,ki 24 740 120 691,ki 25 742 120 691,ki 26 744 120 691,ki 27 746 120 691,ki 28 748 120 691,ki 29 750 120 691,ki 30 752 120 691,ki 31 754 120 691,ki 32 756 120 691,ki 33 758 120 691,ki 34 760 120 691,ki 35 762 120 691,ki 36 764 120 691,ki 37 766 120 691,ki 38 768 120 691,ki 39 770 120 691,ki 40 772 40 965,ki 41 774 120 691,ki 42 776 120 691,ki 43 778 120 691,ki 44 780 120 691,ki 45 782 120 691,ki 46 784 120 691,ki 47 786 120 691,ki 48 788 120 691,ki 49 790 120 691,ki 50 792 120 691,ki 51 794 120 691,ki 52 796 120 691,ki 53 798 120 691,ki 54 800 120 691,ki 55 802 120 691,ki 56 804 120 691,ki 57 806 120 691,ki 58 808 120 691,ki 59 810 120 691,ki 60 812 120 691,ki 61 814 120 691,ki 62 816 120 691,ki 63 818 120 691,ki 64 820 120 691,ki 65 822 120 691,ki 66 824 120 691,ki 67 826 120 691,ki 68 828 120 691,ki 69 830 120 691,ki 70 832 120 691,ki 71 834 120 691,ki 72 836 120 691,ki 73 838 120 691,ki 74 840 120 691,ki 75 842 120 691,ki 76 844 120 691,ki 77 846 120 691,ki 78 848 120 691,ki 79 850 120 691,ki 80 852 120 691,ki 81 854 120 691,ki 82 856 120 691,ki 83 858 120 691,ki 84 860 120 691,ki 85 862 120 691,ki 86 864 120 691,ki 87 866 120 691,ki 88 868 120 691,ki 89 870 120 691,ki 90 872 120 691,ki 91 874 40 977,ki 92 876 120 691,ki 93 878 120 691,ki 94 880 120 691,ki 95 882 120 691,ki 96 884 120 691,ki 97 886 120 691,ki 98 888 120 691,ki 99 890 120 691,ki 100 892 120 691,ki 101 894 120 691,ki 102 896 120 691,ki 103 898 120 691,ki 104 900 120 691,ki 105 902 120 691,ki 106 904 120 691,ki 107 906 120 691,ki 108 908 120 691,ki 109 910 120 691,ki 110 912 120 691,ki 111 914 120 691,ki 112 916 120 691,ki 113 918 120 691,ki 114 920 120 691,ki 115 922 120 691,ki 116 924 120 691,ki 117 926 120 691,ki 118 928 120 691,ki 119 930 120 691,ki 120 932 120 691,ki 121 934 120 691,ki 122 936 120 691,ki 123 938 40 971,ki 124 940 120 691,ki 125 942 120 691,ki 126 944 120 691,ki 127 946 120 691] 128),#[]⟩
noncomputable def o80:Obj:=⟨(.type "str_ascii_iterator"),none,(.fields #[.none,(.int 3 0)]),#[]⟩
def o81:Obj:=⟨(.type "code"),none,(.fields #[(sv "<genexpr>" 950),(sv "<genexpr>" 951),(sv "/claim/cut.py" 952),(.int 18 0),(.int 1 0),(.int 0 0),(.int 0 0),(.int 35 0),(.ref 90),(.bool true),(.int 276 0),(.ref 91),.none,.none,.none,.none,(.int 953 0),(.int 18 0),(sv "/claim/cut.py" 954)]),#[]⟩
def o82 (P:Params):Obj:=⟨(.type "frame"),none,(.dict #[kv P ".0" 955 (.ref 89),kv P "c" 962 (sv "[" 973)] 2),#[]⟩
def o83:Obj:=⟨(.type "generator"),none,(.fields #[(.int 0 0),(sv "<genexpr>" 956),(sv "<genexpr>" 957)]),#[]⟩
def o84:Obj:=⟨(.type "tuple"),none,(.seq #[(sv "'generator' object has no attribute 'keys'" 959)] 0),#[]⟩
def o85:Obj:=⟨(.type "AttributeError"),none,(.fields #[(.ref 95),.none,.none,.none,(.bool false),.none,(sv "keys" 960),(.ref 94)]),#[]⟩
noncomputable def o86:Obj:=⟨(.type "tuple"),none,(.seq #[(.int 40 963),(.int 40 965)] 0),#[]⟩
noncomputable def o87:Obj:=⟨(.type "tuple"),none,(.seq #[(.int 123 969),(.int 40 971)] 0),#[]⟩
noncomputable def o88:Obj:=⟨(.type "tuple"),none,(.seq #[(.int 91 975),(.int 40 977)] 0),#[]⟩
noncomputable def o89:Obj:=⟨(.type "StopIteration"),none,(.fields #[(.ref 100),.none,.none,.none,(.bool false),.none]),#[]⟩
noncomputable def o90:Obj:=⟨(.type "StopIteration"),none,(.fields #[(.ref 102),.none,.none,.none,(.bool false),.none]),#[]⟩
def tS6 (P:Params):BT:=(N (o0 P) (N (o1 P) (N (o72 P) (N o7 (N o7 (N o29 (lf (o58 P)) (lf o84)) (N o42 (lf o69) O)) (N o22 (N o36 (lf o7) (lf o90)) (N o49 (lf o7) O))) (N (o27 P) (N o18 (N o7 (lf o61) (lf o88)) (N o37 (lf o74) O)) (N o26 (N o39 (lf o7) O) (N o52 (lf o8) O)))) (N o5 (N o9 (N o16 (N o8 (lf o59) (lf o86)) (N o44 (lf o71) O)) (N o24 (N o37 (lf o64) O) (N o50 (lf o80) O))) (N (o13 P) (N (o20 P) (N o34 (lf o8) (lf o89)) (N o46 (lf o79) O)) (N o78 (N o6 (lf o67) O) (N o56 (lf (o82 P)) O))))) (N (o2 P) (N o4 (N o8 (N o15 (N o7 (lf o7) (lf o85)) (N o43 (lf o70) O)) (N o23 (N o6 (lf o63) O) (N o7 (lf o77) O))) (N o12 (N (o19 P) (N o33 (lf o7) (lf o7)) (N o45 (lf o6) O)) (N o7 (N o41 (lf (o66 P)) O) (N o53 (lf o81) O)))) (N o6 (N o10 (N o17 (N o32 (lf o60) (lf o87)) (N o6 (lf o73) O)) (N o25 (N o38 (lf o65) O) (N o51 (lf o7) O))) (N o14 (N o21 (N o35 (lf o62) (lf o7)) (N o48 (lf o76) O)) (N o28 (N o37 (lf o68) O) (N o57 (lf o83) O))))))
def S6 (w:World)(os:OsState):SharedT:=⟨tS6 w.params,104,{},Array.mk [.finished],⟨0,0,0,0⟩,979,os⟩
noncomputable def o91:Obj:=⟨.none,none,(.fields #[(.int 2 0),(.int 0 0),(.ref 37),(.int 13 0),(.int 0 0),(.ref 66),(.int 18 0),(.int 13 0),(.ref 92),(.int 19 0),(.int 13 0),(.ref 107)]),#[]⟩
def o92:Obj:=⟨(.ref 77),(some 84),(.dict #[ki 0 692 120 691,ki 1 694 120 691,ki 2 696 120 691,ki 3 698 120 691,ki 4 700 120 691,ki 5 702 120 691,ki 6 704 120 691,ki 7 706 120 691,ki 8 708 120 691,ki 9 710 120 691,ki 10 712 120 691,ki 11 714 120 691,ki 12 716 120 691,ki 13 718 120 691,ki 14 720 120 691,ki 15 722 120 691,ki 16 724 120 691,ki 17 726 120 691,ki 18 728 120 691,ki 19 730 120 691,ki 20 732 120 691,ki 21 734 120 691,ki 22 736 120 691,ki 23 738 120 691,ki 24 740 120 691,ki 25 742 120 691,ki 26 744 120 691,ki 27 746 120 691,ki 28 748 120 691,ki 29 750 120 691,ki 30 752 120 691,ki 31 754 120 691,ki 32 756 120 691,ki 33 758 120 691,ki 34 760 120 691,ki 35 762 120 691,ki 36 764 120 691,ki 37 766 120 691,ki 38 768 120 691,ki 39 770 120 691,ki 40 772 40 965,ki 41 774 41 995,ki 42 776 120 691,ki 43 778 120 691,ki 44 780 120 691,ki 45 782 120 691,ki 46 784 120 691,ki 47 786 120 691,ki 48 788 120 691,ki 49 790 120 691,ki 50 792 120 691,ki 51 794 120 691,ki 52 796 120 691,ki 53 798 120 691,ki 54 800 120 691,ki 55 802 120 691,ki 56 804 120 691,ki 57 806 120 691,ki 58 808 120 691,ki 59 810 120 691,ki 60 812 120 691,ki 61 814 120 691,ki 62 816 120 691,ki 63 818 120 691,ki 64 820 120 691,ki 65 822 120 691,ki 66 824 120 691,ki 67 826 120 691,ki 68 828 120 691,ki 69 830 120 691,ki 70 832 120 691,ki 71 834 120 691,ki 72 836 120 691,ki 73 838 120 691,ki 74 840 120 691,ki 75 842 120 691,ki 76 844 120 691,ki 77 846 120 691,ki 78 848 120 691,ki 79 850 120 691,ki 80 852 120 691,ki 81 854 120 691,ki 82 856 120 691,ki 83 858 120 691,ki 84 860 120 691,ki 85 862 120 691,ki 86 864 120 691,ki 87 866 120 691,ki 88 868 120 691,ki 89 870 120 691,ki 90 872 120 691,ki 91 874 40 977,ki 92 876 120 691,ki 93 878 41 1007,ki 94 880 120 691,ki 95 882 120 691,ki 96 884 120 691,ki 97 886 120 691,ki 98 888 120 691,ki 99 890 120 691,ki 100 892 120 691,ki 101 894 120 691,ki 102 896 120 691,ki 103 898 120 691,ki 104 900 120 691,ki 105 902 120 691,ki 106 904 120 691,ki 107 906 120 691,ki 108 908 120 691,ki 109 910 120 691,ki 110 912 120 691,ki 111 914 120 691,ki 112 916 120 691,ki 113 918 120 691,ki 114 920 120 691,ki 115 922 120 691,ki 116 924 120 691,ki 117 926 120 691,ki 118 928 120 691,ki 119 930 120 691,ki 120 932 120 691,ki 121 934 120 691,ki 122 936 120 691,ki 123 938 40 971,ki 124 940 120 691,ki 125 942 41 1001,ki 126 944 120 691,ki 127 946 120 691] 128),#[]⟩
def o93:Obj:=⟨(.type "code"),none,(.fields #[(sv "<genexpr>" 980),(sv "<genexpr>" 981),(sv "/claim/cut.py" 982),(.int 19 0),(.int 1 0),(.int 0 0),(.int 0 0),(.int 35 0),(.ref 105),(.bool true),(.int 276 0),(.ref 106),.none,.none,.none,.none,(.int 983 0),(.int 19 0),(sv "/claim/cut.py" 984)]),#[]⟩
def o94 (P:Params):Obj:=⟨(.type "frame"),none,(.dict #[kv P ".0" 985 (.ref 104),kv P "c" 992 (sv "]" 1003)] 2),#[]⟩
def o95:Obj:=⟨(.type "generator"),none,(.fields #[(.int 1 0),(sv "<genexpr>" 986),(sv "<genexpr>" 987)]),#[]⟩
def o96:Obj:=⟨(.type "tuple"),none,(.seq #[(sv "'generator' object has no attribute 'keys'" 989)] 0),#[]⟩
def o97:Obj:=⟨(.type "AttributeError"),none,(.fields #[(.ref 110),.none,.none,.none,(.bool false),.none,(sv "keys" 990),(.ref 109)]),#[]⟩
noncomputable def o98:Obj:=⟨(.type "tuple"),none,(.seq #[(.int 41 993),(.int 41 995)] 0),#[]⟩
noncomputable def o99:Obj:=⟨(.type "tuple"),none,(.seq #[(.int 125 999),(.int 41 1001)] 0),#[]⟩
noncomputable def o100:Obj:=⟨(.type "tuple"),none,(.seq #[(.int 93 1005),(.int 41 1007)] 0),#[]⟩
noncomputable def o101:Obj:=⟨(.type "StopIteration"),none,(.fields #[(.ref 115),.none,.none,.none,(.bool false),.none]),#[]⟩
noncomputable def o102:Obj:=⟨(.type "StopIteration"),none,(.fields #[(.ref 117),.none,.none,.none,(.bool false),.none]),#[]⟩
def tS7 (P:Params):BT:=(N (o0 P) (N (o1 P) (N (o72 P) (N o7 (N o7 (N o29 (lf (o58 P)) (lf o84)) (N o42 (lf o69) (lf o97))) (N o22 (N o36 (lf o7) (lf o90)) (N o49 (lf o7) O))) (N (o27 P) (N o18 (N o7 (lf o61) (lf o88)) (N o37 (lf o74) (lf o7))) (N o26 (N o39 (lf o7) (lf o93)) (N o52 (lf o8) O)))) (N o5 (N o9 (N o16 (N o8 (lf o59) (lf o86)) (N o44 (lf o71) (lf o99))) (N o24 (N o37 (lf o64) (lf o7)) (N o50 (lf o80) O))) (N (o13 P) (N (o20 P) (N o34 (lf o8) (lf o89)) (N o46 (lf o92) (lf o7))) (N o91 (N o6 (lf o67) (lf o95)) (N o56 (lf (o82 P)) O))))) (N (o2 P) (N o4 (N o8 (N o15 (N o7 (lf o7) (lf o85)) (N o43 (lf o70) (lf o98))) (N o23 (N o6 (lf o63) (lf o80)) (N o7 (lf o77) O))) (N o12 (N (o19 P) (N o33 (lf o7) (lf o7)) (N o45 (lf o6) (lf o101))) (N o7 (N o41 (lf (o66 P)) (lf (o94 P))) (N o53 (lf o81) O)))) (N o6 (N o10 (N o17 (N o32 (lf o60) (lf o87)) (N o6 (lf o73) (lf o100))) (N o25 (N o38 (lf o65) (lf o8)) (N o51 (lf o7) O))) (N o14 (N o21 (N o35 (lf o62) (lf o7)) (N o48 (lf o76) (lf o102))) (N o28 (N o37 (lf o68) (lf o96)) (N o57 (lf o83) O))))))
def S7 (w:World)(os:OsState):SharedT:=⟨tS7 w.params,119,{},Array.mk [.finished,.finished],⟨0,0,0,0⟩,1009,os⟩
noncomputable def o103:Obj:=⟨.none,none,(.fields #[(.int 2 0),(.int 0 0),(.ref 37),(.int 13 0),(.int 0 0),(.ref 66),(.int 18 0),(.int 13 0),(.ref 92),(.int 19 0),(.int 13 0),(.ref 107),(.int 20 0),(.int 13 0),(.ref 122)]),#[]⟩
def o104:Obj:=⟨(.ref 77),(some 84),(.dict #[ki 0 692 120 691,ki 1 694 120 691,ki 2 696 120 691,ki 3 698 120 691,ki 4 700 120 691,ki 5 702 120 691,ki 6 704 120 691,ki 7 706 120 691,ki 8 708 120 691,ki 9 710 120 691,ki 10 712 10 1039,ki 11 714 120 691,ki 12 716 120 691,ki 13 718 120 691,ki 14 720 120 691,ki 15 722 120 691,ki 16 724 120 691,ki 17 726 120 691,ki 18 728 120 691,ki 19 730 120 691,ki 20 732 120 691,ki 21 734 120 691,ki 22 736 120 691,ki 23 738 120 691,ki 24 740 120 691,ki 25 742 120 691,ki 26 744 120 691,ki 27 746 120 691,ki 28 748 120 691,ki 29 750 120 691,ki 30 752 120 691,ki 31 754 120 691,ki 32 756 120 691,ki 33 758 120 691,ki 34 760 34 1024,ki 35 762 35 1044,ki 36 764 120 691,ki 37 766 120 691,ki 38 768 120 691,ki 39 770 39 1029,ki 40 772 40 965,ki 41 774 41 995,ki 42 776 120 691,ki 43 778 120 691,ki 44 780 120 691,ki 45 782 120 691,ki 46 784 120 691,ki 47 786 120 691,ki 48 788 120 691,ki 49 790 120 691,ki 50 792 120 691,ki 51 794 120 691,ki 52 796 120 691,ki 53 798 120 691,ki 54 800 120 691,ki 55 802 120 691,ki 56 804 120 691,ki 57 806 120 691,ki 58 808 120 691,ki 59 810 120 691,ki 60 812 120 691,ki 61 814 120 691,ki 62 816 120 691,ki 63 818 120 691,ki 64 820 120 691,ki 65 822 120 691,ki 66 824 120 691,ki 67 826 120 691,ki 68 828 120 691,ki 69 830 120 691,ki 70 832 120 691,ki 71 834 120 691,ki 72 836 120 691,ki 73 838 120 691,ki 74 840 120 691,ki 75 842 120 691,ki 76 844 120 691,ki 77 846 120 691,ki 78 848 120 691,ki 79 850 120 691,ki 80 852 120 691,ki 81 854 120 691,ki 82 856 120 691,ki 83 858 120 691,ki 84 860 120 691,ki 85 862 120 691,ki 86 864 120 691,ki 87 866 120 691,ki 88 868 120 691,ki 89 870 120 691,ki 90 872 120 691,ki 91 874 40 977,ki 92 876 92 1034,ki 93 878 41 1007,ki 94 880 120 691,ki 95 882 120 691,ki 96 884 120 691,ki 97 886 120 691,ki 98 888 120 691,ki 99 890 120 691,ki 100 892 120 691,ki 101 894 120 691,ki 102 896 120 691,ki 103 898 120 691,ki 104 900 120 691,ki 105 902 120 691,ki 106 904 120 691,ki 107 906 120 691,ki 108 908 120 691,ki 109 910 120 691,ki 110 912 120 691,ki 111 914 120 691,ki 112 916 120 691,ki 113 918 120 691,ki 114 920 120 691,ki 115 922 120 691,ki 116 924 120 691,ki 117 926 120 691,ki 118 928 120 691,ki 119 930 120 691,ki 120 932 120 691,ki 121 934 120 691,ki 122 936 120 691,ki 123 938 40 971,ki 124 940 120 691,ki 125 942 41 1001,ki 126 944 120 691,ki 127 946 120 691] 128),#[]⟩
noncomputable def o105:Obj:=⟨(.type "str_ascii_iterator"),none,(.fields #[.none,(.int 5 0)]),#[]⟩
def o106:Obj:=⟨(.type "code"),none,(.fields #[(sv "<genexpr>" 1010),(sv "<genexpr>" 1011),(sv "/claim/cut.py" 1012),(.int 20 0),(.int 1 0),(.int 0 0),(.int 0 0),(.int 35 0),(.ref 120),(.bool true),(.int 276 0),(.ref 121),.none,.none,.none,.none,(.int 1013 0),(.int 20 0),(sv "/claim/cut.py" 1014)]),#[]⟩
def o107 (P:Params):Obj:=⟨(.type "frame"),none,(.dict #[kv P ".0" 1015 (.ref 119),kv P "c" 1022 (sv "#" 1041)] 2),#[]⟩
def o108:Obj:=⟨(.type "generator"),none,(.fields #[(.int 2 0),(sv "<genexpr>" 1016),(sv "<genexpr>" 1017)]),#[]⟩
def o109:Obj:=⟨(.type "tuple"),none,(.seq #[(sv "'generator' object has no attribute 'keys'" 1019)] 0),#[]⟩
def o110:Obj:=⟨(.type "AttributeError"),none,(.fields #[(.ref 125),.none,.none,.none,(.bool false),.none,(sv "keys" 1020),(.ref 124)]),#[]⟩
noncomputable def o111:Obj:=⟨(.type "tuple"),none,(.seq #[(.int 34 1023),(.int 34 1024)] 0),#[]⟩
noncomputable def o112:Obj:=⟨(.type "tuple"),none,(.seq #[(.int 39 1028),(.int 39 1029)] 0),#[]⟩
noncomputable def o113:Obj:=⟨(.type "tuple"),none,(.seq #[(.int 92 1033),(.int 92 1034)] 0),#[]⟩
noncomputable def o114:Obj:=⟨(.type "tuple"),none,(.seq #[(.int 10 1038),(.int 10 1039)] 0),#[]⟩
noncomputable def o115:Obj:=⟨(.type "tuple"),none,(.seq #[(.int 35 1043),(.int 35 1044)] 0),#[]⟩
noncomputable def o116:Obj:=⟨(.type "StopIteration"),none,(.fields #[(.ref 132),.none,.none,.none,(.bool false),.none]),#[]⟩
noncomputable def o117:Obj:=⟨(.type "StopIteration"),none,(.fields #[(.ref 134),.none,.none,.none,(.bool false),.none]),#[]⟩
def tS8 (P:Params):BT:=(N (o0 P) (N (o1 P) (N (o72 P) (N o7 (N o7 (N o29 (N (o58 P) (lf o111) O) (lf o84)) (N o42 (lf o69) (lf o97))) (N o22 (N o36 (N o7 (lf o117) O) (lf o90)) (N o49 (lf o7) (lf o105)))) (N (o27 P) (N o18 (N o7 (N o61 (lf o115) O) (lf o88)) (N o37 (lf o74) (lf o7))) (N o26 (N o39 (lf o7) (lf o93)) (N o52 (lf o8) (lf (o107 P)))))) (N o5 (N o9 (N o16 (N o8 (N o59 (lf o113) O) (lf o86)) (N o44 (lf o71) (lf o99))) (N o24 (N o37 (lf o64) (lf o7)) (N o50 (lf o80) (lf o8)))) (N (o13 P) (N (o20 P) (N o34 (N o8 (lf o116) O) (lf o89)) (N o46 (lf o104) (lf o7))) (N o103 (N o6 (lf o67) (lf o95)) (N o56 (lf (o82 P)) (lf o109)))))) (N (o2 P) (N o4 (N o8 (N o15 (N o7 (N o7 (lf o112) O) (lf o85)) (N o43 (lf o70) (lf o98))) (N o23 (N o6 (lf o63) (lf o80)) (N o7 (lf o77) (lf o7)))) (N o12 (N (o19 P) (N o33 (N o7 (lf o7) O) (lf o7)) (N o45 (lf o6) (lf o101))) (N o7 (N o41 (lf (o66 P)) (lf (o94 P))) (N o53 (lf o81) (lf o108))))) (N o6 (N o10 (N o17 (N o32 (N o60 (lf o114) O) (lf o87)) (N o6 (lf o73) (lf o100))) (N o25 (N o38 (lf o65) (lf o8)) (N o51 (lf o7) (lf o106)))) (N o14 (N o21 (N o35 (N o62 (lf o7) O) (lf o7)) (N o48 (lf o76) (lf o102))) (N o28 (N o37 (lf o68) (lf o96)) (N o57 (lf o83) (lf o110)))))))
def S8 (w:World)(os:OsState):SharedT:=⟨tS8 w.params,136,{},Array.mk [.finished,.finished,.finished],⟨0,0,0,0⟩,1046,os⟩
def o118 (P:Params):Obj:=⟨(.type "dict"),none,(.dict #[kv P "__name__" 165 (sv "cpy313.idlelib.pyparse" 289),kv P "__doc__" 166 .none,kv P "__package__" 167 .none,kv P "__loader__" 168 (.builtin "__main__.__loader__#opaque"),kv P "__spec__" 169 .none,kv P "__annotations__" 170 (.ref 6),kv P "__builtins__" 171 (.ref 4),kv P "__file__" 173 (sv "/claim/cut.py" 172),kv P "__cached__" 174 .none,kv P "_sre" 275 (.ref 12),kv P "_wall" 288 (.ref 38),kv P "_twin_re_2" 334 (.ref 43),kv P "_twin_re_3" 609 (.ref 48),kv P "_twin_re_6" 639 (.ref 53),kv P "C_NONE" 648 (.int 0 643),kv P "C_BACKSLASH" 649 (.int 1 644),kv P "C_STRING_FIRST_LINE" 650 (.int 2 645),kv P "C_STRING_NEXT_LINES" 651 (.int 3 646),kv P "C_BRACKET" 652 (.int 4 647),kv P "_junkre" 654 (.ref 58),kv P "_match_stringre" 656 (.ref 59),kv P "_chew_ordinaryre" 658 (.ref 60),kv P "ParseMap" 686 (.ref 77),kv P "trans" 948 (.ref 85),kv P "Parser" 1204 (.ref 243)] 25),#[]⟩
noncomputable def o119:Obj:=⟨.none,none,(.fields #[(.int 2 0),(.int 0 0),(.ref 37),(.int 13 0),(.int 0 0),(.ref 66),(.int 18 0),(.int 13 0),(.ref 92),(.int 19 0),(.int 13 0),(.ref 107),(.int 20 0),(.int 13 0),(.ref 122),(.int 21 0),(.int 0 0),(.ref 141)]),#[]⟩
def o120 (P:Params):Obj:=⟨(.type "dict"),none,(.dict #[kv P "__module__" 1053 (sv "cpy313.idlelib.pyparse" 289),kv P "__qualname__" 1055 (sv "Parser" 1054),kv P "__firstlineno__" 1057 (.int 21 1056),kv P "__init__" 1066 (.ref 149),kv P "set_code" 1074 (.ref 156),kv P "find_good_parse_start" 1082 (.ref 163),kv P "set_lo" 1090 (.ref 170),kv P "_study1" 1109 (.ref 177),kv P "get_continuation_type" 1116 (.ref 184),kv P "_study2" 1136 (.ref 191),kv P "compute_bracket_indent" 1143 (.ref 198),kv P "get_num_lines_in_stmt" 1150 (.ref 205),kv P "compute_backslash_indent" 1157 (.ref 212),kv P "get_base_indent_string" 1164 (.ref 219),kv P "is_block_opener" 1171 (.ref 226),kv P "is_block_closer" 1178 (.ref 233),kv P "get_last_stmt_bracketing" 1185 (.ref 240),kv P "__static_attributes__" 1197 (.ref 241)] 18),#[]⟩
noncomputable def o121:Obj:=⟨.none,none,(.fields #[(.int 23 0),(.int 4 0),(.ref 148),(.int 27 0),(.int 4 0),(.ref 155),(.int 32 0),(.int 4 0),(.ref 162),(.int 35 0),(.int 4 0),(.ref 169),(.int 38 0),(.int 4 0),(.ref 176),(.int 123 0),(.int 4 0),(.ref 183),(.int 126 0),(.int 4 0),(.ref 190),(.int 199 0),(.int 4 0),(.ref 197),(.int 202 0),(.int 4 0),(.ref 204),(.int 205 0),(.int 4 0),(.ref 211),(.int 208 0),(.int 4 0),(.ref 218),(.int 211 0),(.int 4 0),(.ref 225),(.int 214 0),(.int 4 0),(.ref 232),(.int 217 0),(.int 4 0),(.ref 239)]),#[]⟩
def o122:Obj:=⟨(.type "code"),none,(.fields #[(sv "Parser" 1048),(sv "Parser" 1049),(sv "/claim/cut.py" 1050),(.int 21 0),(.int 0 0),(.int 0 0),(.int 0 0),(.int 0 0),(.ref 139),(.bool false),(.int 276 0),(.ref 140),.none,.none,.none,.none,(.int 1051 0),(.int 21 0),(sv "/claim/cut.py" 1052)]),#[]⟩
def o123:Obj:=⟨(.type "frame"),none,.plain,#[(some (.ref 141)),(some (.ref 3)),(some (.ref 138)),none,(some (sv "cpy313.idlelib.pyparse" 289)),none,(some (.ref 0))]⟩
def o124:Obj:=⟨(.type "tuple"),none,(.seq #[(sv "self" 1061),(sv "indentwidth" 1062),(sv "tabwidth" 1063)] 0),#[]⟩
def o125:Obj:=⟨.none,none,(.func ⟨(Qq "__init__"),(Qq "Parser.__init__"),(aT (mb 0)),(.stmts (aK (mb 0))),(aA (mb 0)),0,[],.none,.none,.none,.none,none,.none,.none,0⟩),#[]⟩
def o126:Obj:=⟨(.type "code"),none,(.fields #[(sv "__init__" 1058),(sv "Parser.__init__" 1059),(sv "/claim/cut.py" 1060),(.int 23 0),(.int 3 0),(.int 0 0),(.int 0 0),(.int 3 0),(.ref 143),(.bool true),(.int 276 0),(.ref 144),.none,(.ref 145),(.ref 146),(.ref 147),(.int 1064 0),(.int 23 0),(sv "/claim/cut.py" 1065)]),#[]⟩
def o127:Obj:=⟨(.type "function"),none,(.func ⟨(Qq "__init__"),(Qq "Parser.__init__"),(aT (mb 0)),(.stmts (aK (mb 0))),(aA (mb 0)),3,[],.none,.none,.none,(sv "cpy313.idlelib.pyparse" 289),none,(.ref 148),.none,0⟩),#[]⟩
def o128:Obj:=⟨(.type "tuple"),none,(.seq #[(sv "self" 1070),(sv "s" 1071)] 0),#[]⟩
def o129:Obj:=⟨.none,none,(.func ⟨(Qq "set_code"),(Qq "Parser.set_code"),(aT (mb 1)),(.stmts (aK (mb 1))),(aA (mb 1)),0,[],.none,.none,.none,.none,none,.none,.none,0⟩),#[]⟩
def o130:Obj:=⟨(.type "code"),none,(.fields #[(sv "set_code" 1067),(sv "Parser.set_code" 1068),(sv "/claim/cut.py" 1069),(.int 27 0),(.int 2 0),(.int 0 0),(.int 0 0),(.int 3 0),(.ref 150),(.bool true),(.int 276 0),(.ref 151),.none,(.ref 152),(.ref 153),(.ref 154),(.int 1072 0),(.int 27 0),(sv "/claim/cut.py" 1073)]),#[]⟩
def o131:Obj:=⟨(.type "function"),none,(.func ⟨(Qq "set_code"),(Qq "Parser.set_code"),(aT (mb 1)),(.stmts (aK (mb 1))),(aA (mb 1)),3,[],.none,.none,.none,(sv "cpy313.idlelib.pyparse" 289),none,(.ref 155),.none,0⟩),#[]⟩
def o132:Obj:=⟨(.type "tuple"),none,(.seq #[(sv "self" 1078),(sv "is_char_in_string" 1079)] 0),#[]⟩
def o133:Obj:=⟨.none,none,(.func ⟨(Qq "find_good_parse_start"),(Qq "Parser.find_good_parse_start"),(aT (mb 2)),(.stmts (aK (mb 2))),(aA (mb 2)),0,[],.none,.none,.none,.none,none,.none,.none,0⟩),#[]⟩
def o134:Obj:=⟨(.type "code"),none,(.fields #[(sv "find_good_parse_start" 1075),(sv "Parser.find_good_parse_start" 1076),(sv "/claim/cut.py" 1077),(.int 32 0),(.int 2 0),(.int 0 0),(.int 0 0),(.int 3 0),(.ref 157),(.bool true),(.int 276 0),(.ref 158),.none,(.ref 159),(.ref 160),(.ref 161),(.int 1080 0),(.int 32 0),(sv "/claim/cut.py" 1081)]),#[]⟩
def o135:Obj:=⟨(.type "function"),none,(.func ⟨(Qq "find_good_parse_start"),(Qq "Parser.find_good_parse_start"),(aT (mb 2)),(.stmts (aK (mb 2))),(aA (mb 2)),3,[],.none,.none,.none,(sv "cpy313.idlelib.pyparse" 289),none,(.ref 162),.none,0⟩),#[]⟩
def o136:Obj:=⟨(.type "tuple"),none,(.seq #[(sv "self" 1086),(sv "lo" 1087)] 0),#[]⟩
def o137:Obj:=⟨.none,none,(.func ⟨(Qq "set_lo"),(Qq "Parser.set_lo"),(aT (mb 3)),(.stmts (aK (mb 3))),(aA (mb 3)),0,[],.none,.none,.none,.none,none,.none,.none,0⟩),#[]⟩
def o138:Obj:=⟨(.type "code"),none,(.fields #[(sv "set_lo" 1083),(sv "Parser.set_lo" 1084),(sv "/claim/cut.py" 1085),(.int 35 0),(.int 2 0),(.int 0 0),(.int 0 0),(.int 3 0),(.ref 164),(.bool true),(.int 276 0),(.ref 165),.none,(.ref 166),(.ref 167),(.ref 168),(.int 1088 0),(.int 35 0),(sv "/claim/cut.py" 1089)]),#[]⟩
def o139:Obj:=⟨(.type "function"),none,(.func ⟨(Qq "set_lo"),(Qq "Parser.set_lo"),(aT (mb 3)),(.stmts (aK (mb 3))),(aA (mb 3)),3,[],.none,.none,.none,(sv "cpy313.idlelib.pyparse" 289),none,(.ref 169),.none,0⟩),#[]⟩
def o140:Obj:=⟨(.type "tuple"),none,(.seq #[(sv "self" 1094),(sv "code" 1095),(sv "continuation" 1096),(sv "level" 1097),(sv "lno" 1098),(sv "goodlines" 1099),(sv "push_good" 1100),(sv "i" 1101),(sv "n" 1102),(sv "ch" 1103),(sv "quote" 1104),(sv "firstlno" 1105),(sv "w" 1106)] 0),#[]⟩
def o141:Obj:=⟨.none,none,(.func ⟨(Qq "_study1"),(Qq "Parser._study1"),(aT (mb 4)),(.stmts (aK (mb 4))),(aA (mb 4)),0,[],.none,.none,.none,.none,none,.none,.none,0⟩),#[]⟩
def o142:Obj:=⟨(.type "code"),none,(.fields #[(sv "_study1" 1091),(sv "Parser._study1" 1092),(sv "/claim/cut.py" 1093),(.int 38 0),(.int 1 0),(.int 0 0),(.int 0 0),(.int 3 0),(.ref 171),(.bool true),(.int 276 0),(.ref 172),.none,(.ref 173),(.ref 174),(.ref 175),(.int 1107 0),(.int 38 0),(sv "/claim/cut.py" 1108)]),#[]⟩
def o143:Obj:=⟨(.type "function"),none,(.func ⟨(Qq "_study1"),(Qq "Parser._study1"),(aT (mb 4)),(.stmts (aK (mb 4))),(aA (mb 4)),3,[],.none,.none,.none,(sv "cpy313.idlelib.pyparse" 289),none,(.ref 176),.none,0⟩),#[]⟩
def o144:Obj:=⟨(.type "tuple"),none,(.seq #[(sv "self" 1113)] 0),#[]⟩
def o145:Obj:=⟨.none,none,(.func ⟨(Qq "get_continuation_type"),(Qq "Parser.get_continuation_type"),(aT (mb 5)),(.stmts (aK (mb 5))),(aA (mb 5)),0,[],.none,.none,.none,.none,none,.none,.none,0⟩),#[]⟩
def o146:Obj:=⟨(.type "code"),none,(.fields #[(sv "get_continuation_type" 1110),(sv "Parser.get_continuation_type" 1111),(sv "/claim/cut.py" 1112),(.int 123 0),(.int 1 0),(.int 0 0),(.int 0 0),(.int 3 0),(.ref 178),(.bool true),(.int 276 0),(.ref 179),.none,(.ref 180),(.ref 181),(.ref 182),(.int 1114 0),(.int 123 0),(sv "/claim/cut.py" 1115)]),#[]⟩
def o147:Obj:=⟨(.type "function"),none,(.func ⟨(Qq "get_continuation_type"),(Qq "Parser.get_continuation_type"),(aT (mb 5)),(.stmts (aK (mb 5))),(aA (mb 5)),3,[],.none,.none,.none,(sv "cpy313.idlelib.pyparse" 289),none,(.ref 183),.none,0⟩),#[]⟩
def o148:Obj:=⟨(.type "tuple"),none,(.seq #[(sv "self" 1120),(sv "code" 1121),(sv "goodlines" 1122),(sv "i" 1123),(sv "p" 1124),(sv "q" 1125),(sv "nothing" 1126),(sv "lastch" 1127),(sv "stack" 1128),(sv "push_stack" 1129),(sv "bracketing" 1130),(sv "m" 1131),(sv "newp" 1132),(sv "ch" 1133)] 0),#[]⟩
def o149:Obj:=⟨.none,none,(.func ⟨(Qq "_study2"),(Qq "Parser._study2"),(aT (mb 6)),(.stmts (aK (mb 6))),(aA (mb 6)),0,[],.none,.none,.none,.none,none,.none,.none,0⟩),#[]⟩
def o150:Obj:=⟨(.type "code"),none,(.fields #[(sv "_study2" 1117),(sv "Parser._study2" 1118),(sv "/claim/cut.py" 1119),(.int 126 0),(.int 1 0),(.int 0 0),(.int 0 0),(.int 3 0),(.ref 185),(.bool true),(.int 276 0),(.ref 186),.none,(.ref 187),(.ref 188),(.ref 189),(.int 1134 0),(.int 126 0),(sv "/claim/cut.py" 1135)]),#[]⟩
def o151:Obj:=⟨(.type "function"),none,(.func ⟨(Qq "_study2"),(Qq "Parser._study2"),(aT (mb 6)),(.stmts (aK (mb 6))),(aA (mb 6)),3,[],.none,.none,.none,(sv "cpy313.idlelib.pyparse" 289),none,(.ref 190),.none,0⟩),#[]⟩
def o152:Obj:=⟨(.type "tuple"),none,(.seq #[(sv "self" 1140)] 0),#[]⟩
def o153:Obj:=⟨.none,none,(.func ⟨(Qq "compute_bracket_indent"),(Qq "Parser.compute_bracket_indent"),(aT (mb 7)),(.stmts (aK (mb 7))),(aA (mb 5)),0,[],.none,.none,.none,.none,none,.none,.none,0⟩),#[]⟩
def o154:Obj:=⟨(.type "code"),none,(.fields #[(sv "compute_bracket_indent" 1137),(sv "Parser.compute_bracket_indent" 1138),(sv "/claim/cut.py" 1139),(.int 199 0),(.int 1 0),(.int 0 0),(.int 0 0),(.int 3 0),(.ref 192),(.bool true),(.int 276 0),(.ref 193),.none,(.ref 194),(.ref 195),(.ref 196),(.int 1141 0),(.int 199 0),(sv "/claim/cut.py" 1142)]),#[]⟩
def o155:Obj:=⟨(.type "function"),none,(.func ⟨(Qq "compute_bracket_indent"),(Qq "Parser.compute_bracket_indent"),(aT (mb 7)),(.stmts (aK (mb 7))),(aA (mb 5)),3,[],.none,.none,.none,(sv "cpy313.idlelib.pyparse" 289),none,(.ref 197),.none,0⟩),#[]⟩
def o156:Obj:=⟨(.type "tuple"),none,(.seq #[(sv "self" 1147)] 0),#[]⟩
def o157:Obj:=⟨.none,none,(.func ⟨(Qq "get_num_lines_in_stmt"),(Qq "Parser.get_num_lines_in_stmt"),(aT (mb 8)),(.stmts (aK (mb 8))),(aA (mb 5)),0,[],.none,.none,.none,.none,none,.none,.none,0⟩),#[]⟩
def o158:Obj:=⟨(.type "code"),none,(.fields #[(sv "get_num_lines_in_stmt" 1144),(sv "Parser.get_num_lines_in_stmt" 1145),(sv "/claim/cut.py" 1146),(.int 202 0),(.int 1 0),(.int 0 0),(.int 0 0),(.int 3 0),(.ref 199),(.bool true),(.int 276 0),(.ref 200),.none,(.ref 201),(.ref 202),(.ref 203),(.int 1148 0),(.int 202 0),(sv "/claim/cut.py" 1149)]),#[]⟩
def o159:Obj:=⟨(.type "function"),none,(.func ⟨(Qq "get_num_lines_in_stmt"),(Qq "Parser.get_num_lines_in_stmt"),(aT (mb 8)),(.stmts (aK (mb 8))),(aA (mb 5)),3,[],.none,.none,.none,(sv "cpy313.idlelib.pyparse" 289),none,(.ref 204),.none,0⟩),#[]⟩
def o160:Obj:=⟨(.type "tuple"),none,(.seq #[(sv "self" 1154)] 0),#[]⟩
def o161:Obj:=⟨.none,none,(.func ⟨(Qq "compute_backslash_indent"),(Qq "Parser.compute_backslash_indent"),(aT (mb 9)),(.stmts (aK (mb 9))),(aA (mb 5)),0,[],.none,.none,.none,.none,none,.none,.none,0⟩),#[]⟩
def o162:Obj:=⟨(.type "code"),none,(.fields #[(sv "compute_backslash_indent" 1151),(sv "Parser.compute_backslash_indent" 1152),(sv "/claim/cut.py" 1153),(.int 205 0),(.int 1 0),(.int 0 0),(.int 0 0),(.int 3 0),(.ref 206),(.bool true),(.int 276 0),(.ref 207),.none,(.ref 208),(.ref 209),(.ref 210),(.int 1155 0),(.int 205 0),(sv "/claim/cut.py" 1156)]),#[]⟩
def o163:Obj:=⟨(.type "function"),none,(.func ⟨(Qq "compute_backslash_indent"),(Qq "Parser.compute_backslash_indent"),(aT (mb 9)),(.stmts (aK (mb 9))),(aA (mb 5)),3,[],.none,.none,.none,(sv "cpy313.idlelib.pyparse" 289),none,(.ref 211),.none,0⟩),#[]⟩
def o164:Obj:=⟨(.type "tuple"),none,(.seq #[(sv "self" 1161)] 0),#[]⟩
def o165:Obj:=⟨.none,none,(.func ⟨(Qq "get_base_indent_string"),(Qq "Parser.get_base_indent_string"),(aT (mb 10)),(.stmts (aK (mb 10))),(aA (mb 5)),0,[],.none,.none,.none,.none,none,.none,.none,0⟩),#[]⟩
def o166:Obj:=⟨(.type "code"),none,(.fields #[(sv "get_base_indent_string" 1158),(sv "Parser.get_base_indent_string" 1159),(sv "/claim/cut.py" 1160),(.int 208 0),(.int 1 0),(.int 0 0),(.int 0 0),(.int 3 0),(.ref 213),(.bool true),(.int 276 0),(.ref 214),.none,(.ref 215),(.ref 216),(.ref 217),(.int 1162 0),(.int 208 0),(sv "/claim/cut.py" 1163)]),#[]⟩
def o167:Obj:=⟨(.type "function"),none,(.func ⟨(Qq "get_base_indent_string"),(Qq "Parser.get_base_indent_string"),(aT (mb 10)),(.stmts (aK (mb 10))),(aA (mb 5)),3,[],.none,.none,.none,(sv "cpy313.idlelib.pyparse" 289),none,(.ref 218),.none,0⟩),#[]⟩
def o168:Obj:=⟨(.type "tuple"),none,(.seq #[(sv "self" 1168)] 0),#[]⟩
def o169:Obj:=⟨.none,none,(.func ⟨(Qq "is_block_opener"),(Qq "Parser.is_block_opener"),(aT (mb 11)),(.stmts (aK (mb 11))),(aA (mb 5)),0,[],.none,.none,.none,.none,none,.none,.none,0⟩),#[]⟩
def o170:Obj:=⟨(.type "code"),none,(.fields #[(sv "is_block_opener" 1165),(sv "Parser.is_block_opener" 1166),(sv "/claim/cut.py" 1167),(.int 211 0),(.int 1 0),(.int 0 0),(.int 0 0),(.int 3 0),(.ref 220),(.bool true),(.int 276 0),(.ref 221),.none,(.ref 222),(.ref 223),(.ref 224),(.int 1169 0),(.int 211 0),(sv "/claim/cut.py" 1170)]),#[]⟩
def o171:Obj:=⟨(.type "function"),none,(.func ⟨(Qq "is_block_opener"),(Qq "Parser.is_block_opener"),(aT (mb 11)),(.stmts (aK (mb 11))),(aA (mb 5)),3,[],.none,.none,.none,(sv "cpy313.idlelib.pyparse" 289),none,(.ref 225),.none,0⟩),#[]⟩
def o172:Obj:=⟨(.type "tuple"),none,(.seq #[(sv "self" 1175)] 0),#[]⟩
def o173:Obj:=⟨.none,none,(.func ⟨(Qq "is_block_closer"),(Qq "Parser.is_block_closer"),(aT (mb 12)),(.stmts (aK (mb 12))),(aA (mb 5)),0,[],.none,.none,.none,.none,none,.none,.none,0⟩),#[]⟩
def o174:Obj:=⟨(.type "code"),none,(.fields #[(sv "is_block_closer" 1172),(sv "Parser.is_block_closer" 1173),(sv "/claim/cut.py" 1174),(.int 214 0),(.int 1 0),(.int 0 0),(.int 0 0),(.int 3 0),(.ref 227),(.bool true),(.int 276 0),(.ref 228),.none,(.ref 229),(.ref 230),(.ref 231),(.int 1176 0),(.int 214 0),(sv "/claim/cut.py" 1177)]),#[]⟩
def o175:Obj:=⟨(.type "function"),none,(.func ⟨(Qq "is_block_closer"),(Qq "Parser.is_block_closer"),(aT (mb 12)),(.stmts (aK (mb 12))),(aA (mb 5)),3,[],.none,.none,.none,(sv "cpy313.idlelib.pyparse" 289),none,(.ref 232),.none,0⟩),#[]⟩
def o176:Obj:=⟨(.type "tuple"),none,(.seq #[(sv "self" 1182)] 0),#[]⟩
def o177:Obj:=⟨.none,none,(.func ⟨(Qq "get_last_stmt_bracketing"),(Qq "Parser.get_last_stmt_bracketing"),(aT (mb 13)),(.stmts (aK (mb 13))),(aA (mb 13)),0,[],.none,.none,.none,.none,none,.none,.none,0⟩),#[]⟩
def o178:Obj:=⟨(.type "code"),none,(.fields #[(sv "get_last_stmt_bracketing" 1179),(sv "Parser.get_last_stmt_bracketing" 1180),(sv "/claim/cut.py" 1181),(.int 217 0),(.int 1 0),(.int 0 0),(.int 0 0),(.int 3 0),(.ref 234),(.bool true),(.int 276 0),(.ref 235),.none,(.ref 236),(.ref 237),(.ref 238),(.int 1183 0),(.int 217 0),(sv "/claim/cut.py" 1184)]),#[]⟩
def o179:Obj:=⟨(.type "function"),none,(.func ⟨(Qq "get_last_stmt_bracketing"),(Qq "Parser.get_last_stmt_bracketing"),(aT (mb 13)),(.stmts (aK (mb 13))),(aA (mb 13)),3,[],.none,.none,.none,(sv "cpy313.idlelib.pyparse" 289),none,(.ref 239),.none,0⟩),#[]⟩
def o180:Obj:=⟨(.type "tuple"),none,(.seq #[(sv "code" 1186),(sv "continuation" 1187),(sv "goodlines" 1188),(sv "indentwidth" 1189),(sv "lastch" 1190),(sv "lastopenbracketpos" 1191),(sv "stmt_bracketing" 1192),(sv "stmt_end" 1193),(sv "stmt_start" 1194),(sv "study_level" 1195),(sv "tabwidth" 1196)] 0),#[]⟩
def o181 (P:Params):Obj:=⟨(.type "dict"),none,(.dict #[kv P "__module__" 1053 (sv "cpy313.idlelib.pyparse" 289),kv P "__firstlineno__" 1057 (.int 21 1056),kv P "__init__" 1066 (.ref 149),kv P "set_code" 1074 (.ref 156),kv P "find_good_parse_start" 1082 (.ref 163),kv P "set_lo" 1090 (.ref 170),kv P "_study1" 1109 (.ref 177),kv P "get_continuation_type" 1116 (.ref 184),kv P "_study2" 1136 (.ref 191),kv P "compute_bracket_indent" 1143 (.ref 198),kv P "get_num_lines_in_stmt" 1150 (.ref 205),kv P "compute_backslash_indent" 1157 (.ref 212),kv P "get_base_indent_string" 1164 (.ref 219),kv P "is_block_opener" 1171 (.ref 226),kv P "is_block_closer" 1178 (.ref 233),kv P "get_last_stmt_bracketing" 1185 (.ref 240),kv P "__static_attributes__" 1197 (.ref 241),kv P "__dict__" 1199 (.ref 244),kv P "__weakref__" 1201 (.ref 245),kv P "__doc__" 1202 .none] 4),#[]⟩
def o182:Obj:=⟨(.type "type"),none,(.cls ⟨(Qq "Parser"),[(.type "object")],[(.ref 243),(.type "object")],242,(Qq "Parser"),true,[],[],false,none,false⟩),#[none,none,(some (sv "Parser" 1046)),(some (sv "Parser" 1054)),(some (.builtin "object.__new__")),(some (.bool true))]⟩
def o183:Obj:=⟨(.type "getset_descriptor"),none,(.fields #[(sv "__dict__" 1198),(.ref 243),(.builtin "function.__dict__"),(.builtin "function.__dict__#set")]),#[]⟩
def o184:Obj:=⟨(.type "getset_descriptor"),none,(.fields #[(sv "__weakref__" 1200),(.ref 243),(.builtin "ExceptionGroup.__weakref__"),.none]),#[]⟩
noncomputable def o185:Obj:=⟨(.type "super"),none,(.fields #[(.ref 243),(.ref 243),(.ref 243)]),#[]⟩
noncomputable def o186:Obj:=⟨(.type "builtin_function_or_method"),none,(.fields #[(.builtin "object.__init_subclass__"),(.ref 243)]),#[]⟩
def tS9 (P:Params):BT:=(N (o0 P) (N (o1 P) (N (o118 P) (N o7 (N o7 (N o29 (N (o58 P) (lf o111) (lf o151)) (N o84 (lf o132) (lf o7))) (N o42 (N o69 (lf o7) (lf o8)) (N o97 (lf o141) (lf o178)))) (N o22 (N o36 (N o7 (lf o117) (lf o7)) (N o90 (lf o7) (lf o173))) (N o49 (N o7 (lf o8) (lf o164)) (N o105 (lf o146) (lf o186))))) (N (o27 P) (N o18 (N o7 (N o61 (lf o115) (lf o7)) (N o88 (lf o135) (lf o7))) (N o37 (N o74 (lf o125) (lf o162)) (N o7 (lf o8) (lf o182)))) (N o26 (N o39 (N o7 (lf o7) (lf o157)) (N o93 (lf o7) (lf o8))) (N o52 (N o8 (lf o130) (lf o167)) (N (o107 P) (lf o148) O))))) (N o5 (N o9 (N o16 (N o8 (N o59 (lf o113) (lf o8)) (N o86 (lf o133) (lf o170))) (N o44 (N o71 (lf o124) (lf o7)) (N o99 (lf o143) (lf o180)))) (N o24 (N o37 (N o64 (lf o57) (lf o156)) (N o7 (lf o138) (lf o175))) (N o50 (N o80 (lf o7) (lf o165)) (N o8 (lf o7) O)))) (N (o13 P) (N (o20 P) (N o34 (N o8 (lf o116) (lf o154)) (N o89 (lf o8) (lf o172))) (N o46 (N o104 (lf o127) (lf o7)) (N o7 (lf o7) (lf o184)))) (N o119 (N o6 (N o67 (lf o122) (lf o159)) (N o95 (lf o140) (lf o7))) (N o56 (N (o82 P) (lf o7) (lf o8)) (N o109 (lf o149) O)))))) (N (o2 P) (N o4 (N o8 (N o15 (N o7 (N o7 (lf o112) (lf o7)) (N o85 (lf o7) (lf o169))) (N o43 (N o70 (lf o8) (lf o160)) (N o98 (lf o142) (lf o179)))) (N o23 (N o6 (N o63 (lf o7) (lf o8)) (N o80 (lf o137) (lf o174))) (N o7 (N o77 (lf o128) (lf o7)) (N o7 (lf o147) O)))) (N o12 (N (o19 P) (N o33 (N o7 (lf o7) (lf o153)) (N o7 (lf o7) (lf o8))) (N o45 (N o6 (lf o126) (lf o163)) (N o101 (lf o144) (lf o183)))) (N o7 (N o41 (N (o66 P) (lf o121) (lf o158)) (N (o94 P) (lf o8) (lf o176))) (N o53 (N o81 (lf o131) (lf o7)) (N o108 (lf o7) O))))) (N o6 (N o10 (N o17 (N o32 (N o60 (lf o114) (lf o152)) (N o87 (lf o134) (lf o171))) (N o6 (N o73 (lf o7) (lf o161)) (N o100 (lf o7) (lf (o181 P))))) (N o25 (N o38 (N o65 (lf (o120 P)) (lf o7)) (N o8 (lf o139) (lf o7))) (N o51 (N o7 (lf o129) (lf o166)) (N o106 (lf o8) O)))) (N o14 (N o21 (N o35 (N o62 (lf o7) (lf o155)) (N o7 (lf o136) (lf o7))) (N o48 (N o76 (lf o7) (lf o8)) (N o102 (lf o145) (lf o185)))) (N o28 (N o37 (N o68 (lf o123) (lf o7)) (N o96 (lf o7) (lf o177))) (N o57 (N o83 (lf o8) (lf o168)) (N o110 (lf o150) O)))))))
def S9 (w:World)(os:OsState):SharedT:=⟨tS9 w.params,248,{},Array.mk [.finished,.finished,.finished],⟨0,0,0,0⟩,1205,os⟩
def o187 (P:Params):Obj:=⟨(.type "dict"),none,(.dict #[kv P "__name__" 165 (sv "law_dm0168_02" 1205),kv P "__doc__" 166 .none,kv P "__package__" 167 .none,kv P "__loader__" 168 (.builtin "__main__.__loader__#opaque"),kv P "__spec__" 169 .none,kv P "__annotations__" 170 (.ref 6),kv P "__builtins__" 171 (.ref 4),kv P "__file__" 173 (sv "/claim/cut.py" 172),kv P "__cached__" 174 .none,kv P "_sre" 275 (.ref 12),kv P "_wall" 288 (.ref 38),kv P "_twin_re_2" 334 (.ref 43),kv P "_twin_re_3" 609 (.ref 48),kv P "_twin_re_6" 639 (.ref 53),kv P "C_NONE" 648 (.int 0 643),kv P "C_BACKSLASH" 649 (.int 1 644),kv P "C_STRING_FIRST_LINE" 650 (.int 2 645),kv P "C_STRING_NEXT_LINES" 651 (.int 3 646),kv P "C_BRACKET" 652 (.int 4 647),kv P "_junkre" 654 (.ref 58),kv P "_match_stringre" 656 (.ref 59),kv P "_chew_ordinaryre" 658 (.ref 60),kv P "ParseMap" 686 (.ref 77),kv P "trans" 948 (.ref 85),kv P "Parser" 1204 (.ref 243),kv P "_law_draw" 1214 (.ref 254),kv P "law" 1220 (.ref 259)] 27),#[]⟩
noncomputable def o188:Obj:=⟨.none,none,(.fields #[(.int 2 0),(.int 0 0),(.ref 37),(.int 13 0),(.int 0 0),(.ref 66),(.int 18 0),(.int 13 0),(.ref 92),(.int 19 0),(.int 13 0),(.ref 107),(.int 20 0),(.int 13 0),(.ref 122),(.int 21 0),(.int 0 0),(.ref 141),(.int 221 0),(.int 0 0),(.ref 253),(.int 225 0),(.int 0 0),(.ref 258)]),#[]⟩
def o189:Obj:=⟨(.type "tuple"),none,(.seq #[(sv "pool" 1210),(sv "bound" 1211)] 0),#[]⟩
def o190:Obj:=⟨.none,none,(.func ⟨(Qq "_law_draw"),(Qq "_law_draw"),(aT (aL pw.main.body 17)),(.stmts (aK (aL pw.main.body 17))),(aA (aL pw.main.body 17)),0,[],.none,.none,.none,.none,none,.none,.none,0⟩),#[]⟩
def o191:Obj:=⟨(.type "code"),none,(.fields #[(sv "_law_draw" 1207),(sv "_law_draw" 1208),(sv "/claim/cut.py" 1209),(.int 221 0),(.int 2 0),(.int 0 0),(.int 0 0),(.int 3 0),(.ref 248),(.bool true),(.int 276 0),(.ref 249),.none,(.ref 250),(.ref 251),(.ref 252),(.int 1212 0),(.int 221 0),(sv "/claim/cut.py" 1213)]),#[]⟩
def o192:Obj:=⟨(.type "function"),none,(.func ⟨(Qq "_law_draw"),(Qq "_law_draw"),(aT (aL pw.main.body 17)),(.stmts (aK (aL pw.main.body 17))),(aA (aL pw.main.body 17)),3,[],.none,.none,.none,(sv "law_dm0168_02" 1205),none,(.ref 253),.none,0⟩),#[]⟩
def o193:Obj:=⟨.none,none,(.func ⟨(Qq "law"),(Qq "law"),(aT (aL pw.main.body 18)),(.stmts (aK (aL pw.main.body 18))),(aA (aL pw.main.body 18)),0,[],.none,.none,.none,.none,none,.none,.none,0⟩),#[]⟩
def o194:Obj:=⟨(.type "code"),none,(.fields #[(sv "law" 1215),(sv "law" 1216),(sv "/claim/cut.py" 1217),(.int 225 0),(.int 1 0),(.int 0 0),(.int 0 0),(.int 3 0),(.ref 255),(.bool true),(.int 276 0),(.ref 256),.none,.none,.none,(.ref 257),(.int 1218 0),(.int 225 0),(sv "/claim/cut.py" 1219)]),#[]⟩
def o195:Obj:=⟨(.type "function"),none,(.func ⟨(Qq "law"),(Qq "law"),(aT (aL pw.main.body 18)),(.stmts (aK (aL pw.main.body 18))),(aA (aL pw.main.body 18)),3,[],.none,.none,.none,(sv "law_dm0168_02" 1205),none,(.ref 258),.none,0⟩),#[]⟩
def zE (P:Params):BT:=(N (o0 P) (N (o1 P) (N (o187 P) (N o7 (N o7 (N o29 (N (o58 P) (N o111 (lf o7) O) (lf o151)) (N o84 (lf o132) (lf o7))) (N o42 (N o69 (lf o7) (lf o8)) (N o97 (lf o141) (lf o178)))) (N o22 (N o36 (N o7 (lf o117) (lf o7)) (N o90 (lf o7) (lf o173))) (N o49 (N o7 (lf o8) (lf o164)) (N o105 (lf o146) (lf o186))))) (N (o27 P) (N o18 (N o7 (N o61 (N o115 (lf o195) O) (lf o7)) (N o88 (lf o135) (lf o7))) (N o37 (N o74 (lf o125) (lf o162)) (N o7 (lf o8) (lf o182)))) (N o26 (N o39 (N o7 (lf o7) (lf o157)) (N o93 (lf o7) (lf o8))) (N o52 (N o8 (lf o130) (lf o167)) (N (o107 P) (lf o148) (lf o7)))))) (N o5 (N o9 (N o16 (N o8 (N o59 (N o113 (lf o193) O) (lf o8)) (N o86 (lf o133) (lf o170))) (N o44 (N o71 (lf o124) (lf o7)) (N o99 (lf o143) (lf o180)))) (N o24 (N o37 (N o64 (lf o57) (lf o156)) (N o7 (lf o138) (lf o175))) (N o50 (N o80 (lf o7) (lf o165)) (N o8 (lf o7) (lf o8))))) (N (o13 P) (N (o20 P) (N o34 (N o8 (lf o116) (lf o154)) (N o89 (lf o8) (lf o172))) (N o46 (N o104 (lf o127) (lf o7)) (N o7 (lf o7) (lf o184)))) (N o188 (N o6 (N o67 (lf o122) (lf o159)) (N o95 (lf o140) (lf o7))) (N o56 (N (o82 P) (lf o7) (lf o8)) (N o109 (lf o149) (lf o191))))))) (N (o2 P) (N o4 (N o8 (N o15 (N o7 (N o7 (N o112 (lf o8) O) (lf o7)) (N o85 (lf o7) (lf o169))) (N o43 (N o70 (lf o8) (lf o160)) (N o98 (lf o142) (lf o179)))) (N o23 (N o6 (N o63 (lf o7) (lf o8)) (N o80 (lf o137) (lf o174))) (N o7 (N o77 (lf o128) (lf o7)) (N o7 (lf o147) (lf o7))))) (N o12 (N (o19 P) (N o33 (N o7 (lf o7) (lf o153)) (N o7 (lf o7) (lf o8))) (N o45 (N o6 (lf o126) (lf o163)) (N o101 (lf o144) (lf o183)))) (N o7 (N o41 (N (o66 P) (lf o121) (lf o158)) (N (o94 P) (lf o8) (lf o176))) (N o53 (N o81 (lf o131) (lf o7)) (N o108 (lf o7) (lf o190)))))) (N o6 (N o10 (N o17 (N o32 (N o60 (N o114 (lf o194) O) (lf o152)) (N o87 (lf o134) (lf o171))) (N o6 (N o73 (lf o7) (lf o161)) (N o100 (lf o7) (lf (o181 P))))) (N o25 (N o38 (N o65 (lf (o120 P)) (lf o7)) (N o8 (lf o139) (lf o7))) (N o51 (N o7 (lf o129) (lf o166)) (N o106 (lf o8) (lf o189))))) (N o14 (N o21 (N o35 (N o62 (lf o7) (lf o155)) (N o7 (lf o136) (lf o7))) (N o48 (N o76 (lf o7) (lf o8)) (N o102 (lf o145) (lf o185)))) (N o28 (N o37 (N o68 (lf o123) (lf o7)) (N o96 (lf o7) (lf o177))) (N o57 (N o83 (lf o8) (lf o168)) (N o110 (lf o150) (lf o192))))))))
def S10 (w:World)(os:OsState):SharedT:=⟨zE w.params,260,{},Array.mk [.finished,.finished,.finished],⟨0,0,0,0⟩,1221,os⟩
noncomputable def o196:Obj:=⟨(.ref 77),(some 84),(.dict #[] 0),#[]⟩
noncomputable def o197:Obj:=⟨(.type "range_iterator"),none,(.fields #[(.int 0 0),(.int 128 0),(.int 1 0)]),#[]⟩
def zj (P:Params):BT:=(N (o0 P) (N (o1 P) (N (o54 P) (N o7 (N o7 (N o29 (lf (o58 P)) O) (N o42 (lf o69) O)) (N o22 (N o36 (lf o7) O) (lf o49))) (N (o27 P) (N o18 (N o7 (lf o61) O) (N o37 (lf o74) O)) (N o26 (N o39 (lf o7) O) (lf o52)))) (N o5 (N o9 (N o16 (N o8 (lf o59) O) (N o44 (lf o71) O)) (N o24 (N o37 (lf o64) O) (lf o50))) (N (o13 P) (N (o20 P) (N o34 (lf o8) O) (N o46 (lf o196) O)) (N o55 (N o6 (lf o67) O) (lf o56))))) (N (o2 P) (N o4 (N o8 (N o15 (N o7 (lf o7) O) (N o43 (lf o70) O)) (N o23 (N o6 (lf o63) O) (lf o7))) (N o12 (N (o19 P) (N o33 (lf o7) O) (N o45 (lf o6) O)) (N o7 (N o41 (lf (o66 P)) O) (lf o53)))) (N o6 (N o10 (N o17 (N o32 (lf o60) O) (N o6 (lf o73) O)) (N o25 (N o38 (lf o65) O) (lf o51))) (N o14 (N o21 (N o35 (lf o62) O) (N o48 (lf o197) O)) (N o28 (N o37 (lf o68) O) (lf o57))))))
def yd (w:World)(os:OsState):SharedT:=⟨zj w.params,87,{},Array.mk [],⟨0,0,0,0⟩,692,os⟩
def o198:Obj:=⟨(.ref 77),(some 84),(.dict #[ki 0 692 120 691,ki 1 694 120 691,ki 2 696 120 691,ki 3 698 120 691,ki 4 700 120 691,ki 5 702 120 691,ki 6 704 120 691,ki 7 706 120 691,ki 8 708 120 691,ki 9 710 120 691,ki 10 712 120 691,ki 11 714 120 691,ki 12 716 120 691,ki 13 718 120 691,ki 14 720 120 691,ki 15 722 120 691,ki 16 724 120 691,ki 17 726 120 691,ki 18 728 120 691,ki 19 730 120 691,ki 20 732 120 691,ki 21 734 120 691,ki 22 736 120 691,ki 23 738 120 691,ki 24 740 120 691] 25),#[]⟩
noncomputable def o199:Obj:=⟨(.type "range_iterator"),none,(.fields #[(.int 25 0),(.int 103 0),(.int 1 0)]),#[]⟩
def zi (P:Params):BT:=(N (o0 P) (N (o1 P) (N (o54 P) (N o7 (N o7 (N o29 (lf (o58 P)) O) (N o42 (lf o69) O)) (N o22 (N o36 (lf o7) O) (lf o49))) (N (o27 P) (N o18 (N o7 (lf o61) O) (N o37 (lf o74) O)) (N o26 (N o39 (lf o7) O) (lf o52)))) (N o5 (N o9 (N o16 (N o8 (lf o59) O) (N o44 (lf o71) O)) (N o24 (N o37 (lf o64) O) (lf o50))) (N (o13 P) (N (o20 P) (N o34 (lf o8) O) (N o46 (lf o198) O)) (N o55 (N o6 (lf o67) O) (lf o56))))) (N (o2 P) (N o4 (N o8 (N o15 (N o7 (lf o7) O) (N o43 (lf o70) O)) (N o23 (N o6 (lf o63) O) (lf o7))) (N o12 (N (o19 P) (N o33 (lf o7) O) (N o45 (lf o6) O)) (N o7 (N o41 (lf (o66 P)) O) (lf o53)))) (N o6 (N o10 (N o17 (N o32 (lf o60) O) (N o6 (lf o73) O)) (N o25 (N o38 (lf o65) O) (lf o51))) (N o14 (N o21 (N o35 (lf o62) O) (N o48 (lf o199) O)) (N o28 (N o37 (lf o68) O) (lf o57))))))
def yM (w:World)(os:OsState):SharedT:=⟨zi w.params,87,{},Array.mk [],⟨0,0,0,0⟩,742,os⟩
def o200:Obj:=⟨(.ref 77),(some 84),(.dict #[ki 0 692 120 691,ki 1 694 120 691,ki 2 696 120 691,ki 3 698 120 691,ki 4 700 120 691,ki 5 702 120 691,ki 6 704 120 691,ki 7 706 120 691,ki 8 708 120 691,ki 9 710 120 691,ki 10 712 120 691,ki 11 714 120 691,ki 12 716 120 691,ki 13 718 120 691,ki 14 720 120 691,ki 15 722 120 691,ki 16 724 120 691,ki 17 726 120 691,ki 18 728 120 691,ki 19 730 120 691,ki 20 732 120 691,ki 21 734 120 691,ki 22 736 120 691,ki 23 738 120 691,ki 24 740 120 691,ki 25 742 120 691,ki 26 744 120 691,ki 27 746 120 691,ki 28 748 120 691,ki 29 750 120 691,ki 30 752 120 691,ki 31 754 120 691,ki 32 756 120 691,ki 33 758 120 691,ki 34 760 120 691,ki 35 762 120 691,ki 36 764 120 691,ki 37 766 120 691,ki 38 768 120 691,ki 39 770 120 691,ki 40 772 120 691,ki 41 774 120 691,ki 42 776 120 691,ki 43 778 120 691,ki 44 780 120 691,ki 45 782 120 691,ki 46 784 120 691,ki 47 786 120 691,ki 48 788 120 691,ki 49 790 120 691] 50),#[]⟩
noncomputable def o201:Obj:=⟨(.type "range_iterator"),none,(.fields #[(.int 50 0),(.int 78 0),(.int 1 0)]),#[]⟩
def yE (P:Params):BT:=(N (o0 P) (N (o1 P) (N (o54 P) (N o7 (N o7 (N o29 (lf (o58 P)) O) (N o42 (lf o69) O)) (N o22 (N o36 (lf o7) O) (lf o49))) (N (o27 P) (N o18 (N o7 (lf o61) O) (N o37 (lf o74) O)) (N o26 (N o39 (lf o7) O) (lf o52)))) (N o5 (N o9 (N o16 (N o8 (lf o59) O) (N o44 (lf o71) O)) (N o24 (N o37 (lf o64) O) (lf o50))) (N (o13 P) (N (o20 P) (N o34 (lf o8) O) (N o46 (lf o200) O)) (N o55 (N o6 (lf o67) O) (lf o56))))) (N (o2 P) (N o4 (N o8 (N o15 (N o7 (lf o7) O) (N o43 (lf o70) O)) (N o23 (N o6 (lf o63) O) (lf o7))) (N o12 (N (o19 P) (N o33 (lf o7) O) (N o45 (lf o6) O)) (N o7 (N o41 (lf (o66 P)) O) (lf o53)))) (N o6 (N o10 (N o17 (N o32 (lf o60) O) (N o6 (lf o73) O)) (N o25 (N o38 (lf o65) O) (lf o51))) (N o14 (N o21 (N o35 (lf o62) O) (N o48 (lf o201) O)) (N o28 (N o37 (lf o68) O) (lf o57))))))
def y1 (w:World)(os:OsState):SharedT:=⟨yE w.params,87,{},Array.mk [],⟨0,0,0,0⟩,792,os⟩
def o202:Obj:=⟨(.ref 77),(some 84),(.dict #[ki 0 692 120 691,ki 1 694 120 691,ki 2 696 120 691,ki 3 698 120 691,ki 4 700 120 691,ki 5 702 120 691,ki 6 704 120 691,ki 7 706 120 691,ki 8 708 120 691,ki 9 710 120 691,ki 10 712 120 691,ki 11 714 120 691,ki 12 716 120 691,ki 13 718 120 691,ki 14 720 120 691,ki 15 722 120 691,ki 16 724 120 691,ki 17 726 120 691,ki 18 728 120 691,ki 19 730 120 691,ki 20 732 120 691,ki 21 734 120 691,ki 22 736 120 691,ki 23 738 120 691,ki 24 740 120 691,ki 25 742 120 691,ki 26 744 120 691,ki 27 746 120 691,ki 28 748 120 691,ki 29 750 120 691,ki 30 752 120 691,ki 31 754 120 691,ki 32 756 120 691,ki 33 758 120 691,ki 34 760 120 691,ki 35 762 120 691,ki 36 764 120 691,ki 37 766 120 691,ki 38 768 120 691,ki 39 770 120 691,ki 40 772 120 691,ki 41 774 120 691,ki 42 776 120 691,ki 43 778 120 691,ki 44 780 120 691,ki 45 782 120 691,ki 46 784 120 691,ki 47 786 120 691,ki 48 788 120 691,ki 49 790 120 691,ki 50 792 120 691,ki 51 794 120 691,ki 52 796 120 691,ki 53 798 120 691,ki 54 800 120 691,ki 55 802 120 691,ki 56 804 120 691,ki 57 806 120 691,ki 58 808 120 691,ki 59 810 120 691,ki 60 812 120 691,ki 61 814 120 691,ki 62 816 120 691,ki 63 818 120 691,ki 64 820 120 691,ki 65 822 120 691,ki 66 824 120 691,ki 67 826 120 691,ki 68 828 120 691,ki 69 830 120 691,ki 70 832 120 691,ki 71 834 120 691,ki 72 836 120 691,ki 73 838 120 691,ki 74 840 120 691] 75),#[]⟩
noncomputable def o203:Obj:=⟨(.type "range_iterator"),none,(.fields #[(.int 75 0),(.int 53 0),(.int 1 0)]),#[]⟩
def yJ (P:Params):BT:=(N (o0 P) (N (o1 P) (N (o54 P) (N o7 (N o7 (N o29 (lf (o58 P)) O) (N o42 (lf o69) O)) (N o22 (N o36 (lf o7) O) (lf o49))) (N (o27 P) (N o18 (N o7 (lf o61) O) (N o37 (lf o74) O)) (N o26 (N o39 (lf o7) O) (lf o52)))) (N o5 (N o9 (N o16 (N o8 (lf o59) O) (N o44 (lf o71) O)) (N o24 (N o37 (lf o64) O) (lf o50))) (N (o13 P) (N (o20 P) (N o34 (lf o8) O) (N o46 (lf o202) O)) (N o55 (N o6 (lf o67) O) (lf o56))))) (N (o2 P) (N o4 (N o8 (N o15 (N o7 (lf o7) O) (N o43 (lf o70) O)) (N o23 (N o6 (lf o63) O) (lf o7))) (N o12 (N (o19 P) (N o33 (lf o7) O) (N o45 (lf o6) O)) (N o7 (N o41 (lf (o66 P)) O) (lf o53)))) (N o6 (N o10 (N o17 (N o32 (lf o60) O) (N o6 (lf o73) O)) (N o25 (N o38 (lf o65) O) (lf o51))) (N o14 (N o21 (N o35 (lf o62) O) (N o48 (lf o203) O)) (N o28 (N o37 (lf o68) O) (lf o57))))))
def y5 (w:World)(os:OsState):SharedT:=⟨yJ w.params,87,{},Array.mk [],⟨0,0,0,0⟩,842,os⟩
def o204:Obj:=⟨(.ref 77),(some 84),(.dict #[ki 0 692 120 691,ki 1 694 120 691,ki 2 696 120 691,ki 3 698 120 691,ki 4 700 120 691,ki 5 702 120 691,ki 6 704 120 691,ki 7 706 120 691,ki 8 708 120 691,ki 9 710 120 691,ki 10 712 120 691,ki 11 714 120 691,ki 12 716 120 691,ki 13 718 120 691,ki 14 720 120 691,ki 15 722 120 691,ki 16 724 120 691,ki 17 726 120 691,ki 18 728 120 691,ki 19 730 120 691,ki 20 732 120 691,ki 21 734 120 691,ki 22 736 120 691,ki 23 738 120 691,ki 24 740 120 691,ki 25 742 120 691,ki 26 744 120 691,ki 27 746 120 691,ki 28 748 120 691,ki 29 750 120 691,ki 30 752 120 691,ki 31 754 120 691,ki 32 756 120 691,ki 33 758 120 691,ki 34 760 120 691,ki 35 762 120 691,ki 36 764 120 691,ki 37 766 120 691,ki 38 768 120 691,ki 39 770 120 691,ki 40 772 120 691,ki 41 774 120 691,ki 42 776 120 691,ki 43 778 120 691,ki 44 780 120 691,ki 45 782 120 691,ki 46 784 120 691,ki 47 786 120 691,ki 48 788 120 691,ki 49 790 120 691,ki 50 792 120 691,ki 51 794 120 691,ki 52 796 120 691,ki 53 798 120 691,ki 54 800 120 691,ki 55 802 120 691,ki 56 804 120 691,ki 57 806 120 691,ki 58 808 120 691,ki 59 810 120 691,ki 60 812 120 691,ki 61 814 120 691,ki 62 816 120 691,ki 63 818 120 691,ki 64 820 120 691,ki 65 822 120 691,ki 66 824 120 691,ki 67 826 120 691,ki 68 828 120 691,ki 69 830 120 691,ki 70 832 120 691,ki 71 834 120 691,ki 72 836 120 691,ki 73 838 120 691,ki 74 840 120 691,ki 75 842 120 691,ki 76 844 120 691,ki 77 846 120 691,ki 78 848 120 691,ki 79 850 120 691,ki 80 852 120 691,ki 81 854 120 691,ki 82 856 120 691,ki 83 858 120 691,ki 84 860 120 691,ki 85 862 120 691,ki 86 864 120 691,ki 87 866 120 691,ki 88 868 120 691,ki 89 870 120 691,ki 90 872 120 691,ki 91 874 120 691,ki 92 876 120 691,ki 93 878 120 691,ki 94 880 120 691,ki 95 882 120 691,ki 96 884 120 691,ki 97 886 120 691,ki 98 888 120 691,ki 99 890 120 691] 100),#[]⟩
noncomputable def o205:Obj:=⟨(.type "range_iterator"),none,(.fields #[(.int 100 0),(.int 28 0),(.int 1 0)]),#[]⟩
def yD (P:Params):BT:=(N (o0 P) (N (o1 P) (N (o54 P) (N o7 (N o7 (N o29 (lf (o58 P)) O) (N o42 (lf o69) O)) (N o22 (N o36 (lf o7) O) (lf o49))) (N (o27 P) (N o18 (N o7 (lf o61) O) (N o37 (lf o74) O)) (N o26 (N o39 (lf o7) O) (lf o52)))) (N o5 (N o9 (N o16 (N o8 (lf o59) O) (N o44 (lf o71) O)) (N o24 (N o37 (lf o64) O) (lf o50))) (N (o13 P) (N (o20 P) (N o34 (lf o8) O) (N o46 (lf o204) O)) (N o55 (N o6 (lf o67) O) (lf o56))))) (N (o2 P) (N o4 (N o8 (N o15 (N o7 (lf o7) O) (N o43 (lf o70) O)) (N o23 (N o6 (lf o63) O) (lf o7))) (N o12 (N (o19 P) (N o33 (lf o7) O) (N o45 (lf o6) O)) (N o7 (N o41 (lf (o66 P)) O) (lf o53)))) (N o6 (N o10 (N o17 (N o32 (lf o60) O) (N o6 (lf o73) O)) (N o25 (N o38 (lf o65) O) (lf o51))) (N o14 (N o21 (N o35 (lf o62) O) (N o48 (lf o205) O)) (N o28 (N o37 (lf o68) O) (lf o57))))))
def yB (w:World)(os:OsState):SharedT:=⟨yD w.params,87,{},Array.mk [],⟨0,0,0,0⟩,892,os⟩
def hSf (P:Params):Heap:=⟨Array.mk [o0 P,o1 P,o2 P,o187 P,o4,o5,o6,o7,o8,o9,o10,o27 P,o12,o13 P,o14,o7,o15,o16,o17,o18,o19 P,o20 P,o21,o22,o23,o24,o25,o26,o7,o188,o28,o29,o7,o8,o32,o7,o33,o34,o35,o36,o6,o37,o38,o39,o41,o6,o37,o42,o43,o44,o6,o37,o45,o46,o48,o49,o7,o50,o51,o52,o53,o56,o57,o58 P,o7,o59,o60,o61,o7,o8,o62,o7,o63,o64,o65,o7,o66 P,o67,o68,o69,o70,o71,o73,o74,o6,o104,o76,o7,o77,o80,o7,o8,o81,o82 P,o83,o84,o85,o86,o87,o88,o7,o89,o7,o90,o80,o7,o8,o93,o94 P,o95,o96,o97,o98,o99,o100,o7,o101,o7,o102,o105,o7,o8,o106,o107 P,o108,o109,o110,o111,o112,o113,o114,o115,o7,o116,o7,o117,o7,o57,o120 P,o7,o121,o122,o123,o7,o8,o124,o7,o125,o126,o127,o7,o8,o128,o7,o129,o130,o131,o7,o8,o132,o7,o133,o134,o135,o7,o8,o136,o7,o137,o138,o139,o7,o8,o140,o7,o141,o142,o143,o7,o8,o144,o7,o145,o146,o147,o7,o8,o148,o7,o149,o150,o151,o7,o8,o152,o7,o153,o154,o155,o7,o8,o156,o7,o157,o158,o159,o7,o8,o160,o7,o161,o162,o163,o7,o8,o164,o7,o165,o166,o167,o7,o8,o168,o7,o169,o170,o171,o7,o8,o172,o7,o173,o174,o175,o7,o8,o176,o7,o177,o178,o179,o180,o181 P,o182,o183,o184,o185,o186,o7,o8,o189,o7,o190,o191,o192,o7,o8,o193,o194,o195],{}⟩
def Sf (w:World)(os:OsState):Shared:=⟨hSf w.params,Array.mk [.finished,.finished,.finished],⟨0,0,0,0⟩,1221,os⟩
def bE:List Stmt:=behindTheImports pw
def env:Env:={scope:=pw.main.scope,locals:=mainNs,globals:=mainNs,cells:=[],code:=(.ref 30),frame:=some 31}
def cE:Code:=.body bE env
noncomputable def B:List Frame:=[topFrame ⟨0,0,0,0⟩]
noncomputable def an:Option Value:=(some (.ref 6))
def Z (w:World)(os:OsState):Shared:=⟨hSz w.params,Array.mk [],⟨0,0,0,0⟩,276,os⟩
theorem pre (w:World)(os:OsState):topGo treeTable pw w 28 an 12 (Z w os) (topStub pw)=some (Sa w os,⟨denote treeTable cE,cE,⟨0,0,0,0⟩,B⟩):=by
 rewrite[tH,tF,tD];kernel_rfl
theorem blk (w:World)(os:OsState):segRun treeTable pw w 28 an 1 1 (Sa w os) (blockOf bE env cE ⟨0,0,0,0⟩ B)=some (.next,(S0 w os).abs,cE,⟨0,0,0,0⟩):=by
 rewrite[tG,tF];kernel_rfl
def st1:List Stmt:=[aL pw.main.body 1,aL pw.main.body 2,aL pw.main.body 3]
def Q1 (w:World):Prop:=∀os,segRunT treeTable pw w 28 an 1 126 (S0 w os) (piecesOf st1 env cE ⟨0,0,0,0⟩ B)=some (.next,S1 w os,cE,⟨6,0,6,10⟩)
theorem q1 (w:World):Q1 (w):=by
 unfold Q1;rewrite[tA,tF];intro os;kernel_rfl
theorem p1 (w:World):Q1 w:=q1 w
theorem r1 (w:World)(os:OsState):segRun treeTable pw w 28 an 1 126 (S0 w os).abs (piecesOf st1 env cE ⟨0,0,0,0⟩ B)=some (.next,(S1 w os).abs,cE,⟨6,0,6,10⟩):=segRun_of (p1 w os)
def st2:List Stmt:=[aL pw.main.body 4,aL pw.main.body 5]
def Q2 (w:World):Prop:=∀os,segRunT treeTable pw w 28 an 1 392 (S1 w os) (piecesOf st2 env cE ⟨6,0,6,10⟩ B)=some (.next,S2 w os,cE,⟨8,0,8,10⟩)
theorem q2 (w:World):Q2 (w):=by
 unfold Q2;rewrite[tA,tF];intro os;kernel_rfl
theorem p2 (w:World):Q2 w:=q2 w
theorem r2 (w:World)(os:OsState):segRun treeTable pw w 28 an 1 392 (S1 w os).abs (piecesOf st2 env cE ⟨6,0,6,10⟩ B)=some (.next,(S2 w os).abs,cE,⟨8,0,8,10⟩):=segRun_of (p2 w os)
def st3:List Stmt:=[aL pw.main.body 6,aL pw.main.body 7,aL pw.main.body 8,aL pw.main.body 9]
def Q3 (w:World):Prop:=∀os,segRunT treeTable pw w 28 an 1 233 (S2 w os) (piecesOf st3 env cE ⟨8,0,8,10⟩ B)=some (.next,S3 w os,cE,⟨12,0,12,16⟩)
theorem q3f (w:World):Q3 ((Xk w "special-get-raises" false)):=by
 unfold Q3;rewrite[tA,tF];intro os;kernel_rfl
theorem q3t (w:World):Q3 ((Xk w "special-get-raises" true)):=by
 unfold Q3;rewrite[tA,tF];intro os;kernel_rfl
theorem p3 (w:World):Q3 w:=(byRow2 "special-get-raises" (P:=fun w=>Q3 (w)) q3f q3t) w
theorem r3 (w:World)(os:OsState):segRun treeTable pw w 28 an 1 233 (S2 w os).abs (piecesOf st3 env cE ⟨8,0,8,10⟩ B)=some (.next,(S3 w os).abs,cE,⟨12,0,12,16⟩):=segRun_of (p3 w os)
def st4:List Stmt:=[aL pw.main.body 10]
def Q4 (w:World):Prop:=∀os,segRunT treeTable pw w 28 an 1 226 (S3 w os) (piecesOf st4 env cE ⟨12,0,12,16⟩ B)=some (.next,S4 w os,cE,⟨13,0,16,18⟩)
theorem q4 (w:World):Q4 (w):=by
 unfold Q4;rewrite[tA,tF];intro os;kernel_rfl
theorem p4 (w:World):Q4 w:=q4 w
theorem r4 (w:World)(os:OsState):segRun treeTable pw w 28 an 1 226 (S3 w os).abs (piecesOf st4 env cE ⟨12,0,12,16⟩ B)=some (.next,(S4 w os).abs,cE,⟨13,0,16,18⟩):=segRun_of (p4 w os)
def st5:List Stmt:=[aL pw.main.body 11]
def th5 (w:World)(os:OsState):Thread:=match PySem.W.Fast.tw10295753902157049106 PySem.W.Fast.tw14364793385576792824 pw w 28 an 1 113 (S4 w os) (piecesOf st5 env cE ⟨13,0,16,18⟩ B) with
 |some r=>r.2
 |none=>⟨doneF .next,cE,⟨13,0,16,18⟩,B⟩
def oK (w:World):Prop:=∀os,segGoT treeTable pw w 28 an 1 113 (S4 w os) (piecesOf st5 env cE ⟨13,0,16,18⟩ B)=some (yd w os,th5 w os)
theorem yO (w:World):oK ((Xk w "special-get-raises" false)):=by
 unfold oK;rewrite[tC,tF];intro os;kernel_rfl
theorem yc (w:World):oK ((Xk w "special-get-raises" true)):=by
 unfold oK;rewrite[tC,tF];intro os;kernel_rfl
theorem zJ (w:World):oK w:=(byRow2 "special-get-raises" (P:=fun w=>oK (w)) yO yc) w
def pI (w:World):Prop:=∀os,segGoT treeTable pw w 28 an 1 1000 (yd w os) (th5 w os)=some (yM w os,th5 w os)
theorem y7 (w:World):pI ((Xk w "special-get-raises" false)):=by
 unfold pI;rewrite[tC,tF];intro os;kernel_rfl
theorem yP (w:World):pI ((Xk w "special-get-raises" true)):=by
 unfold pI;rewrite[tC,tF];intro os;kernel_rfl
theorem zo (w:World):pI w:=(byRow2 "special-get-raises" (P:=fun w=>pI (w)) y7 yP) w
def oH (w:World):Prop:=∀os,segGoT treeTable pw w 28 an 1 1000 (yM w os) (th5 w os)=some (y1 w os,th5 w os)
theorem yv (w:World):oH ((Xk w "special-get-raises" false)):=by
 unfold oH;rewrite[tC,tF];intro os;kernel_rfl
theorem yS (w:World):oH ((Xk w "special-get-raises" true)):=by
 unfold oH;rewrite[tC,tF];intro os;kernel_rfl
theorem zK (w:World):oH w:=(byRow2 "special-get-raises" (P:=fun w=>oH (w)) yv yS) w
def oc (w:World):Prop:=∀os,segGoT treeTable pw w 28 an 1 1000 (y1 w os) (th5 w os)=some (y5 w os,th5 w os)
theorem za (w:World):oc ((Xk w "special-get-raises" false)):=by
 unfold oc;rewrite[tC,tF];intro os;kernel_rfl
theorem yy (w:World):oc ((Xk w "special-get-raises" true)):=by
 unfold oc;rewrite[tC,tF];intro os;kernel_rfl
theorem zN (w:World):oc w:=(byRow2 "special-get-raises" (P:=fun w=>oc (w)) za yy) w
def ow (w:World):Prop:=∀os,segGoT treeTable pw w 28 an 1 1000 (y5 w os) (th5 w os)=some (yB w os,th5 w os)
theorem yY (w:World):ow ((Xk w "special-get-raises" false)):=by
 unfold ow;rewrite[tC,tF];intro os;kernel_rfl
theorem yw (w:World):ow ((Xk w "special-get-raises" true)):=by
 unfold ow;rewrite[tC,tF];intro os;kernel_rfl
theorem zO (w:World):ow w:=(byRow2 "special-get-raises" (P:=fun w=>ow (w)) yY yw) w
def Q5 (w:World):Prop:=∀os,segRunT treeTable pw w 28 an 1 1143 (yB w os) (th5 w os)=some (.next,S5 w os,cE,⟨17,0,17,5⟩)
theorem q5f (w:World):Q5 ((Xk w "special-get-raises" false)):=by
 unfold Q5;rewrite[tA,tF];intro os;kernel_rfl
theorem q5t (w:World):Q5 ((Xk w "special-get-raises" true)):=by
 unfold Q5;rewrite[tA,tF];intro os;kernel_rfl
theorem p5 (w:World):Q5 w:=(byRow2 "special-get-raises" (P:=fun w=>Q5 (w)) q5f q5t) w
theorem r5 (w:World)(os:OsState):segRun treeTable pw w 28 an 1 (113+(1000+(1000+(1000+(1000+1143))))) (S4 w os).abs (piecesOf st5 env cE ⟨13,0,16,18⟩ B)=some (.next,(S5 w os).abs,cE,⟨17,0,17,5⟩):=seg_go (segGo_of (zJ w os)) (seg_go (segGo_of (zo w os)) (seg_go (segGo_of (zK w os)) (seg_go (segGo_of (zN w os)) (seg_go (segGo_of (zO w os)) (segRun_of (p5 w os))))))
def st6:List Stmt:=[aL pw.main.body 12]
def Q6 (w:World):Prop:=∀os,segRunT treeTable pw w 28 an 1 367 (S5 w os) (piecesOf st6 env cE ⟨17,0,17,5⟩ B)=some (.next,S6 w os,cE,⟨18,0,18,49⟩)
theorem zA (w:World):Q6 ((Xk (Xk w "special-get-raises" false) "comprehension-iter-twice" false)):=by
 unfold Q6;rewrite[tA,tF];intro os;kernel_rfl
theorem zp (w:World):Q6 ((Xk (Xk w "special-get-raises" true) "comprehension-iter-twice" false)):=by
 unfold Q6;rewrite[tA,tF];intro os;kernel_rfl
theorem zM (w:World):Q6 ((Xk (Xk w "special-get-raises" false) "comprehension-iter-twice" true)):=by
 unfold Q6;rewrite[tA,tF];intro os;kernel_rfl
theorem zX (w:World):Q6 ((Xk (Xk w "special-get-raises" true) "comprehension-iter-twice" true)):=by
 unfold Q6;rewrite[tA,tF];intro os;kernel_rfl
theorem p6 (w:World):Q6 w:=(byRow2 "comprehension-iter-twice" (P:=fun w=>Q6 (w)) (byRow2 "special-get-raises" (P:=fun w=>Q6 ((Xk w "comprehension-iter-twice" false))) zA zp) (byRow2 "special-get-raises" (P:=fun w=>Q6 ((Xk w "comprehension-iter-twice" true))) zM zX)) w
theorem r6 (w:World)(os:OsState):segRun treeTable pw w 28 an 1 367 (S5 w os).abs (piecesOf st6 env cE ⟨17,0,17,5⟩ B)=some (.next,(S6 w os).abs,cE,⟨18,0,18,49⟩):=segRun_of (p6 w os)
def st7:List Stmt:=[aL pw.main.body 13]
def Q7 (w:World):Prop:=∀os,segRunT treeTable pw w 28 an 1 367 (S6 w os) (piecesOf st7 env cE ⟨18,0,18,49⟩ B)=some (.next,S7 w os,cE,⟨19,0,19,49⟩)
theorem zw (w:World):Q7 ((Xk (Xk w "special-get-raises" false) "comprehension-iter-twice" false)):=by
 unfold Q7;rewrite[tA,tF];intro os;kernel_rfl
theorem zW (w:World):Q7 ((Xk (Xk w "special-get-raises" true) "comprehension-iter-twice" false)):=by
 unfold Q7;rewrite[tA,tF];intro os;kernel_rfl
theorem zx (w:World):Q7 ((Xk (Xk w "special-get-raises" false) "comprehension-iter-twice" true)):=by
 unfold Q7;rewrite[tA,tF];intro os;kernel_rfl
theorem zR (w:World):Q7 ((Xk (Xk w "special-get-raises" true) "comprehension-iter-twice" true)):=by
 unfold Q7;rewrite[tA,tF];intro os;kernel_rfl
theorem p7 (w:World):Q7 w:=(byRow2 "comprehension-iter-twice" (P:=fun w=>Q7 (w)) (byRow2 "special-get-raises" (P:=fun w=>Q7 ((Xk w "comprehension-iter-twice" false))) zw zW) (byRow2 "special-get-raises" (P:=fun w=>Q7 ((Xk w "comprehension-iter-twice" true))) zx zR)) w
theorem r7 (w:World)(os:OsState):segRun treeTable pw w 28 an 1 367 (S6 w os).abs (piecesOf st7 env cE ⟨18,0,18,49⟩ B)=some (.next,(S7 w os).abs,cE,⟨19,0,19,49⟩):=segRun_of (p7 w os)
def st8:List Stmt:=[aL pw.main.body 14]
def Q8 (w:World):Prop:=∀os,segRunT treeTable pw w 28 an 1 522 (S7 w os) (piecesOf st8 env cE ⟨19,0,19,49⟩ B)=some (.next,S8 w os,cE,⟨20,0,20,52⟩)
theorem zZ (w:World):Q8 ((Xk (Xk w "special-get-raises" false) "comprehension-iter-twice" false)):=by
 unfold Q8;rewrite[tA,tF];intro os;kernel_rfl
theorem zS (w:World):Q8 ((Xk (Xk w "special-get-raises" true) "comprehension-iter-twice" false)):=by
 unfold Q8;rewrite[tA,tF];intro os;kernel_rfl
theorem z2 (w:World):Q8 ((Xk (Xk w "special-get-raises" false) "comprehension-iter-twice" true)):=by
 unfold Q8;rewrite[tA,tF];intro os;kernel_rfl
theorem zy (w:World):Q8 ((Xk (Xk w "special-get-raises" true) "comprehension-iter-twice" true)):=by
 unfold Q8;rewrite[tA,tF];intro os;kernel_rfl
theorem p8 (w:World):Q8 w:=(byRow2 "comprehension-iter-twice" (P:=fun w=>Q8 (w)) (byRow2 "special-get-raises" (P:=fun w=>Q8 ((Xk w "comprehension-iter-twice" false))) zZ zS) (byRow2 "special-get-raises" (P:=fun w=>Q8 ((Xk w "comprehension-iter-twice" true))) z2 zy)) w
theorem r8 (w:World)(os:OsState):segRun treeTable pw w 28 an 1 522 (S7 w os).abs (piecesOf st8 env cE ⟨19,0,19,49⟩ B)=some (.next,(S8 w os).abs,cE,⟨20,0,20,52⟩):=segRun_of (p8 w os)
def st9:List Stmt:=[aL pw.main.body 15]
def Q9 (w:World):Prop:=∀os,segRunT treeTable pw w 28 an 1 665 (S8 w os) (piecesOf st9 env cE ⟨20,0,20,52⟩ B)=some (.next,S9 w os,cE,⟨21,0,219,35⟩)
theorem q9 (w:World):Q9 (w):=by
 unfold Q9;rewrite[tA,tF];intro os;kernel_rfl
theorem p9 (w:World):Q9 w:=q9 w
theorem r9 (w:World)(os:OsState):segRun treeTable pw w 28 an 1 665 (S8 w os).abs (piecesOf st9 env cE ⟨20,0,20,52⟩ B)=some (.next,(S9 w os).abs,cE,⟨21,0,219,35⟩):=segRun_of (p9 w os)
def fe:List Stmt:=[aL pw.main.body 16,aL pw.main.body 17,aL pw.main.body 18]
def Q10 (w:World):Prop:=∀os,segRunT treeTable pw w 28 an 1 66 (S9 w os) (piecesOf fe env cE ⟨21,0,219,35⟩ B)=some (.next,S10 w os,cE,⟨225,0,273,101⟩)
theorem q10 (w:World):Q10 (w):=by
 unfold Q10;rewrite[tA,tF];intro os;kernel_rfl
theorem p10 (w:World):Q10 w:=q10 w
theorem r10 (w:World)(os:OsState):segRun treeTable pw w 28 an 1 66 (S9 w os).abs (piecesOf fe env cE ⟨21,0,219,35⟩ B)=some (.next,(S10 w os).abs,cE,⟨225,0,273,101⟩):=segRun_of (p10 w os)
theorem fin (w:World)(os:OsState):topRun treeTable pw w 28 an 2 (S10 w os).abs (restOf [] env cE ⟨225,0,273,101⟩ B)=some (Sf w os):=by
 rewrite[tE,tF];kernel_rfl
theorem k10 (w:World)(os:OsState):topRun treeTable pw w 28 an (66+2) (S9 w os).abs (restOf (fe++[]) env cE ⟨21,0,219,35⟩ B)=some (Sf w os):=piece_app (r10 w os) (fin w os)
theorem k9 (w:World)(os:OsState):topRun treeTable pw w 28 an (665+(66+2)) (S8 w os).abs (restOf (st9++(fe++[])) env cE ⟨20,0,20,52⟩ B)=some (Sf w os):=piece_app (r9 w os) (k10 w os)
theorem k8 (w:World)(os:OsState):topRun treeTable pw w 28 an (522+(665+(66+2))) (S7 w os).abs (restOf (st8++(st9++(fe++[]))) env cE ⟨19,0,19,49⟩ B)=some (Sf w os):=piece_app (r8 w os) (k9 w os)
theorem k7 (w:World)(os:OsState):topRun treeTable pw w 28 an (367+(522+(665+(66+2)))) (S6 w os).abs (restOf (st7++(st8++(st9++(fe++[])))) env cE ⟨18,0,18,49⟩ B)=some (Sf w os):=piece_app (r7 w os) (k8 w os)
theorem k6 (w:World)(os:OsState):topRun treeTable pw w 28 an (367+(367+(522+(665+(66+2))))) (S5 w os).abs (restOf (st6++(st7++(st8++(st9++(fe++[]))))) env cE ⟨17,0,17,5⟩ B)=some (Sf w os):=piece_app (r6 w os) (k7 w os)
theorem k5 (w:World)(os:OsState):topRun treeTable pw w 28 an ((113+(1000+(1000+(1000+(1000+1143)))))+(367+(367+(522+(665+(66+2)))))) (S4 w os).abs (restOf (st5++(st6++(st7++(st8++(st9++(fe++[])))))) env cE ⟨13,0,16,18⟩ B)=some (Sf w os):=piece_app (r5 w os) (k6 w os)
theorem k4 (w:World)(os:OsState):topRun treeTable pw w 28 an (226+((113+(1000+(1000+(1000+(1000+1143)))))+(367+(367+(522+(665+(66+2))))))) (S3 w os).abs (restOf (st4++(st5++(st6++(st7++(st8++(st9++(fe++[]))))))) env cE ⟨12,0,12,16⟩ B)=some (Sf w os):=piece_app (r4 w os) (k5 w os)
theorem k3 (w:World)(os:OsState):topRun treeTable pw w 28 an (233+(226+((113+(1000+(1000+(1000+(1000+1143)))))+(367+(367+(522+(665+(66+2)))))))) (S2 w os).abs (restOf (st3++(st4++(st5++(st6++(st7++(st8++(st9++(fe++[])))))))) env cE ⟨8,0,8,10⟩ B)=some (Sf w os):=piece_app (r3 w os) (k4 w os)
theorem k2 (w:World)(os:OsState):topRun treeTable pw w 28 an (392+(233+(226+((113+(1000+(1000+(1000+(1000+1143)))))+(367+(367+(522+(665+(66+2))))))))) (S1 w os).abs (restOf (st2++(st3++(st4++(st5++(st6++(st7++(st8++(st9++(fe++[]))))))))) env cE ⟨6,0,6,10⟩ B)=some (Sf w os):=piece_app (r2 w os) (k3 w os)
theorem k1 (w:World)(os:OsState):topRun treeTable pw w 28 an (126+(392+(233+(226+((113+(1000+(1000+(1000+(1000+1143)))))+(367+(367+(522+(665+(66+2)))))))))) (S0 w os).abs (restOf (st1++(st2++(st3++(st4++(st5++(st6++(st7++(st8++(st9++(fe++[])))))))))) env cE ⟨0,0,0,0⟩ B)=some (Sf w os):=piece_app (r1 w os) (k2 w os)
theorem all:(st1++(st2++(st3++(st4++(st5++(st6++(st7++(st8++(st9++(fe++[]))))))))))=bE:=by kernel_rfl
theorem kb (w:World)(os:OsState):topRun treeTable pw w 28 an (1+(126+(392+(233+(226+((113+(1000+(1000+(1000+(1000+1143)))))+(367+(367+(522+(665+(66+2))))))))))) (Sa w os) ⟨denote treeTable cE,cE,⟨0,0,0,0⟩,B⟩=some (Sf w os):=piece_block (b:=bE) (env:=env) (blk w os) (by rw[←all];exact k1 w os)
theorem run (w:World)(os:OsState):topRun treeTable pw w 28 an (12+(1+(126+(392+(233+(226+((113+(1000+(1000+(1000+(1000+1143)))))+(367+(367+(522+(665+(66+2)))))))))))) (Z w os) (topStub pw)=some (Sf w os):=go_top (pre w os) (kb w os)
theorem opn (w:World):importEnds treeTable (opening pw) w 799 (start (opening pw)).1 (start (opening pw)).2=some ⟨hSe w.params,Array.mk [],⟨0,0,0,0⟩,276,(start (opening pw)).1.os⟩:=by
 rewrite[tB,tF];kernel_rfl
theorem yI (w:World):(fun os=>(fenceModules? pw ⟨hSe w.params,Array.mk [],⟨0,0,0,0⟩,276,os⟩).map (fun s=>(s.heap,s.gens,s.drawn,s.toks)))=fun _=>some (hSz w.params,Array.mk [],⟨0,0,0,0⟩,276):=by kernel_rfl
def view:Program:={pw with main:={pw.main with body:=[aL pw.main.body 0,aL pw.main.body 1,aL pw.main.body 3,aL pw.main.body 4,aL pw.main.body 5,aL pw.main.body 6,aL pw.main.body 7,aL pw.main.body 8,aL pw.main.body 9,aL pw.main.body 10,aL pw.main.body 11,aL pw.main.body 15,aL pw.main.body 17,aL pw.main.body 18]}}
noncomputable def loose:List PySem.Str:=[Qq "_twin_re_2",Qq "_twin_re_3",Qq "_twin_re_6",Qq "C_NONE",Qq "C_BACKSLASH",Qq "C_STRING_FIRST_LINE",Qq "C_STRING_NEXT_LINES",Qq "C_BRACKET",Qq "_junkre",Qq "_match_stringre",Qq "_chew_ordinaryre",Qq "trans"]
noncomputable def lv:List (PySem.Str×WData):=[(Qq "C_NONE",.int 0),(Qq "C_BACKSLASH",.int 1),(Qq "C_STRING_FIRST_LINE",.int 2),(Qq "C_STRING_NEXT_LINES",.int 3),(Qq "C_BRACKET",.int 4)]
def K (P:Params):Frag:=[(3,o187 P),(32,o7),(33,o8),(34,o32),(35,o7),(36,o33),(37,o34),(38,o35),(42,o38),(43,o39),(47,o42),(48,o43),(52,o45),(53,o46),(58,o51),(59,o52),(60,o53),(61,o56),(68,o7),(69,o8),(70,o62),(71,o7),(72,o63),(73,o64),(74,o65),(75,o7),(76,o66 P),(77,o67),(78,o68),(79,o69),(84,o6),(85,o104),(143,o7),(144,o8),(145,o124),(146,o7),(147,o125),(148,o126),(149,o127),(150,o7),(151,o8),(152,o128),(153,o7),(154,o129),(155,o130),(156,o131),(157,o7),(158,o8),(159,o132),(160,o7),(161,o133),(162,o134),(163,o135),(164,o7),(165,o8),(166,o136),(167,o7),(168,o137),(169,o138),(170,o139),(171,o7),(172,o8),(173,o140),(174,o7),(175,o141),(176,o142),(177,o143),(178,o7),(179,o8),(180,o144),(181,o7),(182,o145),(183,o146),(184,o147),(185,o7),(186,o8),(187,o148),(188,o7),(189,o149),(190,o150),(191,o151),(192,o7),(193,o8),(194,o152),(195,o7),(196,o153),(197,o154),(198,o155),(199,o7),(200,o8),(201,o156),(202,o7),(203,o157),(204,o158),(205,o159),(206,o7),(207,o8),(208,o160),(209,o7),(210,o161),(211,o162),(212,o163),(213,o7),(214,o8),(215,o164),(216,o7),(217,o165),(218,o166),(219,o167),(220,o7),(221,o8),(222,o168),(223,o7),(224,o169),(225,o170),(226,o171),(227,o7),(228,o8),(229,o172),(230,o7),(231,o173),(232,o174),(233,o175),(234,o7),(235,o8),(236,o176),(237,o7),(238,o177),(239,o178),(240,o179),(241,o180),(242,o181 P),(243,o182),(244,o183),(245,o184),(248,o7),(249,o8),(250,o189),(251,o7),(252,o190),(253,o191),(254,o192),(255,o7),(256,o8),(257,o193),(258,o194),(259,o195)]
noncomputable def as_:List Addr:=[3,32,33,34,35,36,37,38,42,43,47,48,52,53,58,59,60,61,68,69,70,71,72,73,74,75,76,77,78,79,84,85,143,144,145,146,147,148,149,150,151,152,153,154,155,156,157,158,159,160,161,162,163,164,165,166,167,168,169,170,171,172,173,174,175,176,177,178,179,180,181,182,183,184,185,186,187,188,189,190,191,192,193,194,195,196,197,198,199,200,201,202,203,204,205,206,207,208,209,210,211,212,213,214,215,216,217,218,219,220,221,222,223,224,225,226,227,228,229,230,231,232,233,234,235,236,237,238,239,240,241,242,243,244,245,248,249,250,251,252,253,254,255,256,257,258,259]
def H:Hook:=kHook K as_ (fun _=>by kernel_rfl)
def Xt (s:Shared):Bool:=xlAt view lv s&&recOk (RowW.records (OpenRow.toRowW (OpenLaw.row PySem.Challenge.rw_dm0168_02))) s
end Mine.H2
end
section
namespace Mine.H2
open PySem PySem.W PySem.Calls PyProof.Rows
theorem size (w:World):((hSz w.params).isNs mainGlobals&&(Array.mk []:Array GenState).size==0,(hSz w.params).objs.size,(hSz w.params).nsMap mainGlobals "__annotations__")=(true,28,an):=by kernel_rfl
theorem lk1 (w:World)(os:OsState):(staticsOk (importedModules pw.main.body) (hSz w.params) (hSf w.params)&&namesBound pw (hSf w.params)&&gensDone (Sf w os)&&laidKept (hSz w.params) (hSf w.params))=true:=by kernel_rfl
theorem lk3 (w:World)(os:OsState):H.obs (Sf w os)=H.val w:=by kernel_rfl
theorem lk2 (w:World)(os:OsState):openSeen view loose (importedModules pw.main.body) Xt false (Sf w os)=openGood view loose:=by
 unfold openSeen openGood
 refine looks_pair ?_ (looks_pair ?_ (looks_pair ?_ (looks_pair ?_ (looks_pair ?_ (looks_pair ?_ (looks_pair ?_ (looks_pair ?_ ?_)))))))
 all_goals kernel_rfl
theorem hl:LeftO pw view loose Xt H.obs H.val 16546 false:=
 LeftO.of_pieces (H₀:=hSz) (H₁:=hSf) (gs₀:=Array.mk []) (gs₁:=Array.mk [.finished,.finished,.finished]) (d₀:=⟨0,0,0,0⟩) (d₁:=⟨0,0,0,0⟩) (k₀:=276) (k₁:=1221)
  (open_cut opn rfl yI) size run rfl (fun w=>funext fun os=>looks_pair (lk1 w os) (looks_pair (lk2 w os) (lk3 w os)))
end Mine.H2
end
section
namespace Mine.Om
inductive E|n (k:Nat)|v (i:Nat)|a (x y:E)|s (x:E)|m (k:Nat)(x:E)
noncomputable def at':List Nat→Nat→Nat
 | [],_=>0
 |x::_,0=>x
 |_::c,i+1=>at' c i
noncomputable def E.d (c:List Nat):E→Nat
 | .n k=>k
 | .v i=>at' c i
 | .a x y=>x.d c+y.d c
 | .s x=>x.d c+1
 | .m k x=>k*x.d c
noncomputable def ev:List Nat→List Nat→Nat
 |k::p,x::c=>k*x+ev p c
 |_,_=>0
noncomputable def add:List Nat→List Nat→List Nat
 | [],q=>q
 |a::p,[]=>a::p
 |a::p,b::q=>(a+b)::add p q
noncomputable def mul (k:Nat):List Nat→List Nat
 | []=>[]
 |a::p=>k*a::mul k p
noncomputable def vr:Nat→List Nat
 |0=>[1]
 |i+1=>0::vr i
noncomputable def E.f:E→List Nat
 | .n k=>[k]
 | .v i=>0::vr i
 | .a x y=>add x.f y.f
 | .s x=>add x.f [1]
 | .m k x=>mul k x.f
noncomputable def le:List Nat→List Nat→Bool
 | [],_=>true
 |a::p,[]=>Nat.ble a 0&&le p []
 |a::p,b::q=>Nat.ble a b&&le p q
theorem dF:∀c,ev [] c=0
 | []=>rfl
 |_::_=>rfl
theorem mv:∀p q c,ev (add p q) c=ev p c+ev q c
 | [],q,c=>((congrArg (·+ev q c) (dF c)).trans (Nat.zero_add _)).symm
 |a::p,[],c=>(congrArg (ev (a::p) c+·) (dF c)).symm
 |a::p,b::q,[]=>rfl
 |a::p,b::q,x::c=>(congr (congrArg _ (Nat.add_mul a b x)) (mv p q c)).trans (Nat.add_add_add_comm ..)
theorem ri (k:Nat):∀p c,ev (mul k p) c=k*ev p c
 | [],c=>(dF c).trans (congrArg (k*·) (dF c)).symm
 |a::p,[]=>rfl
 |a::p,x::c=>(congr (congrArg _ (Nat.mul_assoc k a x)) (ri k p c)).trans (Nat.mul_add ..).symm
theorem vI:∀i c,ev (vr i) c=at' c i
 |0,[]=>rfl
 |_+1,[]=>rfl
 |0,x::c=>(congr (congrArg _ (Nat.one_mul x)) (dF c)).trans (Nat.add_zero x)
 |i+1,x::c=>(congr (congrArg _ (Nat.zero_mul x)) (vI i c)).trans (Nat.zero_add _)
theorem rC (k:Nat)(c:List Nat):ev [k] (1::c)=k:=(congr (congrArg _ (Nat.mul_one k)) (dF c)).trans (Nat.add_zero k)
theorem E.eq (c:List Nat):∀e:E,ev e.f (1::c)=e.d c
 | .n k=>rC k c
 | .v i=>(vI (i+1) (1::c))
 | .a x y=>(mv ..).trans (congr (congrArg _ (E.eq c x)) (E.eq c y))
 | .s x=>(mv ..).trans (congr (congrArg _ (E.eq c x)) (rC 1 c))
 | .m k x=>(ri ..).trans (congrArg _ (E.eq c x))
theorem qf:∀p q c,le p q=true→ev p c≤ev q c
 | [],q,c,_=>(dF c).symm▸Zj _
 |a::p,[],[],_=>Zv _
 |a::p,b::q,[],_=>Zv _
 |a::p,[],x::c,h=>have h:=(Xv _ _).mp h;Zk (Nat.add_le_add (Nat.mul_le_mul_right x (Nat.le_of_ble_eq_true h.1)) (qf p [] c h.2)) (Nat.le_of_eq ((congr (congrArg _ (Nat.zero_mul x)) (dF c)).trans rfl))
 |a::p,b::q,x::c,h=>have h:=(Xv _ _).mp h;Nat.add_le_add (Nat.mul_le_mul_right x (Nat.le_of_ble_eq_true h.1)) (qf p q c h.2)
noncomputable def chk (L R:E):List (E×E)→Bool
 | []=>le (E.s R).f L.f
 | (l,r)::q=>chk (.a L l) (.a R r) q
noncomputable def Den (c:List Nat):List (E×E)→Prop
 | []=>False
 | (l,r)::q=>l.d c≤r.d c→Den c q
theorem go (c:List Nat):∀q L R,L.d c≤R.d c→chk L R q=true→Den c q
 | [],L,R,h,k=>absurd (Zk (Zk (Nat.le_of_eq (E.eq c (.s R)).symm) (qf _ _ (1::c) k)) (Zk (Nat.le_of_eq (E.eq c L)) h)) (Nat.not_succ_le_self _)
 | (l,r)::q,L,R,h,k=>fun i=>go c q (.a L l) (.a R r) (Nat.add_le_add h i) k
theorem no (c:List Nat)(q:List (E×E))(k:chk (.n 0) (.n 0) q=true):Den c q:=go c q _ _ (Zv _) k
inductive Z|n (k:Int)|v (i:Nat)|a (x y:Z)|s (x y:Z)|g (x:Z)|m (k:Int)(x:Z)
noncomputable def zt:List Int→Nat→Int
 | [],_=>0
 |x::_,0=>x
 |_::c,i+1=>zt c i
noncomputable def Z.d (c:List Int):Z→Int
 | .n k=>k
 | .v i=>zt c i
 | .a x y=>x.d c+y.d c
 | .s x y=>x.d c-y.d c
 | .g x=>-x.d c
 | .m k x=>k*x.d c
noncomputable def zv:List Int→List Int→Int
 |k::p,x::c=>k*x+zv p c
 |_,_=>0
noncomputable def um:List Int→List Int→List Int
 | [],q=>q
 |a::p,[]=>a::p
 |a::p,b::q=>(a+b)::um p q
noncomputable def pP (k:Int):List Int→List Int
 | []=>[]
 |a::p=>k*a::pP k p
noncomputable def zr:Nat→List Int
 |0=>[1]
 |i+1=>0::zr i
noncomputable def Z.f:Z→List Int
 | .n k=>[k]
 | .v i=>0::zr i
 | .a x y=>um x.f y.f
 | .s x y=>um x.f (pP (-1) y.f)
 | .g x=>pP (-1) x.f
 | .m k x=>pP k x.f
theorem eE:∀c,zv [] c=0
 | []=>rfl
 |_::_=>rfl
theorem mz:∀p q c,zv (um p q) c=zv p c+zv q c
 | [],q,c=>((congrArg (·+zv q c) (eE c)).trans (Int.zero_add _)).symm
 |a::p,[],c=>((congrArg (zv (a::p) c+·) (eE c)).trans (Int.add_zero _)).symm
 |a::p,b::q,[]=>rfl
 |a::p,b::q,x::c=>(congr (congrArg _ (Int.add_mul a b x)) (mz p q c)).trans ((Int.add_assoc ..).trans ((congrArg _ (Int.add_left_comm ..)).trans (Int.add_assoc ..).symm))
theorem lG (k:Int):∀p c,zv (pP k p) c=k*zv p c
 | [],c=>(eE c).trans ((congrArg (k*·) (eE c)).trans (Int.mul_zero k)).symm
 |a::p,[]=>(Int.mul_zero k).symm
 |a::p,x::c=>(congr (congrArg _ (Int.mul_assoc k a x)) (lG k p c)).trans (Int.mul_add ..).symm
theorem vG:∀i c,zv (zr i) c=zt c i
 |0,[]=>rfl
 |_+1,[]=>rfl
 |0,x::c=>(congr (congrArg _ (Int.one_mul x)) (eE c)).trans (Int.add_zero x)
 |i+1,x::c=>(congr (congrArg _ (Int.zero_mul x)) (vG i c)).trans (Int.zero_add _)
theorem wk (k:Int)(c:List Int):zv [k] (1::c)=k:=(congr (congrArg _ (Int.mul_one k)) (eE c)).trans (Int.add_zero k)
theorem qs (p c:List Int):zv (pP (-1) p) c=-zv p c:=(lG ..).trans (Int.neg_one_mul _)
theorem Z.eq (c:List Int):∀e:Z,zv e.f (1::c)=e.d c
 | .n k=>wk k c
 | .v i=>(congr (congrArg _ (Int.zero_mul 1)) (vG i c)).trans (Int.zero_add _)
 | .a x y=>(mz ..).trans (congr (congrArg _ (Z.eq c x)) (Z.eq c y))
 | .s x y=>(mz ..).trans ((congr (congrArg (·+·) (Z.eq c x)) ((qs ..).trans (congrArg (- ·) (Z.eq c y)))).trans Int.sub_eq_add_neg.symm)
 | .g x=>(qs ..).trans (congrArg (- ·) (Z.eq c x))
 | .m k x=>(lG ..).trans (congrArg _ (Z.eq c x))
noncomputable def zer:List Int→Bool
 | []=>true
 | .ofNat 0::p=>zer p
 |_=>false
theorem pU:∀p c,zer p=true→zv p c=0
 | [],c,_=>eE c
 | .ofNat 0::p,[],_=>rfl
 | .ofNat 0::p,x::c,h=>(congr (congrArg _ (Int.zero_mul x)) (pU p c h)).trans rfl
noncomputable def yu:List Int→Bool
 | .ofNat (_+1)::p=>zer p
 |_=>false
theorem s6:∀p c,yu p=true→0<zv p (1::c)
 | .ofNat (n+1)::p,c,h=>Int.lt_of_lt_of_le (Int.ofNat_succ_pos n) (Int.le_of_eq ((congr (congrArg _ (Int.mul_one _)) (pU p c h)).trans (Int.add_zero _)).symm)
noncomputable def ww (L R:Z):List (Z×Z)→Bool
 | []=>yu (Z.s L R).f
 | (l,r)::q=>ww (.a L l) (.a R r) q
noncomputable def xt (c:List Int):List (Z×Z)→Prop
 | []=>False
 | (l,r)::q=>l.d c≤r.d c→xt c q
theorem zgo (c:List Int):∀q L R,L.d c≤R.d c→ww L R q=true→xt c q
 | [],L,R,h,k=>absurd (Int.sub_nonpos_of_le h) (Int.not_le.mpr (Int.lt_of_lt_of_le (s6 _ c k) (Int.le_of_eq (Z.eq c (.s L R)))))
 | (l,r)::q,L,R,h,k=>fun i=>zgo c q (.a L l) (.a R r) (Int.add_le_add h i) k
theorem nz (c:List Int)(q:List (Z×Z))(k:ww (.n 0) (.n 0) q=true):xt c q:=zgo c q _ _ (Int.le_refl _) k
theorem zl {m n:Nat}(h:m≤n):(m:Int)≤n:=Int.ofNat_le.mpr h
theorem nl {a b:Nat}(h:¬b<a):a≤b:=Nat.le_of_not_lt h
theorem nt {a b:Nat}(h:¬b≤a):a<b:=Nat.lt_of_not_le h
theorem le' {a b:Nat}(h:a=b):a≤b:=Nat.le_of_eq h
theorem sl (a b:Nat):a-b≤a:=Nat.sub_le a b
theorem sb (a b:Nat):a≤(a-b)+b:=Nat.sub_le_iff_le_add.mp (Zv (a-b))
theorem sc {a b:Nat}(h:b≤a):a-b+b≤a:=Nat.le_of_eq (Nat.sub_add_cancel h)
theorem ne {a b:Nat}(h:¬a=b):a<b∨b<a:=Nat.lt_or_gt_of_ne h
theorem to (a b:Nat):a≤b∨b≤a:=Nat.le_total a b
theorem sz {a b:Nat}(h:a≤b):a-b=0:=Nat.sub_eq_zero_of_le h
theorem an {a b:Nat}(h:a≤b)(k:b≤a):a=b:=Nat.le_antisymm h k
theorem il {a b:Int}(h:¬b<a):a≤b:=Int.not_lt.mp h
theorem it {a b:Int}(h:¬b≤a):a<b:=Int.not_le.mp h
theorem nn (a:Nat):0≤(a:Int):=Int.natCast_nonneg a
theorem tn {a:Int}(h:0≤a):(a.toNat:Int)≤a:=Int.le_of_eq (Int.toNat_of_nonneg h)
theorem st (a:Int):a≤(a.toNat:Int):=Int.self_le_toNat a
noncomputable def v0:E:=.v 0
noncomputable def w0:Z:=.v 0
noncomputable def v1:E:=.v 1
noncomputable def w1:Z:=.v 1
noncomputable def v2:E:=.v 2
noncomputable def w2:Z:=.v 2
noncomputable def v3:E:=.v 3
noncomputable def w3:Z:=.v 3
noncomputable def v4:E:=.v 4
noncomputable def w4:Z:=.v 4
noncomputable def v5:E:=.v 5
noncomputable def v6:E:=.v 6
noncomputable def v7:E:=.v 7
end Mine.Om
end
section
namespace Mine
open Om
section
variable {a b c d e f g i j k l m n:Nat}
theorem R0:a≤b→c≤d→e+(a+c)≤e+(b+d):=fun p q=>nl fun h=>no [a,b,c,d,e] [(v0,v1),(v2,v3),(.s (.a v4 (.a v1 v3)),.a v4 (.a v0 v2))] rfl p q h
theorem R1:a≤1048576→a≤16777216:=fun p=>nl fun h=>no [a] [(v0,.n 1048576),(.s (.n 16777216),v0)] rfl p h
theorem R2 {a:Int}:¬a<0→0≤a:=fun p=>il fun h=>nz [a] [(.n 0,w0),(.a w0 (.n 1),.n 0)] rfl (il p) h
theorem R3:a+b<c→a<c:=fun p=>nt fun h=>no [a,b,c] [(.s (.a v0 v1),v2),(v2,v0)] rfl p h
theorem R4:a+10*b+200<c→a+64<c:=fun p=>nt fun h=>no [a,b,c] [(.s (.a (.a v0 (.m 10 v1)) (.n 200)),v2),(v2,.a v0 (.n 64))] rfl p h
theorem R5:a≤b→c+10*b+200<d→c+10*a+200<d:=fun p q=>nt fun h=>no [a,b,c,d] [(.m 10 v0,.m 10 v1),(.s (.a (.a v2 (.m 10 v1)) (.n 200)),v3),(v3,.a (.a v2 (.m 10 v0)) (.n 200))] rfl (Xx 10 p) q h
theorem R6:a≤b→c+b<d→c+a<d:=fun p q=>nt fun h=>no [a,b,c,d] [(v0,v1),(.s (.a v2 v1),v3),(v3,.a v2 v0)] rfl p q h
theorem R7:a+10*(b+1)+200<c→a+3+10*b+200<c:=fun p=>nt fun h=>no [a,b,c] [(.s (.a (.a v0 (.m 10 (.s v1))) (.n 200)),v2),(v2,.a (.a (.a v0 (.n 3)) (.m 10 v1)) (.n 200))] rfl p h
theorem R8:a+(b+1)<c→a+1+b<c:=fun p=>nt fun h=>no [a,b,c] [(.s (.a v0 (.s v1)),v2),(v2,.a (.s v0) v1)] rfl p h
theorem R9:a≤b→¬a<b→a=b:=fun p q=>an (nl fun h=>no [a,b] [(v0,v1),(.s v1,v0)] rfl p h) (nl fun h=>no [a,b] [(v1,v0),(.s v0,v1)] rfl (nl q) h)
theorem R10:a<b→b+1-(a+1)<b+1-a:=fun p=>nt fun h=>no [a,b,((b+1)-a),((b+1)-(a+1))] [(v2,v3),(.s v1,.a v2 v0),(.a v3 (.s v0),.s v1)] rfl h (sb (b+1) a) (sc (nl fun u=>no [a,b,((b+1)-a),((b+1)-(a+1))] [(.s v0,v1),(.s (.s v1),.s v0)] rfl p u))
theorem R11:a≤b→a+1≤b+1:=fun p=>nl fun h=>no [a,b] [(v0,v1),(.s (.s v1),.s v0)] rfl p h
theorem R12:a≤b→c≤d→d<a→c≤b:=fun p q r=>nl fun h=>no [a,b,c,d] [(v0,v1),(v2,v3),(.s v3,v0),(.s v1,v2)] rfl p q r h
theorem R13:a≤b→a≤b+1:=fun p=>nl fun h=>no [a,b] [(v0,v1),(.s (.s v1),v0)] rfl p h
theorem R14:a=b→a≤b:=fun p=>nl fun h=>no [a,b] [(v0,v1),(.s v1,v0)] rfl (le' p) h
theorem R15:a=b+c→b≤a:=fun p=>nl fun h=>no [a,b,c] [(.a v1 v2,v0),(.s v0,v1)] rfl (le' p.symm) h
theorem R16:a<128→¬1114111<(↑a:Int):=fun p=>fun h=>nz [↑a] [(.a w0 (.n 1),.n 128),(.a (.n 1114111) (.n 1),w0)] rfl (zl p) h
theorem R17:¬(↑a:Int)<0:=fun h=>nz [↑a] [(.a w0 (.n 1),.n 0),(.n 0,w0)] rfl h (nn a)
theorem R18 {a:Int}{b:Nat}:a≤(↑b:Int)→Min.min (Int.toNat a) b=Int.toNat a:=fun h=>Nat.min_eq_left (Int.toNat_le.mpr h)
theorem R19 {a:Int}:0≤a→Max.max 0 a=a:=Int.max_eq_right
theorem R20 {a:Int}:0≤a→¬a<0:=fun p=>fun h=>nz [a] [(.n 0,w0),(.a w0 (.n 1),.n 0)] rfl p h
theorem R21:1≤a+1+1:=nl fun h=>no [a] [(.s (.s (.s v0)),.n 1)] rfl h
theorem R22:a+10*(b+1)+200<c→a+1+10*b+200<c:=fun p=>nt fun h=>no [a,b,c] [(.s (.a (.a v0 (.m 10 (.s v1))) (.n 200)),v2),(v2,.a (.a (.s v0) (.m 10 v1)) (.n 200))] rfl p h
theorem R23:a+1+b=a+(b+1):=an (nl fun h=>no [a,b] [(.s (.a v0 (.s v1)),.a (.s v0) v1)] rfl h) (nl fun h=>no [a,b] [(.s (.a (.s v0) v1),.a v0 (.s v1))] rfl h)
theorem R24:0<a→¬a-1=a:=fun p=>fun h=>no [a,(a-1)] [(v0,v1),(.s v1,v0)] rfl (le' h.symm) (sc (nl fun u=>no [a,(a-1)] [(.s (.n 0),v0),(.s v0,.n 1)] rfl p u))
theorem R25:0<a→a-1<a:=fun p=>nt fun h=>no [a,(a-1)] [(v0,v1),(.s v1,v0)] rfl h (sc (nl fun u=>no [a,(a-1)] [(.s (.n 0),v0),(.s v0,.n 1)] rfl p u))
theorem R26:Int.toNat (-1+(↑a:Int))=a-1:=by rw[Int.add_comm];exact Int.toNat_sub a 1
theorem R27:-1+(↑a:Int)<(↑a:Int):=it fun h=>nz [↑a] [(w0,.a (.g (.n 1)) w0)] rfl h
theorem R28:0<a→0≤-1+(↑a:Int):=fun p=>il fun h=>nz [↑a] [(.a (.n 0) (.n 1),w0),(.a (.a (.g (.n 1)) w0) (.n 1),.n 0)] rfl (zl p) h
theorem R29:a<b→b<a→False:=fun p q=>no [a,b] [(.s v0,v1),(.s v1,v0)] rfl p q
theorem R30:a<a→False:=fun p=>no [a] [(.s v0,v0)] rfl p
theorem R31:a≤b→b<c→a≤c∧c<a+(d+1-a)→a≤b∧b<a+(d+1-a):=fun p q r=>⟨nl fun h=>no [a,b,c,d,((d+1)-a)] [(v0,v1),(.s v1,v0)] rfl p h,nt fun h=>no [a,b,c,d,((d+1)-a)] [(.s v1,v2),(.s v2,.a v0 v4),(.a v0 v4,v1)] rfl q r.2 h⟩
theorem R32:a≤b→b<c→a≤b∧b<a+(c+1-a):=fun p q=>⟨nl fun h=>no [a,b,c] [(v0,v1),(.s v1,v0)] rfl p h,nt fun h=>no [a,b,c,((c+1)-a)] [(.s v1,v2),(.a v0 v3,v1),(.s v2,.a v3 v0)] rfl q h (sb (c+1) a)⟩
theorem R33:a≤b∧b<a+(c+1-a)→a≤b:=fun p=>nl fun h=>no [a,b,c,((c+1)-a)] [(v0,v1),(.s v1,v0)] rfl p.1 h
theorem R34:Int.toNat (max 0 (↑a:Int))=a:=congrArg Int.toNat (Int.max_eq_right (Int.natCast_nonneg a))
theorem R35:¬a≤b→b-c≤a-c:=fun p=>nl fun h=>(to a c).elim (fun u=>(to b c).elim (fun uv=>no [a,b,c,(a-c),(b-c)] [(.s v3,v4),(v4,.n 0)] rfl h (le' (sz uv))) (fun uv=>no [a,b,c,(a-c),(b-c)] [(.s v1,v0),(v0,v2),(v2,v1)] rfl (nt p) u uv)) (fun u=>(to b c).elim (fun uv=>no [a,b,c,(a-c),(b-c)] [(.s v3,v4),(v4,.n 0)] rfl h (le' (sz uv))) (fun uv=>no [a,b,c,(a-c),(b-c)] [(.s v1,v0),(.s v3,v4),(v0,.a v3 v2),(.a v4 v2,v1)] rfl (nt p) h (sb a c) (sc (nl fun uvv=>no [a,b,c,(a-c),(b-c)] [(v2,v1),(.s v1,v2)] rfl uv uvv))))
theorem R36:a-b≤a-b:=nl fun h=>no [a,b,(a-b)] [(.s v2,v2)] rfl h
theorem R37:¬a≤b→max 0 (min (↑a:Int) (↑b:Int))=max 0 (min (↑b:Int) (↑b:Int)):=fun h=>congrArg (max 0) ((Int.min_eq_right (Int.ofNat_le.mpr (Nat.le_of_not_le h))).trans (Int.min_self _).symm)
theorem R38:0<a→0≤-1+(↑a:Int)∧-1+(↑a:Int)<(↑a:Int):=fun p=>⟨il fun h=>nz [↑a] [(.a (.n 0) (.n 1),w0),(.a (.a (.g (.n 1)) w0) (.n 1),.n 0)] rfl (zl p) h,it fun h=>nz [↑a] [(w0,.a (.g (.n 1)) w0)] rfl h⟩
theorem R39:a<b→a<b:=fun p=>nt fun h=>no [a,b] [(.s v0,v1),(v1,v0)] rfl p h
theorem R40:a=b+1→¬(↑a:Int)-1=(↑b:Int)→False:=fun p q=>(Int.lt_or_gt_of_ne q).elim (fun u=>nz [↑a,↑b] [(.a w1 (.n 1),w0),(.a (.s w0 (.n 1)) (.n 1),w1)] rfl (zl (le' p.symm)) u) (fun u=>nz [↑a,↑b] [(w0,.a w1 (.n 1)),(.a w1 (.n 1),.s w0 (.n 1))] rfl (zl (le' p)) u)
theorem R41:(↑a:Int)-1=(↑b:Int)→a=b+1:=fun p=>Nat.le_antisymm (nl fun h=>nz [↑a,↑b] [(.s w0 (.n 1),w1),(.a (.a w1 (.n 1)) (.n 1),w0)] rfl (Int.le_of_eq p) (zl h)) (nl fun h=>nz [↑a,↑b] [(w1,.s w0 (.n 1)),(.a w0 (.n 1),.a w1 (.n 1))] rfl (Int.le_of_eq p.symm) (zl h))
theorem R42:¬(↑a:Int)<(↑b:Int)→a≤b→a=b:=fun p q=>Nat.le_antisymm (nl fun h=>nz [↑b,↑a] [(w1,w0),(.a w0 (.n 1),w1)] rfl (zl q) (zl h)) (nl fun h=>nz [↑b,↑a] [(w0,w1),(.a w1 (.n 1),w0)] rfl (il p) (zl h))
theorem R43:a<a+1:=nt fun h=>no [a] [(.s v0,v0)] rfl h
theorem R44:a<a+2:=nt fun h=>no [a] [(.a v0 (.n 2),v0)] rfl h
theorem R45:a+1<b→(↑a:Int)+1<(↑b:Int):=fun p=>it fun h=>nz [↑a,↑b] [(.a (.a w0 (.n 1)) (.n 1),w1),(w1,.a w0 (.n 1))] rfl (zl p) h
theorem R46:-(↑a:Int)≤(↑b:Int)+1:=il fun h=>nz [↑b,↑a] [(.a (.a w0 (.n 1)) (.n 1),.g w1),(.n 0,w0),(.n 0,w1)] rfl h (nn b) (nn a)
theorem R47:a<b→b≤a+1→a+1=b:=fun p q=>an (nl fun h=>no [a,b] [(.s v0,v1),(.s v1,.s v0)] rfl p h) (nl fun h=>no [a,b] [(v1,.s v0),(.s (.s v0),v1)] rfl q h)
theorem R48:¬(↑a:Int)=0→¬a=0:=fun p=>fun h=>(Int.lt_or_gt_of_ne p).elim (fun u=>nz [↑a] [(.n 0,w0),(.a w0 (.n 1),.n 0)] rfl (zl (le' h.symm)) u) (fun u=>nz [↑a] [(w0,.n 0),(.a (.n 0) (.n 1),w0)] rfl (zl (le' h)) u)
theorem R49:(↑a:Int)=0→a=0:=fun p=>Nat.le_antisymm (nl fun h=>nz [↑a] [(w0,.n 0),(.a (.n 0) (.n 1),w0)] rfl (Int.le_of_eq p) (zl h)) (nl fun h=>nz [↑a] [(.n 0,w0),(.a w0 (.n 1),.n 0)] rfl (Int.le_of_eq p.symm) (zl h))
theorem R50:a≤b→a≤b+3:=fun p=>nl fun h=>no [a,b] [(v0,v1),(.s (.a v1 (.n 3)),v0)] rfl p h
theorem R51:a=120→¬a=92:=fun p=>fun h=>no [a] [(.n 120,v0),(v0,.n 92)] rfl (le' p.symm) (le' h)
theorem R52:a=120→¬a=10:=fun p=>fun h=>no [a] [(.n 120,v0),(v0,.n 10)] rfl (le' p.symm) (le' h)
theorem R53:a<b→(↑a:Int)<(↑b:Int):=fun p=>it fun h=>nz [↑a,↑b] [(.a w0 (.n 1),w1),(w1,w0)] rfl (zl p) h
theorem R54:-(↑a:Int)≤(↑b:Int):=il fun h=>nz [↑b,↑a] [(.a w0 (.n 1),.g w1),(.n 0,w0),(.n 0,w1)] rfl h (nn b) (nn a)
theorem R55:a+1+b-a=b+1:=an (nl fun h=>no [a,b,(((a+1)+b)-a)] [(.s (.s v1),v2),(.a v2 v0,.a (.s v0) v1)] rfl h (sc (nl fun u=>no [a,b,(((a+1)+b)-a)] [(.s (.a (.s v0) v1),v0)] rfl u))) (nl fun h=>no [a,b,(((a+1)+b)-a)] [(.s v2,.s v1),(.a (.s v0) v1,.a v2 v0)] rfl h (sb ((a+1)+b) a))
theorem R56:(↑a:Int)+1+(↑b:Int)=(↑(a+1+b):Int):=Int.le_antisymm (il fun h=>nz [↑a,↑b] [(.a (.a (.a w0 (.n 1)) w1) (.n 1),.a (.a w0 (.n 1)) w1)] rfl h) (il fun h=>nz [↑a,↑b] [(.a (.a (.a w0 (.n 1)) w1) (.n 1),.a (.a w0 (.n 1)) w1)] rfl h)
theorem R57:(↑a:Int)+1-1=(↑a:Int):=Int.le_antisymm (il fun h=>nz [↑a] [(.a w0 (.n 1),.s (.a w0 (.n 1)) (.n 1))] rfl h) (il fun h=>nz [↑a] [(.a (.s (.a w0 (.n 1)) (.n 1)) (.n 1),w0)] rfl h)
theorem R58:a<b→a≤b:=fun p=>nl fun h=>no [a,b] [(.s v0,v1),(.s v1,v0)] rfl p h
theorem R59:a≤a+1+b:=nl fun h=>no [a,b] [(.s (.a (.s v0) v1),v0)] rfl h
theorem R60:a≤b→b<c→a≤c:=fun p q=>nl fun h=>no [a,b,c] [(v0,v1),(.s v1,v2),(.s v2,v0)] rfl p q h
theorem R61:a<b→b≤c→c-b<c-a:=fun p q=>nt fun h=>no [a,b,c,(c-a),(c-b)] [(.s v0,v1),(v3,v4),(v2,.a v3 v0),(.a v4 v1,v2)] rfl p h (sb c a) (sc (nl fun u=>no [a,b,c,(c-a),(c-b)] [(v1,v2),(.s v2,v1)] rfl q u))
theorem R62:(↑a:Int)<(↑b:Int)→a<b:=fun p=>nt fun h=>nz [↑a,↑b] [(.a w0 (.n 1),w1),(w1,w0)] rfl p (zl h)
theorem R63:a+5≤b→a≤b:=fun p=>nl fun h=>no [a,b] [(.a v0 (.n 5),v1),(.s v1,v0)] rfl p h
theorem R64:a+5≤b→c≤d+e→e≤a→d=1→c≤b:=fun p q r s=>nl fun h=>no [a,b,c,d,e] [(.a v0 (.n 5),v1),(v2,.a v3 v4),(v4,v0),(v3,.n 1),(.s v1,v2)] rfl p q r (le' s) h
theorem R65:a≤b+c→b≤d+1→a≤d+(c+1):=fun p q=>nl fun h=>no [a,b,c,d] [(v0,.a v1 v2),(v1,.s v3),(.s (.a v3 (.s v2)),v0)] rfl p q h
theorem R66:a+1<b→a+2≤b:=fun p=>nl fun h=>no [a,b] [(.s (.s v0),v1),(.s v1,.a v0 (.n 2))] rfl p h
theorem R67:¬(↑a:Int)+1+1=(↑b:Int)→¬a+2=b:=fun p=>fun h=>(Int.lt_or_gt_of_ne p).elim (fun u=>nz [↑a,↑b] [(w1,.a w0 (.n 2)),(.a (.a (.a w0 (.n 1)) (.n 1)) (.n 1),w1)] rfl (zl (le' h.symm)) u) (fun u=>nz [↑a,↑b] [(.a w0 (.n 2),w1),(.a w1 (.n 1),.a (.a w0 (.n 1)) (.n 1))] rfl (zl (le' h)) u)
theorem R68:a+2=b→a+2≤b:=fun p=>nl fun h=>no [a,b] [(.a v0 (.n 2),v1),(.s v1,.a v0 (.n 2))] rfl (le' p) h
theorem R69:(↑a:Int)+1+1=(↑b:Int)→a+2=b:=fun p=>Nat.le_antisymm (nl fun h=>nz [↑a,↑b] [(.a (.a w0 (.n 1)) (.n 1),w1),(.a w1 (.n 1),.a w0 (.n 2))] rfl (Int.le_of_eq p) (zl h)) (nl fun h=>nz [↑a,↑b] [(w1,.a (.a w0 (.n 1)) (.n 1)),(.a (.a w0 (.n 2)) (.n 1),w1)] rfl (Int.le_of_eq p.symm) (zl h))
theorem R70:a+1<b→(↑(a+1):Int)<(↑b:Int):=fun p=>it fun h=>nz [↑a,↑b] [(.a (.a w0 (.n 1)) (.n 1),w1),(w1,.a w0 (.n 1))] rfl (zl p) h
theorem R71:-(↑a:Int)≤(↑(b+1):Int):=il fun h=>nz [↑b,↑a] [(.a (.a w0 (.n 1)) (.n 1),.g w1),(.n 0,w0),(.n 0,w1)] rfl h (nn b) (nn a)
theorem R72:0≤(↑a:Int):=il fun h=>nz [↑a] [(.a w0 (.n 1),.n 0),(.n 0,w0)] rfl h (nn a)
theorem R73:a+1≤b→a≤b:=fun p=>nl fun h=>no [a,b] [(.s v0,v1),(.s v1,v0)] rfl p h
theorem R74:a+1≤b→a<b:=fun p=>nt fun h=>no [a,b] [(.s v0,v1),(v1,v0)] rfl p h
theorem R75:a+1≤b→a=b→False:=fun p q=>no [a,b] [(.s v0,v1),(v1,v0)] rfl p (le' q.symm)
theorem R76:a+1≤a+1+b:=nl fun h=>no [a,b] [(.s (.a (.s v0) v1),.s v0)] rfl h
theorem R77:a+1+b<min c d→a+1+b<c:=fun h=>Nat.lt_of_lt_of_le h (Nat.min_le_left ..)
theorem R78:a+1<b→a+1≤b-1:=fun p=>nl fun h=>no [a,b,(b-1)] [(.s (.s v0),v1),(.s v2,.s v0),(v1,.s v2)] rfl p h (sb b 1)
theorem R79:a+1+0≤b→a+1≤b:=fun p=>nl fun h=>no [a,b] [(.a (.s v0) (.n 0),v1),(.s v1,.s v0)] rfl p h
theorem R80:a+1+2≤b→a+1≤b:=fun p=>nl fun h=>no [a,b] [(.a (.s v0) (.n 2),v1),(.s v1,.s v0)] rfl p h
theorem R81:a=0→a=a-1:=fun p=>an (nl fun h=>no [a,(a-1)] [(v0,.n 0),(.s v1,v0)] rfl (le' p) h) (nl fun h=>no [a,(a-1)] [(.s v0,v1),(v1,v0)] rfl h (sl a 1))
theorem R82:a<b→a+1≤b:=fun p=>nl fun h=>no [a,b] [(.s v0,v1),(.s v1,.s v0)] rfl p h
theorem R83:¬a=0→(↑(a-1):Int)=(↑a:Int)-1:=fun p=>Int.le_antisymm (il fun h=>(Nat.lt_or_gt_of_ne p).elim (fun u=>nz [↑a,↑(a-1)] [(.a w0 (.n 1),.n 0),(.n 0,w0)] rfl (zl u) (nn a)) (fun u=>nz [↑a,↑(a-1)] [(.a (.s w0 (.n 1)) (.n 1),w1),(.a w1 (.n 1),w0)] rfl h (zl (sc (nl fun uv=>nz [↑a,↑(a-1)] [(.a (.n 0) (.n 1),w0),(.a w0 (.n 1),.n 1)] rfl (zl u) (zl uv)))))) (il fun h=>nz [↑(a-1),↑a] [(.a w0 (.n 1),.s w1 (.n 1)),(w1,.a w0 (.n 1))] rfl h (zl (sb a 1)))
theorem R84:a+3-a=3:=an (nl fun h=>no [a,((a+3)-a)] [(.s (.n 3),v1),(.a v1 v0,.a v0 (.n 3))] rfl h (sc (nl fun u=>no [a,((a+3)-a)] [(.s (.a v0 (.n 3)),v0)] rfl u))) (nl fun h=>no [a,((a+3)-a)] [(.s v1,.n 3),(.a v0 (.n 3),.a v1 v0)] rfl h (sb (a+3) a))
theorem R85:(↑a:Int)+1+2=(↑(a+3):Int):=Int.le_antisymm (il fun h=>nz [↑a] [(.a (.a w0 (.n 3)) (.n 1),.a (.a w0 (.n 1)) (.n 2))] rfl h) (il fun h=>nz [↑a] [(.a (.a (.a w0 (.n 1)) (.n 2)) (.n 1),.a w0 (.n 3))] rfl h)
theorem R86:a≤a+3:=nl fun h=>no [a] [(.s (.a v0 (.n 3)),v0)] rfl h
theorem R87:a<b→a=b→False:=fun p q=>no [a,b] [(.s v0,v1),(v1,v0)] rfl p (le' q.symm)
theorem R88:(↑(a+1):Int)-1=(↑a:Int):=Int.le_antisymm (il fun h=>nz [↑a] [(.a w0 (.n 1),.s (.a w0 (.n 1)) (.n 1))] rfl h) (il fun h=>nz [↑a] [(.a (.s (.a w0 (.n 1)) (.n 1)) (.n 1),w0)] rfl h)
theorem R89:a≤b→a=b+1→False:=fun p q=>no [a,b] [(v0,v1),(.s v1,v0)] rfl p (le' q.symm)
theorem R90:a≤900→b≤a+1→b≤1000:=fun p q=>nl fun h=>no [a,b] [(v0,.n 900),(v1,.s v0),(.s (.n 1000),v1)] rfl p q h
theorem R91:a≤900→a≤1000:=fun p=>nl fun h=>no [a] [(v0,.n 900),(.s (.n 1000),v0)] rfl p h
theorem R92:¬0<a→¬0<(↑a:Int):=fun p=>fun h=>nz [↑a] [(w0,.n 0),(.a (.n 0) (.n 1),w0)] rfl (zl (nl p)) h
theorem R93:0<a→0<(↑a:Int):=fun p=>it fun h=>nz [↑a] [(.a (.n 0) (.n 1),w0),(w0,.n 0)] rfl (zl p) h
theorem R94:(↑a:Int)=(↑b:Int)→a=b:=fun p=>Nat.le_antisymm (nl fun h=>nz [↑a,↑b] [(w0,w1),(.a w1 (.n 1),w0)] rfl (Int.le_of_eq p) (zl h)) (nl fun h=>nz [↑a,↑b] [(w1,w0),(.a w0 (.n 1),w1)] rfl (Int.le_of_eq p.symm) (zl h))
theorem R95:a≤900→b≤c+1→c≤a+1→b≤1000:=fun p q r=>nl fun h=>no [a,b,c] [(v0,.n 900),(v1,.s v2),(v2,.s v0),(.s (.n 1000),v1)] rfl p q r h
theorem R96:a+5≤b→c≤d+a→d=1→c≤b:=fun p q r=>nl fun h=>no [a,b,c,d] [(.a v0 (.n 5),v1),(v2,.a v3 v0),(v3,.n 1),(.s v1,v2)] rfl p q (le' r) h
theorem R97:a≤b→b=c→c+5≤d→a+5≤d:=fun p q r=>nl fun h=>no [a,b,c,d] [(v0,v1),(v1,v2),(.a v2 (.n 5),v3),(.s v3,.a v0 (.n 5))] rfl p (le' q) r h
theorem R98:a≤b→c≤a→c≤b:=fun p q=>nl fun h=>no [a,b,c] [(v0,v1),(v2,v0),(.s v1,v2)] rfl p q h
theorem R99:-1<(↑a:Int):=it fun h=>nz [↑a] [(w0,.g (.n 1)),(.n 0,w0)] rfl h (nn a)
theorem R100:0<a→-(↑a:Int)≤-1:=fun p=>il fun h=>nz [↑a] [(.a (.n 0) (.n 1),w0),(.a (.g (.n 1)) (.n 1),.g w0)] rfl (zl p) h
theorem R101:a≤890→b≤c+1→c≤a+1→b≤900:=fun p q r=>nl fun h=>no [a,b,c] [(v0,.n 890),(v1,.s v2),(v2,.s v0),(.s (.n 900),v1)] rfl p q r h
theorem R102:a=b→c=d→a<c→b≤d:=fun p q r=>nl fun h=>no [a,b,c,d] [(v1,v0),(v2,v3),(.s v0,v2),(.s v3,v1)] rfl (le' p.symm) (le' q) r h
theorem R103:a+1<b→¬a+1=b-1→a+1<b-1:=fun p q=>nt fun h=>(ne q).elim (fun u=>no [a,b,(b-1)] [(v2,.s v0),(.s (.s v0),v2)] rfl h u) (fun u=>no [a,b,(b-1)] [(.s (.s v0),v1),(.s v2,.s v0),(v1,.s v2)] rfl p u (sb b 1))
theorem R104:a=b→a<c→c≤b→False:=fun p q r=>no [a,b,c] [(v1,v0),(.s v0,v2),(v2,v1)] rfl (le' p.symm) q r
theorem R105:a<b→b-1<b:=fun p=>nt fun h=>no [a,b,(b-1)] [(v1,v2),(.s v2,v1)] rfl h (sc (nl fun u=>no [a,b,(b-1)] [(.s v0,v1),(.s v1,.n 1)] rfl p u))
theorem R106:a<b→¬a=b-1→a<b-1:=fun p q=>nt fun h=>(ne q).elim (fun u=>no [a,b,(b-1)] [(v2,v0),(.s v0,v2)] rfl h u) (fun u=>no [a,b,(b-1)] [(.s v0,v1),(.s v2,v0),(v1,.s v2)] rfl p u (sb b 1))
theorem R107:0+a=a:=an (nl fun h=>no [a] [(.s v0,.a (.n 0) v0)] rfl h) (nl fun h=>no [a] [(.s (.a (.n 0) v0),v0)] rfl h)
theorem R108:¬120=10:=fun h=>no [] [(.n 120,.n 10)] rfl (le' h)
theorem R109:¬a=10→¬a=10:=fun p=>fun h=>(ne p).elim (fun u=>no [a] [(.n 10,v0),(.s v0,.n 10)] rfl (le' h.symm) u) (fun u=>no [a] [(v0,.n 10),(.s (.n 10),v0)] rfl (le' h) u)
theorem R110:¬41=10:=fun h=>no [] [(.n 41,.n 10)] rfl (le' h)
theorem R111:¬40=10:=fun h=>no [] [(.n 40,.n 10)] rfl (le' h)
theorem R112:a=0→a≤b:=fun p=>nl fun h=>no [a,b] [(v0,.n 0),(.s v1,v0)] rfl (le' p) h
theorem R113:a=b+1→c=b+1→c≤a:=fun p q=>nl fun h=>no [a,b,c] [(.s v1,v0),(v2,.s v1),(.s v0,v2)] rfl (le' p.symm) (le' q) h
theorem R114:a=b+1→c≤b→c≤a:=fun p q=>nl fun h=>no [a,b,c] [(.s v1,v0),(v2,v1),(.s v0,v2)] rfl (le' p.symm) q h
theorem R115:a≤b→c=b+1→a<c:=fun p q=>nt fun h=>no [a,b,c] [(v0,v1),(.s v1,v2),(v2,v0)] rfl p (le' q.symm) h
theorem R116:a=b+c→d≤b→d≤a:=fun p q=>nl fun h=>no [a,b,c,d] [(.a v1 v2,v0),(v3,v1),(.s v0,v3)] rfl (le' p.symm) q h
theorem R117:a+b+c=a+(b+c):=an (nl fun h=>no [a,b,c] [(.s (.a v0 (.a v1 v2)),.a (.a v0 v1) v2)] rfl h) (nl fun h=>no [a,b,c] [(.s (.a (.a v0 v1) v2),.a v0 (.a v1 v2))] rfl h)
theorem R118:¬a≤b→¬b<a-1→(↑b:Int)+1=(↑a:Int):=fun p q=>Int.le_antisymm (il fun h=>nz [↑b,↑a,↑(a-1)] [(.a w0 (.n 1),w1),(.a w1 (.n 1),.a w0 (.n 1))] rfl (zl (nt p)) h) (il fun h=>nz [↑b,↑a,↑(a-1)] [(w2,w0),(.a (.a w0 (.n 1)) (.n 1),w1),(w1,.a w2 (.n 1))] rfl (zl (nl q)) h (zl (sb a 1)))
theorem R119:a<b→c<a→a-1<b-1:=fun p q=>nt fun h=>no [a,b,c,(b-1),(a-1)] [(.s v0,v1),(v3,v4),(v1,.s v3),(.s v4,v0)] rfl p h (sb b 1) (sc (nl fun u=>no [a,b,c,(b-1),(a-1)] [(.s v2,v0),(.s v0,.n 1)] rfl q u))
theorem R120:a+1<b→a<b:=fun p=>nt fun h=>no [a,b] [(.s (.s v0),v1),(v1,v0)] rfl p h
theorem R121:a≤b→a-1≤b:=fun p=>nl fun h=>no [a,b,(a-1)] [(v0,v1),(.s v1,v2),(v2,v0)] rfl p h (sl a 1)
theorem R122:a-1+1≤b→a≤b:=fun p=>nl fun h=>no [a,b,(a-1)] [(.s v2,v1),(.s v1,v0),(v0,.s v2)] rfl p h (sb a 1)
theorem R123:a<b→c<a→c<b:=fun p q=>nt fun h=>no [a,b,c] [(.s v0,v1),(.s v2,v0),(v1,v2)] rfl p q h
theorem R124:a<b+1→¬a=b→a<b:=fun p q=>nt fun h=>(ne q).elim (fun u=>no [a,b] [(v1,v0),(.s v0,v1)] rfl h u) (fun u=>no [a,b] [(.s v0,.s v1),(.s v1,v0)] rfl p u)
theorem R125:a<0→False:=fun p=>no [a] [(.s v0,.n 0)] rfl p
theorem R126:1+(a+1)=a+1+1:=an (nl fun h=>no [a] [(.s (.s (.s v0)),.a (.n 1) (.s v0))] rfl h) (nl fun h=>no [a] [(.s (.a (.n 1) (.s v0)),.s (.s v0))] rfl h)
theorem R127:0<a+1:=nt fun h=>no [a] [(.s v0,.n 0)] rfl h
theorem R128:1+a≤b→b<1+c-1→b-1<c-1:=fun p q=>nt fun h=>no [a,b,c,((1+c)-1),(c-1),(b-1)] [(.s v1,v3),(v4,v5),(v2,.s v4),(.s v3,.a (.n 1) v2),(.s v5,v1)] rfl q h (sb c 1) (sc (nl fun u=>no [a,b,c,((1+c)-1),(c-1),(b-1)] [(.s (.a (.n 1) v2),.n 1)] rfl u)) (sc (nl fun u=>no [a,b,c,((1+c)-1),(c-1),(b-1)] [(.a (.n 1) v0,v1),(.s v1,.n 1)] rfl p u))
theorem R129:1+a≤b→a≤b-1:=fun p=>nl fun h=>no [a,b,(b-1)] [(.a (.n 1) v0,v1),(.s v2,v0),(v1,.s v2)] rfl p h (sb b 1)
theorem R130:1+a≤b→b=b-1+1:=fun p=>an (nl fun h=>no [a,b,(b-1)] [(.s (.s v2),v1),(v1,.s v2)] rfl h (sb b 1)) (nl fun h=>no [a,b,(b-1)] [(.s v1,.s v2),(.s v2,v1)] rfl h (sc (nl fun u=>no [a,b,(b-1)] [(.a (.n 1) v0,v1),(.s v1,.n 1)] rfl p u)))
theorem R131:0<a→1+a-1=a-1+1:=fun p=>an (nl fun h=>no [a,(a-1),((1+a)-1)] [(.s (.s v1),v2),(v0,.s v1),(.s v2,.a (.n 1) v0)] rfl h (sb a 1) (sc (nl fun u=>no [a,(a-1),((1+a)-1)] [(.s (.a (.n 1) v0),.n 1)] rfl u))) (nl fun h=>no [a,((1+a)-1),(a-1)] [(.s v1,.s v2),(.a (.n 1) v0,.s v1),(.s v2,v0)] rfl h (sb (1+a) 1) (sc (nl fun u=>no [a,((1+a)-1),(a-1)] [(.s (.n 0),v0),(.s v0,.n 1)] rfl p u)))
theorem R132:a<b→1+a<1+b:=fun p=>nt fun h=>no [a,b] [(.s v0,v1),(.a (.n 1) v1,.a (.n 1) v0)] rfl p h
theorem R133:a+1<1+b-1→a<b-1:=fun p=>nt fun h=>no [a,b,((1+b)-1),(b-1)] [(.s (.s v0),v2),(v3,v0),(v1,.s v3),(.s v2,.a (.n 1) v1)] rfl p h (sb b 1) (sc (nl fun u=>no [a,b,((1+b)-1),(b-1)] [(.s (.a (.n 1) v1),.n 1)] rfl u))
theorem R134:0<1+a:=nt fun h=>no [a] [(.a (.n 1) v0,.n 0)] rfl h
theorem R135:a<b→0<b:=fun p=>nt fun h=>no [a,b] [(.s v0,v1),(v1,.n 0)] rfl p h
theorem R136:a<b→1+b-1=b-1+1:=fun p=>an (nl fun h=>no [a,b,(b-1),((1+b)-1)] [(.s (.s v2),v3),(v1,.s v2),(.s v3,.a (.n 1) v1)] rfl h (sb b 1) (sc (nl fun u=>no [a,b,(b-1),((1+b)-1)] [(.s (.a (.n 1) v1),.n 1)] rfl u))) (nl fun h=>no [a,b,((1+b)-1),(b-1)] [(.s v2,.s v3),(.a (.n 1) v1,.s v2),(.s v3,v1)] rfl h (sb (1+b) 1) (sc (nl fun u=>no [a,b,((1+b)-1),(b-1)] [(.s v0,v1),(.s v1,.n 1)] rfl p u)))
theorem R137:a+1<1+b→a<b:=fun p=>nt fun h=>no [a,b] [(.s (.s v0),.a (.n 1) v1),(v1,v0)] rfl p h
theorem R138:a<1-1→False:=fun p=>no [a,(1-1)] [(.s v0,v1),(.s v1,.n 1)] rfl p (sc (nl fun u=>no [a,(1-1)] [(.s (.n 1),.n 1)] rfl u))
theorem R139:0<1:=nt fun h=>no [] [(.n 1,.n 0)] rfl h
theorem R140:a<b→c≤d→d<a→c≤d∧d<c+(b+1-c):=fun p q r=>⟨nl fun h=>no [a,b,c,d] [(v2,v3),(.s v3,v2)] rfl q h,nt fun h=>no [a,b,c,d,((b+1)-c)] [(.s v0,v1),(.s v3,v0),(.a v2 v4,v3),(.s v1,.a v4 v2)] rfl p r h (sb (b+1) c)⟩
theorem R141:a<b→a<b+1:=fun p=>nt fun h=>no [a,b] [(.s v0,v1),(.s v1,v0)] rfl p h
theorem R142:1≤1:=nl fun h=>no [] [(.s (.n 1),.n 1)] rfl h
theorem R143:a<16777216→¬16777216<a+1+0:=fun p=>fun h=>no [a] [(.s v0,.n 16777216),(.s (.n 16777216),.a (.s v0) (.n 0))] rfl p h
theorem R144:¬a<b→b≤a:=fun p=>nl fun h=>no [a,b] [(v1,v0),(.s v0,v1)] rfl (nl p) h
theorem R145:a<b→¬b≤a:=fun p=>fun h=>no [a,b] [(.s v0,v1),(v1,v0)] rfl p h
theorem R146:¬a<0:=fun h=>no [a] [(.s v0,.n 0)] rfl h
theorem R147:a≤b→(↑a:Int)-1<(↑b:Int):=fun p=>it fun h=>nz [↑a,↑b] [(w0,w1),(w1,.s w0 (.n 1))] rfl (zl p) h
theorem R148:a≤b→¬(↑(b+1):Int)-1<(↑a:Int):=fun p=>fun h=>nz [↑a,↑b] [(w0,w1),(.a (.s (.a w1 (.n 1)) (.n 1)) (.n 1),w0)] rfl (zl p) h
theorem R149:a<b→0+a<b:=fun p=>nt fun h=>no [a,b] [(.s v0,v1),(v1,.a (.n 0) v0)] rfl p h
theorem R150:min a b=c→c≤b:=fun h=>h▸Nat.min_le_right ..
theorem R151:a+b=c→Int.toNat ((↑c:Int)-(↑a:Int))=b:=fun p=>Nat.le_antisymm (nl fun h=>nz [↑a,↑b,↑c,↑(Int.toNat ((↑c:Int)-(↑a:Int)))] [(w2,.a w0 w1),(.a w1 (.n 1),w3),(w3,.s w2 w0)] rfl (zl (le' p.symm)) (zl h) (tn (il fun u=>nz [↑a,↑b,↑c,↑(Int.toNat ((↑c:Int)-(↑a:Int)))] [(.a w0 w1,w2),(.a (.s w2 w0) (.n 1),.n 0),(.n 0,w1)] rfl (zl (le' p)) u (nn b)))) (nl fun h=>nz [↑a,↑b,↑c,↑(Int.toNat ((↑c:Int)-(↑a:Int)))] [(.a w0 w1,w2),(.a w3 (.n 1),w1),(.s w2 w0,w3)] rfl (zl (le' p)) (zl h) (st ((↑c:Int)-(↑a:Int))))
theorem R152:a=b→c≤b→¬0+a<c:=fun p q=>fun h=>no [a,b,c] [(v1,v0),(v2,v1),(.s (.a (.n 0) v0),v2)] rfl (le' p.symm) q h
theorem R153:a≤b→c+b=d→¬(↑d:Int)-(↑c:Int)<(↑a:Int):=fun p q=>fun h=>nz [↑a,↑b,↑c,↑d] [(w0,w1),(.a w2 w1,w3),(.a (.s w3 w2) (.n 1),w0)] rfl (zl p) (zl (le' q)) h
theorem R154:a+(b+1)=a+1+b:=an (nl fun h=>no [a,b] [(.s (.a (.s v0) v1),.a v0 (.s v1))] rfl h) (nl fun h=>no [a,b] [(.s (.a v0 (.s v1)),.a (.s v0) v1)] rfl h)
theorem R155:a+(b+1)=c→a+1+b=c:=fun p=>an (nl fun h=>no [a,b,c] [(.a v0 (.s v1),v2),(.s v2,.a (.s v0) v1)] rfl (le' p) h) (nl fun h=>no [a,b,c] [(v2,.a v0 (.s v1)),(.s (.a (.s v0) v1),v2)] rfl (le' p.symm) h)
theorem R156:a+(b+1)=c→a<c:=fun p=>nt fun h=>no [a,b,c] [(.a v0 (.s v1),v2),(v2,v0)] rfl (le' p) h
theorem R157:14+1≤9*a+20:=nl fun h=>no [a] [(.s (.a (.m 9 v0) (.n 20)),.s (.n 14))] rfl h
theorem R158:a≤4294967295→b+1+1≤a→b≤4294967295:=fun p q=>nl fun h=>no [a,b] [(v0,.n 4294967295),(.s (.s v1),v0),(.s (.n 4294967295),v1)] rfl p q h
theorem R159:10+1≤9*a+20:=nl fun h=>no [a] [(.s (.a (.m 9 v0) (.n 20)),.s (.n 10))] rfl h
theorem R160:a≤b→9*a+2+8+1≤9*b+20:=fun p=>nl fun h=>no [a,b] [(.m 9 v0,.m 9 v1),(.s (.a (.m 9 v1) (.n 20)),.s (.a (.a (.m 9 v0) (.n 2)) (.n 8)))] rfl (Xx 9 p) h
theorem R161:9*a+2+8+1≤9*(a+1)+2:=nl fun h=>no [a] [(.s (.a (.m 9 (.s v0)) (.n 2)),.s (.a (.a (.m 9 v0) (.n 2)) (.n 8)))] rfl h
theorem R162:a+4+1≤a+6:=nl fun h=>no [a] [(.s (.a v0 (.n 6)),.s (.a v0 (.n 4)))] rfl h
theorem R163:a≤4294967295→min 4294967295 a=a:=Nat.min_eq_right
theorem R164:a<4*(b+1)→¬a≤4→a-4<4*b:=fun p q=>nt fun h=>no [a,b,(a-4)] [(.s v0,.m 4 (.s v1)),(.m 4 v1,v2),(.a v2 (.n 4),v0)] rfl p h (sc (nl fun u=>no [a,b,(a-4)] [(.s (.n 4),v0),(.s v0,.n 4)] rfl (nt q) u))
theorem R165:¬a≤4→a=4+(a-4):=fun p=>an (nl fun h=>no [a,(a-4)] [(.s (.a (.n 4) v1),v0),(v0,.a v1 (.n 4))] rfl h (sb a 4)) (nl fun h=>no [a,(a-4)] [(.s v0,.a (.n 4) v1),(.a v1 (.n 4),v0)] rfl h (sc (nl fun u=>no [a,(a-4)] [(.s (.n 4),v0),(.s v0,.n 4)] rfl (nt p) u)))
theorem R166:a≤4→4=a+(4-a):=fun p=>an (nl fun h=>no [a,(4-a)] [(.s (.a v0 v1),.n 4),(.n 4,.a v1 v0)] rfl h (sb 4 a)) (nl fun h=>no [a,(4-a)] [(.s (.n 4),.a v0 v1),(.a v1 v0,.n 4)] rfl h (sc (nl fun u=>no [a,(4-a)] [(v0,.n 4),(.s (.n 4),v0)] rfl p u)))
theorem R167:¬a<4*0:=fun h=>no [a] [(.s v0,.m 4 (.n 0))] rfl h
theorem R168:a≤b→b-a<c→(¬c=0∧a≤b)∧b-a<c:=fun p q=>⟨⟨fun h=>no [a,b,c,(b-a)] [(.s v3,v2),(v2,.n 0)] rfl q (le' h),nl fun h=>no [a,b,c,(b-a)] [(v0,v1),(.s v1,v0)] rfl p h⟩,nt fun h=>no [a,b,c,(b-a)] [(.s v3,v2),(v2,v3)] rfl q h⟩
theorem R169:a≤b-c→b-c<a→False:=fun p q=>no [a,b,c,(b-c)] [(v0,v3),(.s v3,v0)] rfl p q
theorem R170:a≤1048576→Min.min 9223372036854775807 a=a:=fun h=>Nat.min_eq_right (Zk h (by decide))
theorem R171:a≤b→Min.min (Int.toNat (↑a:Int)) b=a:=fun h=>Nat.min_eq_left h
theorem R172:a≤b→b≤c→Min.min (Int.toNat (↑a:Int)) c=a:=fun h k=>Nat.min_eq_left (Zk h k)
theorem R173:a≤b→b≤1048576→(↑a:Int)≤1048576:=fun p q=>il fun h=>nz [↑a,↑b] [(w0,w1),(w1,.n 1048576),(.a (.n 1048576) (.n 1),w0)] rfl (zl p) (zl q) h
theorem R174:a≤b→b≤c→c≤1048576→(↑a:Int)≤1048576:=fun p q r=>il fun h=>nz [↑a,↑b,↑c] [(w0,w1),(w1,w2),(w2,.n 1048576),(.a (.n 1048576) (.n 1),w0)] rfl (zl p) (zl q) (zl r) h
theorem R175:a≤1048576→a≤1048576:=fun p=>nl fun h=>no [a] [(v0,.n 1048576),(.s (.n 1048576),v0)] rfl p h
theorem R176:a≤1048576→b≤a→(↑b:Int)≤1048576:=fun p q=>il fun h=>nz [↑a,↑b] [(w0,.n 1048576),(w1,w0),(.a (.n 1048576) (.n 1),w1)] rfl (zl p) (zl q) h
theorem R177:¬a+1<a:=fun h=>no [a] [(.s (.s v0),v0)] rfl h
theorem R178:a<b→b-(b-a)=a:=fun p=>an (nl fun h=>no [a,b,(b-(b-a)),(b-a)] [(.s v0,v2),(v1,.a v3 v0),(.a v2 v3,v1)] rfl h (sb b a) (sc (nl fun u=>no [a,b,(b-(b-a)),(b-a)] [(v3,v1),(.s v1,v3)] rfl (sl b a) u))) (nl fun h=>no [a,b,(b-(b-a)),(b-a)] [(.s v2,v0),(v1,.a v2 v3),(.a v3 v0,v1)] rfl h (sb b (b-a)) (sc (nl fun u=>no [a,b,(b-(b-a)),(b-a)] [(.s v0,v1),(.s v1,v0)] rfl p u)))
theorem R179:a+b<c→b+1≤c-a:=fun p=>nl fun h=>no [a,b,c,(c-a)] [(.s (.a v0 v1),v2),(.s v3,.s v1),(v2,.a v3 v0)] rfl p h (sb c a)
theorem R180:a-b-1=a-(b+1):=Nat.sub_sub a b 1
theorem R181:Int.toNat ((↑a:Int)-1)=a-1:=Int.toNat_sub a 1
theorem R182:a≤b→(↑a:Int)-1≤(↑b:Int):=fun p=>il fun h=>nz [↑a,↑b] [(w0,w1),(.a w1 (.n 1),.s w0 (.n 1))] rfl (zl p) h
theorem R183:0<a→0≤(↑a:Int)-1:=fun p=>il fun h=>nz [↑a] [(.a (.n 0) (.n 1),w0),(.a (.s w0 (.n 1)) (.n 1),.n 0)] rfl (zl p) h
theorem R184:6<14:=nt fun h=>no [] [(.n 14,.n 6)] rfl h
theorem R185:a≤b→a-c≤b:=fun p=>nl fun h=>no [a,b,c,(a-c)] [(v0,v1),(.s v1,v3),(v3,v0)] rfl p h (sl a c)
theorem R186:a+b<c→0<c-b:=fun p=>nt fun h=>no [a,b,c,(c-b)] [(.s (.a v0 v1),v2),(v3,.n 0),(v2,.a v3 v1)] rfl p h (sb c b)
theorem R187:a+b<c→c-b-1+1=c-b:=fun p=>an (nl fun h=>no [a,b,c,(c-b),((c-b)-1)] [(.s v3,.s v4),(.s v4,v3)] rfl h (sc (nl fun u=>no [a,b,c,(c-b),((c-b)-1)] [(.s (.a v0 v1),v2),(v2,.a v3 v1),(.s v3,.n 1)] rfl p (sb c b) u))) (nl fun h=>no [a,b,c,((c-b)-1),(c-b)] [(.s (.s v3),v4),(v4,.s v3)] rfl h (sb (c-b) 1))
theorem R188:a≤b→c+d<a→a-d-1<b:=fun p q=>nt fun h=>no [a,b,c,d,((a-d)-1),(a-d)] [(v0,v1),(v1,v4),(v5,v0),(.s v4,v5)] rfl p h (sl a d) (sc (nl fun u=>no [a,b,c,d,((a-d)-1),(a-d)] [(.s (.a v2 v3),v0),(v0,.a v5 v3),(.s v5,.n 1)] rfl q (sb a d) u))
theorem R189:a≤1048576→(↑a:Int)≤1048576:=fun p=>il fun h=>nz [↑a] [(w0,.n 1048576),(.a (.n 1048576) (.n 1),w0)] rfl (zl p) h
theorem R190:-1048576≤(↑a:Int):=il fun h=>nz [↑a] [(.a w0 (.n 1),.g (.n 1048576)),(.n 0,w0)] rfl h (nn a)
theorem R191:a<b→b≤1048576→(↑a:Int)≤1048576:=fun p q=>il fun h=>nz [↑a,↑b] [(.a w0 (.n 1),w1),(w1,.n 1048576),(.a (.n 1048576) (.n 1),w0)] rfl (zl p) (zl q) h
theorem R192:a≤b→b≤c→c+5≤d→a≤d:=fun p q r=>nl fun h=>no [a,b,c,d] [(v0,v1),(v1,v2),(.a v2 (.n 5),v3),(.s v3,v0)] rfl p q r h
theorem R193:a<b→c≤a→c+1≤b:=fun p q=>nl fun h=>no [a,b,c] [(.s v0,v1),(v2,v0),(.s v1,.s v2)] rfl p q h
theorem R194:a<b-c→c+a<b:=fun p=>nt fun h=>(to b c).elim (fun u=>no [a,b,c,(b-c)] [(.s v0,v3),(v3,.n 0)] rfl p (le' (sz u))) (fun u=>no [a,b,c,(b-c)] [(.s v0,v3),(v1,.a v2 v0),(.a v3 v2,v1)] rfl p h (sc (nl fun uv=>no [a,b,c,(b-c)] [(v2,v1),(.s v1,v2)] rfl u uv)))
theorem R195:a<b→b≤c→a<c:=fun p q=>nt fun h=>no [a,b,c] [(.s v0,v1),(v1,v2),(v2,v0)] rfl p q h
theorem R196:a<b→¬(↑b:Int)=0:=fun p=>fun h=>nz [↑a,↑b] [(.a w0 (.n 1),w1),(w1,.n 0),(.n 0,w0)] rfl (zl p) (Int.le_of_eq h) (nn a)
theorem R197:1≤9*a+20:=nl fun h=>no [a] [(.s (.a (.m 9 v0) (.n 20)),.n 1)] rfl h
theorem R198:a<b→1≤b-a:=fun p=>nl fun h=>no [a,b,(b-a)] [(.s v0,v1),(.s v2,.n 1),(v1,.a v2 v0)] rfl p h (sb b a)
theorem R199:a≤1048576→a≤4294967295:=fun p=>nl fun h=>no [a] [(v0,.n 1048576),(.s (.n 4294967295),v0)] rfl p h
theorem R200:a+5≤1048576→a-b≤1048576:=fun p=>nl fun h=>no [a,b,(a-b)] [(.a v0 (.n 5),.n 1048576),(.s (.n 1048576),v2),(v2,v0)] rfl p h (sl a b)
theorem R201:a<b→a+(b-1-a)=b-1:=fun p=>an (nl fun h=>no [a,b,(b-1),((b-1)-a)] [(.s v2,.a v0 v3),(.a v3 v0,v2)] rfl h (sc (nl fun u=>no [a,b,(b-1),((b-1)-a)] [(.s v0,v1),(v1,.s v2),(.s v2,v0)] rfl p (sb b 1) u))) (nl fun h=>no [a,b,((b-1)-a),(b-1)] [(.s (.a v0 v2),v3),(v3,.a v2 v0)] rfl h (sb (b-1) a))
theorem R202:a<b→0=b→False:=fun p q=>no [a,b] [(.s v0,v1),(v1,.n 0)] rfl p (le' q.symm)
theorem R203:a≤b→b≤c→a+(min b c-a)=b:=fun h k=>(congrArg (fun t=>a+(t-a)) (Nat.min_eq_left k)).trans (Nat.add_sub_cancel' h)
theorem R204:20*a+b+36≤20*a+b+40:=nl fun h=>no [a,b] [(.s (.a (.a (.m 20 v0) v1) (.n 40)),.a (.a (.m 20 v0) v1) (.n 36))] rfl h
theorem R205:a+3*b+20<16777216→a+1+0<16777216:=fun p=>nt fun h=>no [a,b] [(.s (.a (.a v0 (.m 3 v1)) (.n 20)),.n 16777216),(.n 16777216,.a (.s v0) (.n 0))] rfl p h
theorem R206:a=b-c→20*a+(d+1+1)+30+1≤20*b+d+34:=fun p=>nl fun h=>no [a,b,c,d,(b-c)] [(.m 20 v0,.m 20 v4),(.s (.a (.a (.m 20 v1) v3) (.n 34)),.s (.a (.a (.m 20 v0) (.s (.s v3))) (.n 30))),(.m 20 v4,.m 20 v1)] rfl (Xx 20 (le' p)) h (Xx 20 (sl b c))
theorem R207:a+3*b+20<16777216→c=b-d→a+1+1+3*c+12<16777216:=fun p q=>nt fun h=>no [a,b,c,d,(b-d)] [(.s (.a (.a v0 (.m 3 v1)) (.n 20)),.n 16777216),(.m 3 v2,.m 3 v4),(.n 16777216,.a (.a (.s (.s v0)) (.m 3 v2)) (.n 12)),(.m 3 v4,.m 3 v1)] rfl p (Xx 3 (le' q)) h (Xx 3 (sl b d))
theorem R208:a+3*b+20<16777216→c=b-d→-1+(↑c:Int)<4294967290:=fun p q=>it fun h=>nz [↑a,↑b,↑c,↑(b-d),↑d] [(.a (.a (.a w0 (.m 3 w1)) (.n 20)) (.n 1),.n 16777216),(w2,w3),(w2,w3),(w2,w3),(.n 4294967290,.a (.g (.n 1)) w2),(.n 4294967290,.a (.g (.n 1)) w2),(.n 4294967290,.a (.g (.n 1)) w2),(w3,w1),(w3,w1),(w3,w1),(.n 0,w0)] rfl (zl p) (zl (le' q)) (zl (le' q)) (zl (le' q)) h h h (zl (sl b d)) (zl (sl b d)) (zl (sl b d)) (nn a)
theorem R209:-1≤-1:=il fun h=>nz [] [(.a (.g (.n 1)) (.n 1),.g (.n 1))] rfl h
theorem R210:a+1+(b+c)=a+1+b+c:=an (nl fun h=>no [a,b,c] [(.s (.a (.a (.s v0) v1) v2),.a (.s v0) (.a v1 v2))] rfl h) (nl fun h=>no [a,b,c] [(.s (.a (.s v0) (.a v1 v2)),.a (.a (.s v0) v1) v2)] rfl h)
theorem R211:a+3*b+20<16777216→a+0<16777216:=fun p=>nt fun h=>no [a,b] [(.s (.a (.a v0 (.m 3 v1)) (.n 20)),.n 16777216),(.n 16777216,.a v0 (.n 0))] rfl p h
theorem R212:a+3*b+20<16777216→b≤4294967295:=fun p=>nl fun h=>no [a,b] [(.s (.a (.a v0 (.m 3 v1)) (.n 20)),.n 16777216),(.s (.n 4294967295),v1)] rfl p h
theorem R213:20*a+b+38≤20*a+b+40:=nl fun h=>no [a,b] [(.s (.a (.a (.m 20 v0) v1) (.n 40)),.a (.a (.m 20 v0) v1) (.n 38))] rfl h
theorem R214:a+1+1+1+(b+c)=a+1+1+1+b+c:=an (nl fun h=>no [a,b,c] [(.s (.a (.a (.s (.s (.s v0))) v1) v2),.a (.s (.s (.s v0))) (.a v1 v2))] rfl h) (nl fun h=>no [a,b,c] [(.s (.a (.s (.s (.s v0))) (.a v1 v2)),.a (.a (.s (.s (.s v0))) v1) v2)] rfl h)
theorem R215:a+8≤a+9:=nl fun h=>no [a] [(.s (.a v0 (.n 9)),.a v0 (.n 8))] rfl h
theorem R216:a+9+1≤20*b+a+30:=nl fun h=>no [a,b] [(.s (.a (.a (.m 20 v1) v0) (.n 30)),.s (.a v0 (.n 9)))] rfl h
theorem R217:a+1+5≤a+6:=nl fun h=>no [a] [(.s (.a v0 (.n 6)),.a (.s v0) (.n 5))] rfl h
theorem R218:a+3*b+12<16777216→a+1+1<16777216:=fun p=>nt fun h=>no [a,b] [(.s (.a (.a v0 (.m 3 v1)) (.n 12)),.n 16777216),(.n 16777216,.s (.s v0))] rfl p h
theorem R219:a+3*b+12<16777216→a+12<16777216:=fun p=>nt fun h=>no [a,b] [(.s (.a (.a v0 (.m 3 v1)) (.n 12)),.n 16777216),(.n 16777216,.a v0 (.n 12))] rfl p h
theorem R220:20*a+b+35+1≤20*(a+1+1)+b+30:=nl fun h=>no [a,b] [(.s (.a (.a (.m 20 (.s (.s v0))) v1) (.n 30)),.s (.a (.a (.m 20 v0) v1) (.n 35)))] rfl h
theorem R221:a=b-c→20*a+(d+1+1)+30≤20*b+d+32:=fun p=>nl fun h=>no [a,b,c,d,(b-c)] [(.m 20 v0,.m 20 v4),(.s (.a (.a (.m 20 v1) v3) (.n 32)),.a (.a (.m 20 v0) (.s (.s v3))) (.n 30)),(.m 20 v4,.m 20 v1)] rfl (Xx 20 (le' p)) h (Xx 20 (sl b c))
theorem R222:a+3*(b+1+1)+12<16777216→c=b-d→a+1+1+3*c+12<16777216:=fun p q=>nt fun h=>no [a,b,c,d,(b-d)] [(.s (.a (.a v0 (.m 3 (.s (.s v1)))) (.n 12)),.n 16777216),(.m 3 v2,.m 3 v4),(.n 16777216,.a (.a (.s (.s v0)) (.m 3 v2)) (.n 12)),(.m 3 v4,.m 3 v1)] rfl p (Xx 3 (le' q)) h (Xx 3 (sl b d))
theorem R223:a<a+1+1+b:=nt fun h=>no [a,b] [(.a (.s (.s v0)) v1,v0)] rfl h
theorem R224 {a:Int}{b c d:Nat}:a+(↑(b+1+1):Int)<4294967290→c=b-d→a+1+(↑c:Int)<4294967290:=fun p q=>it fun h=>nz [a,↑b,↑c,↑(b-d),↑d] [(.a (.a w0 (.a (.a w1 (.n 1)) (.n 1))) (.n 1),.n 4294967290),(w2,w3),(.n 4294967290,.a (.a w0 (.n 1)) w2),(w3,w1)] rfl p (zl (le' q)) h (zl (sl b d))
theorem R225 {a:Int}:-1≤a→-1≤a+1:=fun p=>il fun h=>nz [a] [(.g (.n 1),w0),(.a (.a w0 (.n 1)) (.n 1),.g (.n 1))] rfl p h
theorem R226:a+1+1<b+1→c=a-d→c<b:=fun p q=>nt fun h=>no [a,b,c,d,(a-d)] [(.s (.s (.s v0)),.s v1),(v2,v4),(v1,v2),(v4,v0)] rfl p (le' q) h (sl a d)
theorem R227:a+1+1+(b+c)=a+1+1+b+c:=an (nl fun h=>no [a,b,c] [(.s (.a (.a (.s (.s v0)) v1) v2),.a (.s (.s v0)) (.a v1 v2))] rfl h) (nl fun h=>no [a,b,c] [(.s (.a (.s (.s v0)) (.a v1 v2)),.a (.a (.s (.s v0)) v1) v2)] rfl h)
theorem R228:a+3*(b+1+1)+12<16777216→a+1+0<16777216:=fun p=>nt fun h=>no [a,b] [(.s (.a (.a v0 (.m 3 (.s (.s v1)))) (.n 12)),.n 16777216),(.n 16777216,.a (.s v0) (.n 0))] rfl p h
theorem R229 {a:Int}{b:Nat}:-1≤a→a+(↑(b+1+1):Int)<4294967290→b≤4294967295:=fun p q=>nl fun h=>nz [a,↑b] [(.g (.n 1),w0),(.a (.a w0 (.a (.a w1 (.n 1)) (.n 1))) (.n 1),.n 4294967290),(.a (.n 4294967295) (.n 1),w1)] rfl p q (zl h)
theorem R230:a+(2+b)=a+1+1+b:=an (nl fun h=>no [a,b] [(.s (.a (.s (.s v0)) v1),.a v0 (.a (.n 2) v1))] rfl h) (nl fun h=>no [a,b] [(.s (.a v0 (.a (.n 2) v1)),.a (.s (.s v0)) v1)] rfl h)
theorem R231 {a:Int}{b:Nat}:a+(↑b:Int)<4294967290→a+1<(↑4294967295:Int):=fun p=>it fun h=>nz [a,↑b] [(.a (.a w0 w1) (.n 1),.n 4294967290),(.n 4294967295,.a w0 (.n 1)),(.n 0,w1)] rfl p h (nn b)
theorem R232 {a:Int}:-1≤a→¬a+1<(↑0:Int):=fun p=>fun h=>nz [a] [(.g (.n 1),w0),(.a (.a w0 (.n 1)) (.n 1),.n 0)] rfl p h
theorem R233:min 1 (a+1)=1:=Nat.min_eq_left (Nat.le_add_left 1 a)
theorem R234:a=b+1→20*b+c+42+2≤20*a+c+30:=fun p=>nl fun h=>no [a,b,c] [(.m 20 (.s v1),.m 20 v0),(.s (.a (.a (.m 20 v0) v2) (.n 30)),.a (.a (.a (.m 20 v1) v2) (.n 42)) (.n 2))] rfl (Xx 20 (le' p.symm)) h
theorem R235:a+3*b+12<16777216→a+2<16777216:=fun p=>nt fun h=>no [a,b] [(.s (.a (.a v0 (.m 3 v1)) (.n 12)),.n 16777216),(.n 16777216,.a v0 (.n 2))] rfl p h
theorem R236 {a:Int}{b:Nat}:a+(↑b:Int)<4294967290→a<4294967290:=fun p=>it fun h=>nz [a,↑b] [(.a (.a w0 w1) (.n 1),.n 4294967290),(.n 4294967290,w0),(.n 0,w1)] rfl p h (nn b)
theorem R237:a+3*b+12<16777216→a+1+1+0<16777216:=fun p=>nt fun h=>no [a,b] [(.s (.a (.a v0 (.m 3 v1)) (.n 12)),.n 16777216),(.n 16777216,.a (.s (.s v0)) (.n 0))] rfl p h
theorem R238:20*a+b+37≤20*a+b+38:=nl fun h=>no [a,b] [(.s (.a (.a (.m 20 v0) v1) (.n 38)),.a (.a (.m 20 v0) v1) (.n 37))] rfl h
theorem R239:a+27+2≤20*(b+1+1+1)+a+30:=nl fun h=>no [a,b] [(.s (.a (.a (.m 20 (.s (.s (.s v1)))) v0) (.n 30)),.a (.a v0 (.n 27)) (.n 2))] rfl h
theorem R240:a+3*b+12<16777216→a+7<16777216:=fun p=>nt fun h=>no [a,b] [(.s (.a (.a v0 (.m 3 v1)) (.n 12)),.n 16777216),(.n 16777216,.a v0 (.n 7))] rfl p h
theorem R241:20*a+b+37+2≤20*(a+1+1)+b+30:=nl fun h=>no [a,b] [(.s (.a (.a (.m 20 (.s (.s v0))) v1) (.n 30)),.a (.a (.a (.m 20 v0) v1) (.n 37)) (.n 2))] rfl h
theorem R242 {a:Int}{b:Nat}:a+(↑(b+1+1):Int)<4294967290→a<4294967290:=fun p=>it fun h=>nz [a,↑b] [(.a (.a w0 (.a (.a w1 (.n 1)) (.n 1))) (.n 1),.n 4294967290),(.n 4294967290,w0),(.n 0,w1)] rfl p h (nn b)
theorem R243:a<a+1+1:=nt fun h=>no [a] [(.s (.s v0),v0)] rfl h
theorem R244:a+23+2≤20*b+a+30:=nl fun h=>no [a,b] [(.s (.a (.a (.m 20 v1) v0) (.n 30)),.a (.a v0 (.n 23)) (.n 2))] rfl h
theorem R245:a+22+2≤20*b+a+30:=nl fun h=>no [a,b] [(.s (.a (.a (.m 20 v1) v0) (.n 30)),.a (.a v0 (.n 22)) (.n 2))] rfl h
theorem R246:a=b-c→20*a+(d+1+1+1)+30≤20*b+d+33:=fun p=>nl fun h=>no [a,b,c,d,(b-c)] [(.m 20 v0,.m 20 v4),(.s (.a (.a (.m 20 v1) v3) (.n 33)),.a (.a (.m 20 v0) (.s (.s (.s v3)))) (.n 30)),(.m 20 v4,.m 20 v1)] rfl (Xx 20 (le' p)) h (Xx 20 (sl b c))
theorem R247:a+3*b+12<16777216→c<b→d=c-e→a+1+1+1+3*d+12<16777216:=fun p q r=>nt fun h=>no [a,b,c,d,e,(c-e)] [(.s (.a (.a v0 (.m 3 v1)) (.n 12)),.n 16777216),(.m 3 (.s v2),.m 3 v1),(.m 3 v3,.m 3 v5),(.n 16777216,.a (.a (.s (.s (.s v0))) (.m 3 v3)) (.n 12)),(.m 3 v5,.m 3 v2)] rfl p (Xx 3 q) (Xx 3 (le' r)) h (Xx 3 (sl c e))
theorem R248:a<b→a<b+c:=fun p=>nt fun h=>no [a,b,c] [(.s v0,v1),(.a v1 v2,v0)] rfl p h
theorem R249 {a:Int}{b c d e:Nat}:a+(↑b:Int)<4294967290→c<b→d=c-e→a+1+(↑d:Int)<4294967290:=fun p q r=>it fun h=>nz [a,↑b,↑c,↑d,↑(c-e),↑e] [(.a (.a w0 w1) (.n 1),.n 4294967290),(.a w2 (.n 1),w1),(w3,w4),(.n 4294967290,.a (.a w0 (.n 1)) w3),(w4,w2)] rfl p (zl q) (zl (le' r)) h (zl (sl c e))
theorem R250:a<b+1→c<a→d=c-e→d<b:=fun p q r=>nt fun h=>no [a,b,c,d,e,(c-e)] [(.s v0,.s v1),(.s v2,v0),(v3,v5),(v1,v3),(v5,v2)] rfl p q (le' r) h (sl c e)
theorem R251:a+(b+c)=a+b+c:=an (nl fun h=>no [a,b,c] [(.s (.a (.a v0 v1) v2),.a v0 (.a v1 v2))] rfl h) (nl fun h=>no [a,b,c] [(.s (.a v0 (.a v1 v2)),.a (.a v0 v1) v2)] rfl h)
theorem R252:a+3*b+12<16777216→c<b→c≤4294967295:=fun p q=>nl fun h=>no [a,b,c] [(.s (.a (.a v0 (.m 3 v1)) (.n 12)),.n 16777216),(.s v2,v1),(.s (.n 4294967295),v2)] rfl p q h
theorem R253 {a:Int}:a<4294967290→a+1<(↑4294967295:Int):=fun p=>it fun h=>nz [a] [(.a w0 (.n 1),.n 4294967290),(.n 4294967295,.a w0 (.n 1))] rfl p h
theorem R254:a+1+16≤a+17:=nl fun h=>no [a] [(.s (.a v0 (.n 17)),.a (.s v0) (.n 16))] rfl h
theorem R255:a+1+1+1≤a+3:=nl fun h=>no [a] [(.s (.a v0 (.n 3)),.s (.s (.s v0)))] rfl h
theorem R256:a+6<16777216→a+(4+1)<16777216:=fun p=>nt fun h=>no [a] [(.s (.a v0 (.n 6)),.n 16777216),(.n 16777216,.a v0 (.s (.n 4)))] rfl p h
theorem R257:a+6+3≤a+14:=nl fun h=>no [a] [(.s (.a v0 (.n 14)),.a (.a v0 (.n 6)) (.n 3))] rfl h
theorem R258:a+1≤a+3:=nl fun h=>no [a] [(.s (.a v0 (.n 3)),.s v0)] rfl h
theorem R259:a+2≤a+3:=nl fun h=>no [a] [(.s (.a v0 (.n 3)),.a v0 (.n 2))] rfl h
theorem R260:a+1+1+1+1≤a+8:=nl fun h=>no [a] [(.s (.a v0 (.n 8)),.s (.s (.s (.s v0))))] rfl h
theorem R261:a+6<16777216→a+(3+1+1)<16777216:=fun p=>nt fun h=>no [a] [(.s (.a v0 (.n 6)),.n 16777216),(.n 16777216,.a v0 (.s (.s (.n 3))))] rfl p h
theorem R262:a+b<16777216→a<16777216:=fun p=>nt fun h=>no [a,b] [(.s (.a v0 v1),.n 16777216),(.n 16777216,v0)] rfl p h
theorem R263:a+(b+1)<16777216→a+1+b<16777216:=fun p=>nt fun h=>no [a,b] [(.s (.a v0 (.s v1)),.n 16777216),(.n 16777216,.a (.s v0) v1)] rfl p h
theorem R264:1+(a+b)=a+1+b:=an (nl fun h=>no [a,b] [(.s (.a (.s v0) v1),.a (.n 1) (.a v0 v1))] rfl h) (nl fun h=>no [a,b] [(.s (.a (.n 1) (.a v0 v1)),.a (.s v0) v1)] rfl h)
theorem R265:20*a+55≤20*a+60:=nl fun h=>no [a] [(.s (.a (.m 20 v0) (.n 60)),.a (.m 20 v0) (.n 55))] rfl h
theorem R266:20*a+51≤20*a+60:=nl fun h=>no [a] [(.s (.a (.m 20 v0) (.n 60)),.a (.m 20 v0) (.n 51))] rfl h
theorem R267:20*a+42+3≤20*a+50:=nl fun h=>no [a] [(.s (.a (.m 20 v0) (.n 50)),.a (.a (.m 20 v0) (.n 42)) (.n 3))] rfl h
theorem R268:20*a+(0+1)+40≤20*a+41:=nl fun h=>no [a] [(.s (.a (.m 20 v0) (.n 41)),.a (.a (.m 20 v0) (.s (.n 0))) (.n 40))] rfl h
theorem R269:3*a+30<16777216→0+1+3*a+20<16777216:=fun p=>nt fun h=>no [a] [(.s (.a (.m 3 v0) (.n 30)),.n 16777216),(.n 16777216,.a (.a (.s (.n 0)) (.m 3 v0)) (.n 20))] rfl p h
theorem R270:20*a+(0+1)+40≤20*(a+1+1)+50:=nl fun h=>no [a] [(.s (.a (.m 20 (.s (.s v0))) (.n 50)),.a (.a (.m 20 v0) (.s (.n 0))) (.n 40))] rfl h
theorem R271:3*(a+1+1)+30<16777216→0+1+3*a+20<16777216:=fun p=>nt fun h=>no [a] [(.s (.a (.m 3 (.s (.s v0))) (.n 30)),.n 16777216),(.n 16777216,.a (.a (.s (.n 0)) (.m 3 v0)) (.n 20))] rfl p h
theorem R272:1≤20*a+60:=nl fun h=>no [a] [(.s (.a (.m 20 v0) (.n 60)),.n 1)] rfl h
theorem R273:a≤b→b+5≤1048576→c+1=a-d→3*c+30<16777216:=fun p q r=>nt fun h=>no [a,b,c,d,(a-d)] [(.m 3 v0,.m 3 v1),(.m 3 (.a v1 (.n 5)),.m 3 (.n 1048576)),(.m 3 (.s v2),.m 3 v4),(.n 16777216,.a (.m 3 v2) (.n 30)),(.m 3 v4,.m 3 v0)] rfl (Xx 3 p) (Xx 3 q) (Xx 3 (le' r)) h (Xx 3 (sl a d))
theorem R274:a≤b→b+5≤1048576→a-c≤4294967295:=fun p q=>nl fun h=>no [a,b,c,(a-c)] [(v0,v1),(.a v1 (.n 5),.n 1048576),(.s (.n 4294967295),v3),(v3,v0)] rfl p q h (sl a c)
theorem R275:a≤b→min a b-c=a-c:=fun h=>congrArg (·-c) (Nat.min_eq_left h)
theorem R276:a<b→0≤a∧a<0+(b+1-0):=fun p=>⟨nl fun h=>no [a,b] [(.s v0,.n 0)] rfl h,nt fun h=>no [a,b,((b+1)-0)] [(.s v0,v1),(.a (.n 0) v2,v0),(.s v1,.a v2 (.n 0))] rfl p h (sb (b+1) 0)⟩
theorem R277:a+(b+1)-1=a+b:=an (nl fun h=>no [a,b,((a+(b+1))-1)] [(.s (.a v0 v1),v2),(.s v2,.a v0 (.s v1))] rfl h (sc (nl fun u=>no [a,b,((a+(b+1))-1)] [(.s (.a v0 (.s v1)),.n 1)] rfl u))) (nl fun h=>no [a,b,((a+(b+1))-1)] [(.s v2,.a v0 v1),(.a v0 (.s v1),.s v2)] rfl h (sb (a+(b+1)) 1))
theorem R278:a+b<c→(↑(a+(b+1)):Int)-1<(↑c:Int):=fun p=>it fun h=>nz [↑a,↑b,↑c] [(.a (.a w0 w1) (.n 1),w2),(w2,.s (.a w0 (.a w1 (.n 1))) (.n 1))] rfl (zl p) h
theorem R279:-(↑a:Int)≤(↑(b+(c+1)):Int)-1:=il fun h=>nz [↑b,↑c,↑a] [(.a (.s (.a w0 (.a w1 (.n 1))) (.n 1)) (.n 1),.g w2),(.n 0,w0),(.n 0,w1),(.n 0,w2)] rfl h (nn b) (nn c) (nn a)
theorem R280:(↑(a+(b+1)):Int)-1=(↑(a+b):Int):=Int.le_antisymm (il fun h=>nz [↑a,↑b] [(.a (.a w0 w1) (.n 1),.s (.a w0 (.a w1 (.n 1))) (.n 1))] rfl h) (il fun h=>nz [↑a,↑b] [(.a (.s (.a w0 (.a w1 (.n 1))) (.n 1)) (.n 1),.a w0 w1)] rfl h)
theorem R281:(↑a:Int)≤(↑(a+b):Int)-1→b=b-1+1:=fun p=>Nat.le_antisymm (nl fun h=>nz [↑a,↑b,↑(b-1)] [(.a (.a w2 (.n 1)) (.n 1),w1),(w1,.a w2 (.n 1))] rfl (zl h) (zl (sb b 1))) (nl fun h=>nz [↑a,↑b,↑(b-1)] [(.a w1 (.n 1),.a w2 (.n 1)),(.a w2 (.n 1),w1)] rfl (zl h) (zl (sc (nl fun u=>nz [↑a,↑b,↑(b-1)] [(w0,.s (.a w0 w1) (.n 1)),(.a w1 (.n 1),.n 1)] rfl p (zl u)))))
theorem R282:¬(↑a:Int)≤(↑(a+b):Int)-1→b=0:=fun p=>Nat.le_antisymm (nl fun h=>nz [↑a,↑b] [(.a (.s (.a w0 w1) (.n 1)) (.n 1),w0),(.a (.n 0) (.n 1),w1)] rfl (it p) (zl h)) (nl fun h=>nz [↑a,↑b] [(.a w1 (.n 1),.n 0),(.n 0,w1)] rfl (zl h) (nn b))
theorem R283:a+b-1<c→(↑(a+b):Int)-1<(↑c:Int):=fun p=>it fun h=>nz [↑((a+b)-1),↑a,↑b,↑c] [(.a w0 (.n 1),w3),(w3,.s (.a w1 w2) (.n 1)),(.a w1 w2,.a w0 (.n 1))] rfl (zl p) h (zl (sb (a+b) 1))
theorem R284:(↑(a+b):Int)-1=(↑(a+b-1):Int)→-(↑c:Int)≤(↑(a+b):Int)-1:=fun p=>il fun h=>nz [↑a,↑b,↑((a+b)-1),↑c] [(w2,.s (.a w0 w1) (.n 1)),(.a (.s (.a w0 w1) (.n 1)) (.n 1),.g w3),(.n 0,w2),(.n 0,w3)] rfl (Int.le_of_eq p.symm) h (nn ((a+b)-1)) (nn c)
theorem R285:0<a→(↑(b+a):Int)-1=(↑(b+a-1):Int):=fun p=>Int.le_antisymm (il fun h=>nz [↑a,↑((b+a)-1),↑b] [(.a w1 (.n 1),.s (.a w2 w0) (.n 1)),(.a w2 w0,.a w1 (.n 1))] rfl h (zl (sb (b+a) 1))) (il fun h=>nz [↑a,↑b,↑((b+a)-1)] [(.a (.s (.a w1 w0) (.n 1)) (.n 1),w2),(.a w2 (.n 1),.a w1 w0)] rfl h (zl (sc (nl fun u=>nz [↑a,↑b,↑((b+a)-1)] [(.a (.n 0) (.n 1),w0),(.a (.a w1 w0) (.n 1),.n 1),(.n 0,w1)] rfl (zl p) (zl u) (nn b)))))
theorem R286:0<a→(↑b:Int)≤(↑(b+a):Int)-1:=fun p=>il fun h=>nz [↑a,↑b] [(.a (.n 0) (.n 1),w0),(.a (.s (.a w1 w0) (.n 1)) (.n 1),w1)] rfl (zl p) h
theorem R287:¬(↑a:Int)≤(↑(a+0):Int)-1:=fun h=>nz [↑a] [(w0,.s (.a w0 (.n 0)) (.n 1))] rfl h
theorem R288:a+b=c-d→0<b→¬(↑c:Int)≤(↑(d+a):Int):=by intros;omega
theorem R289:a=b-c→(↑b:Int)≤(↑(c+a):Int):=fun p=>il fun h=>nz [↑a,↑(b-c),↑b,↑c] [(w1,w0),(.a (.a w3 w0) (.n 1),w2),(w2,.a w1 w3)] rfl (zl (le' p.symm)) h (zl (sb b c))
theorem R290:a<b→0=b-a→False:=fun p q=>no [a,b,(b-a)] [(.s v0,v1),(v2,.n 0),(v1,.a v2 v0)] rfl p (le' q.symm) (sb b a)
theorem R291:(↑a:Int)+1=(↑(a+1):Int):=Int.le_antisymm (il fun h=>nz [↑a] [(.a (.a w0 (.n 1)) (.n 1),.a w0 (.n 1))] rfl h) (il fun h=>nz [↑a] [(.a (.a w0 (.n 1)) (.n 1),.a w0 (.n 1))] rfl h)
theorem R292:(↑(a+2):Int)=(↑(a+1):Int)+1:=Int.le_antisymm (il fun h=>nz [↑a] [(.a (.a (.a w0 (.n 1)) (.n 1)) (.n 1),.a w0 (.n 2))] rfl h) (il fun h=>nz [↑a] [(.a (.a w0 (.n 2)) (.n 1),.a (.a w0 (.n 1)) (.n 1))] rfl h)
theorem R293:a+2≤b→a≤b:=fun p=>nl fun h=>no [a,b] [(.a v0 (.n 2),v1),(.s v1,v0)] rfl p h
theorem R294:a+2≤b→a+(0+1)≤b:=fun p=>nl fun h=>no [a,b] [(.a v0 (.n 2),v1),(.s v1,.a v0 (.s (.n 0)))] rfl p h
theorem R295:0<(↑(a+b+2):Int):=it fun h=>nz [↑a,↑b] [(.a (.a w0 w1) (.n 2),.n 0),(.n 0,w0),(.n 0,w1)] rfl h (nn a) (nn b)
theorem R296:a≤b→(↑a:Int)≤(↑b:Int):=fun p=>il fun h=>nz [↑a,↑b] [(w0,w1),(.a w1 (.n 1),w0)] rfl (zl p) h
theorem R297:(↑(a+(b+1)):Int)+1=(↑(a+b+2):Int):=Int.le_antisymm (il fun h=>nz [↑a,↑b] [(.a (.a (.a w0 w1) (.n 2)) (.n 1),.a (.a w0 (.a w1 (.n 1))) (.n 1))] rfl h) (il fun h=>nz [↑a,↑b] [(.a (.a (.a w0 (.a w1 (.n 1))) (.n 1)) (.n 1),.a (.a w0 w1) (.n 2))] rfl h)
theorem R298:a≤a+(b+1):=nl fun h=>no [a,b] [(.s (.a v0 (.s v1)),v0)] rfl h
theorem R299:a<b+(c+1)→a=b+(d+1)→d<c:=fun p q=>nt fun h=>no [a,b,c,d] [(.s v0,.a v1 (.s v2)),(.a v1 (.s v3),v0),(v2,v3)] rfl p (le' q.symm) h
theorem R300:a≤b→¬b=a→b=a+(b-a-1+1):=fun p q=>an (nl fun h=>no [a,b,((b-a)-1),(b-a)] [(.s (.a v0 (.s v2)),v1),(v3,.s v2),(v1,.a v3 v0)] rfl h (sb (b-a) 1) (sb b a)) (nl fun h=>(ne q).elim (fun u=>no [a,b,((b-a)-1),(b-a)] [(v0,v1),(.s v1,v0)] rfl p u) (fun u=>no [a,b,((b-a)-1),(b-a)] [(.s v1,.a v0 (.s v2)),(.s v2,v3),(.a v3 v0,v1)] rfl h (sc (nl fun uv=>no [a,b,((b-a)-1),(b-a)] [(.s v0,v1),(v1,.a v3 v0),(.s v3,.n 1)] rfl u (sb b a) uv)) (sc (nl fun uv=>no [a,b,((b-a)-1),(b-a)] [(v0,v1),(.s v1,v0)] rfl p uv))))
theorem R301:a+1<b+1→a<b:=fun p=>nt fun h=>no [a,b] [(.s (.s v0),.s v1),(v1,v0)] rfl p h
theorem R302:a+2≤b→a-1≤b:=fun p=>nl fun h=>no [a,b,(a-1)] [(.a v0 (.n 2),v1),(.s v1,v2),(v2,v0)] rfl p h (sl a 1)
theorem R303:a≤b→¬(↑a:Int)<(↑b:Int)→a=b:=fun p q=>Nat.le_antisymm (nl fun h=>nz [↑a,↑b] [(w0,w1),(.a w1 (.n 1),w0)] rfl (zl p) (zl h)) (nl fun h=>nz [↑a,↑b] [(w1,w0),(.a w0 (.n 1),w1)] rfl (il q) (zl h))
theorem R304:2*a+10≤b→c≤a→d≤2*e+1→e+f+g=c→d+2≤b:=fun p q r s=>nl fun h=>no [a,b,c,d,e,f,g] [(.a (.m 2 v0) (.n 10),v1),(v2,v0),(v2,v0),(v3,.s (.m 2 v4)),(.a (.a v4 v5) v6,v2),(.a (.a v4 v5) v6,v2),(.s v1,.a v3 (.n 2))] rfl p q q r (le' s) (le' s) h
theorem R305:2*a+10≤b→c≤a→d≤e→e+f+g=c→d+2≤b:=fun p q r s=>nl fun h=>no [a,b,c,d,e,f,g] [(.a (.m 2 v0) (.n 10),v1),(v2,v0),(v2,v0),(v3,v4),(.a (.a v4 v5) v6,v2),(.a (.a v4 v5) v6,v2),(.s v1,.a v3 (.n 2))] rfl p q q r (le' s) (le' s) h
theorem R306:a+b<c→c≤d→a+b<d:=fun p q=>nt fun h=>no [a,b,c,d] [(.s (.a v0 v1),v2),(v2,v3),(v3,.a v0 v1)] rfl p q h
theorem R307:a≤2*b+1→a≤2*(b+c)+1:=fun p=>nl fun h=>no [a,b,c] [(v0,.s (.m 2 v1)),(.s (.s (.m 2 (.a v1 v2))),v0)] rfl p h
theorem R308:a≤b→a≤b+c:=fun p=>nl fun h=>no [a,b,c] [(v0,v1),(.s (.a v1 v2),v0)] rfl p h
theorem R309:a+b+c=d→0<c→a+b<d:=fun p q=>nt fun h=>no [a,b,c,d] [(.a (.a v0 v1) v2,v3),(.s (.n 0),v2),(v3,.a v0 v1)] rfl (le' p) q h
theorem R310:a<b→c+d=b-a→a+c+d=b:=fun p q=>an (nl fun h=>no [a,b,c,d,(b-a)] [(.a v2 v3,v4),(.s v1,.a (.a v0 v2) v3),(.a v4 v0,v1)] rfl (le' q) h (sc (nl fun u=>no [a,b,c,d,(b-a)] [(.s v0,v1),(.s v1,v0)] rfl p u))) (nl fun h=>no [a,b,c,d,(b-a)] [(v4,.a v2 v3),(.s (.a (.a v0 v2) v3),v1),(v1,.a v4 v0)] rfl (le' q.symm) h (sb b a))
theorem R311:a+b=c→a+b≤c:=fun p=>nl fun h=>no [a,b,c] [(.a v0 v1,v2),(.s v2,.a v0 v1)] rfl (le' p) h
theorem R312:a<b→c=b-a→a+c=b:=fun p q=>an (nl fun h=>no [a,b,c,(b-a)] [(v2,v3),(.s v1,.a v0 v2),(.a v3 v0,v1)] rfl (le' q) h (sc (nl fun u=>no [a,b,c,(b-a)] [(.s v0,v1),(.s v1,v0)] rfl p u))) (nl fun h=>no [a,b,c,(b-a)] [(v3,v2),(.s (.a v0 v2),v1),(v1,.a v3 v0)] rfl (le' q.symm) h (sb b a))
theorem R313:a<b→a+(b-a-1)=b-1:=fun p=>an (nl fun h=>no [a,b,(b-1),((b-a)-1),(b-a)] [(.s v2,.a v0 v3),(v1,.s v2),(.s v3,v4),(.a v4 v0,v1)] rfl h (sb b 1) (sc (nl fun u=>no [a,b,(b-1),((b-a)-1),(b-a)] [(.s v0,v1),(v1,.a v4 v0),(.s v4,.n 1)] rfl p (sb b a) u)) (sc (nl fun u=>no [a,b,(b-1),((b-a)-1),(b-a)] [(.s v0,v1),(.s v1,v0)] rfl p u))) (nl fun h=>no [a,b,((b-a)-1),(b-a),(b-1)] [(.s (.a v0 v2),v4),(v3,.s v2),(v1,.a v3 v0),(.s v4,v1)] rfl h (sb (b-a) 1) (sb b a) (sc (nl fun u=>no [a,b,((b-a)-1),(b-a),(b-1)] [(.s v0,v1),(.s v1,.n 1)] rfl p u)))
theorem R314:a<b→a+(b-a-1)<b:=fun p=>nt fun h=>no [a,b,((b-a)-1),(b-a)] [(v1,.a v0 v2),(.s v2,v3),(.a v3 v0,v1)] rfl h (sc (nl fun u=>no [a,b,((b-a)-1),(b-a)] [(.s v0,v1),(v1,.a v3 v0),(.s v3,.n 1)] rfl p (sb b a) u)) (sc (nl fun u=>no [a,b,((b-a)-1),(b-a)] [(.s v0,v1),(.s v1,v0)] rfl p u))
theorem R315:a≤2*b+1→a≤2*(b+2)+1:=fun p=>nl fun h=>no [a,b] [(v0,.s (.m 2 v1)),(.s (.s (.m 2 (.a v1 (.n 2)))),v0)] rfl p h
theorem R316:a≤b→a≤b+2:=fun p=>nl fun h=>no [a,b] [(v0,v1),(.s (.a v1 (.n 2)),v0)] rfl p h
theorem R317:a+(b+1+1)=c→a+2≤c:=fun p=>nl fun h=>no [a,b,c] [(.a v0 (.s (.s v1)),v2),(.s v2,.a v0 (.n 2))] rfl (le' p) h
theorem R318:a≤2*b+1→a≤2*(b+1)+1:=fun p=>nl fun h=>no [a,b] [(v0,.s (.m 2 v1)),(.s (.s (.m 2 (.s v1))),v0)] rfl p h
theorem R319:a+(0+1)=b→a+1≤b:=fun p=>nl fun h=>no [a,b] [(.a v0 (.s (.n 0)),v1),(.s v1,.s v0)] rfl (le' p) h
theorem R320:a≤b→1≤1+a∧1+a≤b+1:=fun p=>⟨nl fun h=>no [a,b] [(.s (.a (.n 1) v0),.n 1)] rfl h,nl fun h=>no [a,b] [(v0,v1),(.s (.s v1),.a (.n 1) v0)] rfl p h⟩
theorem R321:a≤b→1≤3+a∧3+a≤b+1+1+1:=fun p=>⟨nl fun h=>no [a,b] [(.s (.a (.n 3) v0),.n 1)] rfl h,nl fun h=>no [a,b] [(v0,v1),(.s (.s (.s (.s v1))),.a (.n 3) v0)] rfl p h⟩
theorem R322:0≤a+1+1:=nl fun h=>no [a] [(.s (.s (.s v0)),.n 0)] rfl h
theorem R323:a≤b→2+a≤b+1+1:=fun p=>nl fun h=>no [a,b] [(v0,v1),(.s (.s (.s v1)),.a (.n 2) v0)] rfl p h
theorem R324:a≤b+1→1+a≤b+1+1:=fun p=>nl fun h=>no [a,b] [(v0,.s v1),(.s (.s (.s v1)),.a (.n 1) v0)] rfl p h
theorem R325:3≤a+1+1+1:=nl fun h=>no [a] [(.s (.s (.s (.s v0))),.n 3)] rfl h
theorem R326:950+1+1≤1000:=nl fun h=>no [] [(.s (.n 1000),.s (.s (.n 950)))] rfl h
theorem R327:950+1≤1000:=nl fun h=>no [] [(.s (.n 1000),.s (.n 950))] rfl h
theorem R328:a≤950→a≤1000:=fun p=>nl fun h=>no [a] [(v0,.n 950),(.s (.n 1000),v0)] rfl p h
theorem R329:a≤b→c≤a+1→c≤b+1:=fun p q=>nl fun h=>no [a,b,c] [(v0,v1),(v2,.s v0),(.s (.s v1),v2)] rfl p q h
theorem R330:2*a+10≤b→c≤a→d=c→e≤2*d+1→e≤b:=fun p q r s=>nl fun h=>no [a,b,c,d,e] [(.a (.m 2 v0) (.n 10),v1),(v2,v0),(v2,v0),(v3,v2),(v3,v2),(v4,.s (.m 2 v3)),(.s v1,v4)] rfl p q q (le' r) (le' r) s h
theorem R331:2*a+10≤b→c≤a→d=c→e≤d→e≤b:=fun p q r s=>nl fun h=>no [a,b,c,d,e] [(.a (.m 2 v0) (.n 10),v1),(v2,v0),(v2,v0),(v3,v2),(v3,v2),(v4,v3),(v4,v3),(.s v1,v4)] rfl p q q (le' r) (le' r) s s h
theorem R332:1≤2*a+1:=nl fun h=>no [a] [(.s (.s (.m 2 v0)),.n 1)] rfl h
theorem R333:940+1+1≤950:=nl fun h=>no [] [(.s (.n 950),.s (.s (.n 940)))] rfl h
theorem R334:a≤940→a≤990:=fun p=>nl fun h=>no [a] [(v0,.n 940),(.s (.n 990),v0)] rfl p h
theorem R335:990+1≤1000:=nl fun h=>no [] [(.s (.n 1000),.s (.n 990))] rfl h
theorem R336:a≤990→a≤1000:=fun p=>nl fun h=>no [a] [(v0,.n 990),(.s (.n 1000),v0)] rfl p h
theorem R337:¬(↑(a+1):Int)=0:=fun h=>nz [↑a] [(.a w0 (.n 1),.n 0),(.n 0,w0)] rfl (Int.le_of_eq h) (nn a)
theorem R338:1≤a→(↑(a-1):Int)=(↑a:Int)-1:=fun p=>Int.le_antisymm (il fun h=>nz [↑a,↑(a-1)] [(.a (.s w0 (.n 1)) (.n 1),w1),(.a w1 (.n 1),w0)] rfl h (zl (sc (nl fun u=>nz [↑a,↑(a-1)] [(.n 1,w0),(.a w0 (.n 1),.n 1)] rfl (zl p) (zl u))))) (il fun h=>nz [↑a,↑(a-1)] [(.a w1 (.n 1),.s w0 (.n 1)),(w0,.a w1 (.n 1))] rfl h (zl (sb a 1)))
theorem R339:903+1≤940:=nl fun h=>no [] [(.s (.n 940),.s (.n 903))] rfl h
theorem R340:a≤903→a≤1000:=fun p=>nl fun h=>no [a] [(v0,.n 903),(.s (.n 1000),v0)] rfl p h
theorem R341:900+1+1+1≤903:=nl fun h=>no [] [(.s (.n 903),.s (.s (.s (.n 900))))] rfl h
theorem R342:1≤a→a-1+1≤a:=fun p=>nl fun h=>no [a,(a-1)] [(.s v0,.s v1),(.s v1,v0)] rfl h (sc (nl fun u=>no [a,(a-1)] [(.n 1,v0),(.s v0,.n 1)] rfl p u))
theorem R343:a≤b+1→b+5≤c→a≤c:=fun p q=>nl fun h=>no [a,b,c] [(v0,.s v1),(.a v1 (.n 5),v2),(.s v2,v0)] rfl p q h
theorem R344:a≤b→a≤b:=fun p=>nl fun h=>no [a,b] [(v0,v1),(.s v1,v0)] rfl p h
theorem R345:a<b→b=b-1+1:=fun p=>an (nl fun h=>no [a,b,(b-1)] [(.s (.s v2),v1),(v1,.s v2)] rfl h (sb b 1)) (nl fun h=>no [a,b,(b-1)] [(.s v1,.s v2),(.s v2,v1)] rfl h (sc (nl fun u=>no [a,b,(b-1)] [(.s v0,v1),(.s v1,.n 1)] rfl p u)))
theorem R346:a+1+1≤b→a+1<b:=fun p=>nt fun h=>no [a,b] [(.s (.s v0),v1),(v1,.s v0)] rfl p h
theorem R347:a+1+1≤b→a<b:=fun p=>nt fun h=>no [a,b] [(.s (.s v0),v1),(v1,v0)] rfl p h
theorem R348:a+1+1≤b→a+1≤b:=fun p=>nl fun h=>no [a,b] [(.s (.s v0),v1),(.s v1,.s v0)] rfl p h
theorem R349:a-1<a→a-1≤b→b≤c→1≤a∧a≤c+1:=fun p q r=>⟨nl fun h=>no [a,b,c,(a-1)] [(.s v3,v0),(.s v0,.n 1)] rfl p h,nl fun h=>no [a,b,c,(a-1)] [(v3,v1),(v1,v2),(.s (.s v2),v0),(v0,.s v3)] rfl q r h (sb a 1)⟩
theorem R350:a=b→c≤d→d<a→c+1≤b:=fun p q r=>nl fun h=>no [a,b,c,d] [(v0,v1),(v2,v3),(.s v3,v0),(.s v1,.s v2)] rfl (le' p) q r h
theorem R367:a+20=a+18+2:=an (nl fun h=>no [a] [(.s (.a (.a v0 (.n 18)) (.n 2)),.a v0 (.n 20))] rfl h) (nl fun h=>no [a] [(.s (.a v0 (.n 20)),.a (.a v0 (.n 18)) (.n 2))] rfl h)
theorem R374 {a:Int}{b:Nat}:0≤a→Int.toNat a<b→0≤a∧a<(↑b:Int):=fun p q=>⟨il fun h=>nz [a,↑(Int.toNat a),↑b] [(.n 0,w0),(.a w0 (.n 1),.n 0)] rfl p h,it fun h=>nz [a,↑(Int.toNat a),↑b] [(.a w1 (.n 1),w2),(w2,w0),(w0,w1)] rfl (zl q) h (st a)⟩
theorem R380:1+(a+1+b)=a+1+1+b:=an (nl fun h=>no [a,b] [(.s (.a (.s (.s v0)) v1),.a (.n 1) (.a (.s v0) v1))] rfl h) (nl fun h=>no [a,b] [(.s (.a (.n 1) (.a (.s v0) v1)),.a (.s (.s v0)) v1)] rfl h)
theorem R381:a+b=c+1→0+a+b=c+1:=fun p=>an (nl fun h=>no [a,b,c] [(.a v0 v1,.s v2),(.s (.s v2),.a (.a (.n 0) v0) v1)] rfl (le' p) h) (nl fun h=>no [a,b,c] [(.s v2,.a v0 v1),(.s (.a (.a (.n 0) v0) v1),.s v2)] rfl (le' p.symm) h)
theorem R382:0<a→a+b=a+b-1+1:=fun p=>an (nl fun h=>no [a,b,((a+b)-1)] [(.s (.s v2),.a v0 v1),(.a v0 v1,.s v2)] rfl h (sb (a+b) 1)) (nl fun h=>no [a,b,((a+b)-1)] [(.s (.a v0 v1),.s v2),(.s v2,.a v0 v1)] rfl h (sc (nl fun u=>no [a,b,((a+b)-1)] [(.s (.n 0),v0),(.s (.a v0 v1),.n 1)] rfl p u)))
theorem R383:1+a+b=a+b+1:=an (nl fun h=>no [a,b] [(.s (.s (.a v0 v1)),.a (.a (.n 1) v0) v1)] rfl h) (nl fun h=>no [a,b] [(.s (.a (.a (.n 1) v0) v1),.s (.a v0 v1))] rfl h)
theorem R384:1+0+a=a+1:=an (nl fun h=>no [a] [(.s (.s v0),.a (.a (.n 1) (.n 0)) v0)] rfl h) (nl fun h=>no [a] [(.s (.a (.a (.n 1) (.n 0)) v0),.s v0)] rfl h)
theorem R385:a=0+a:=an (nl fun h=>no [a] [(.s (.a (.n 0) v0),v0)] rfl h) (nl fun h=>no [a] [(.s v0,.a (.n 0) v0)] rfl h)
theorem R386:a+b+1=a+1+b:=an (nl fun h=>no [a,b] [(.s (.a (.s v0) v1),.s (.a v0 v1))] rfl h) (nl fun h=>no [a,b] [(.s (.s (.a v0 v1)),.a (.s v0) v1)] rfl h)
theorem R387:0+a+b=a+b:=an (nl fun h=>no [a,b] [(.s (.a v0 v1),.a (.a (.n 0) v0) v1)] rfl h) (nl fun h=>no [a,b] [(.s (.a (.a (.n 0) v0) v1),.a v0 v1)] rfl h)
theorem R388:a+(b+c)=b+c+a:=an (nl fun h=>no [a,b,c] [(.s (.a (.a v1 v2) v0),.a v0 (.a v1 v2))] rfl h) (nl fun h=>no [a,b,c] [(.s (.a v0 (.a v1 v2)),.a (.a v1 v2) v0)] rfl h)
theorem R389:a+1≤b→a<b+1:=fun p=>nt fun h=>no [a,b] [(.s v0,v1),(.s v1,v0)] rfl p h
theorem R390:a+1+b-(a+1)=b:=an (nl fun h=>no [a,b,(((a+1)+b)-(a+1))] [(.s v1,v2),(.a v2 (.s v0),.a (.s v0) v1)] rfl h (sc (nl fun u=>no [a,b,(((a+1)+b)-(a+1))] [(.s (.a (.s v0) v1),.s v0)] rfl u))) (nl fun h=>no [a,b,(((a+1)+b)-(a+1))] [(.s v2,v1),(.a (.s v0) v1,.a v2 (.s v0))] rfl h (sb ((a+1)+b) (a+1)))
theorem R391:a=b+1→a≤b+1+c:=fun p=>nl fun h=>no [a,b,c] [(v0,.s v1),(.s (.a (.s v1) v2),v0)] rfl (le' p) h
theorem R392:a=b+1→b<a:=fun p=>nt fun h=>no [a,b] [(.s v1,v0),(v0,v1)] rfl (le' p.symm) h
theorem R393:a+1+(b+1)-1=a+1+b:=an (nl fun h=>no [a,b,(((a+1)+(b+1))-1)] [(.s (.a (.s v0) v1),v2),(.s v2,.a (.s v0) (.s v1))] rfl h (sc (nl fun u=>no [a,b,(((a+1)+(b+1))-1)] [(.s (.a (.s v0) (.s v1)),.n 1)] rfl u))) (nl fun h=>no [a,b,(((a+1)+(b+1))-1)] [(.s v2,.a (.s v0) v1),(.a (.s v0) (.s v1),.s v2)] rfl h (sb ((a+1)+(b+1)) 1))
theorem R445:a≤20→4+10*20+200<b→4+10*a+200<b:=fun p q=>nt fun h=>no [a,b] [(.m 10 v0,.m 10 (.n 20)),(.s (.a (.a (.n 4) (.m 10 (.n 20))) (.n 200)),v1),(v1,.a (.a (.n 4) (.m 10 v0)) (.n 200))] rfl (Xx 10 p) q h
theorem R446:a≤20→1+b+20<c→1+b+a<c:=fun p q=>nt fun h=>no [a,b,c] [(v0,.n 20),(.s (.a (.a (.n 1) v1) (.n 20)),v2),(v2,.a (.a (.n 1) v1) v0)] rfl p q h
end
end Mine
end
section
namespace Mine
open Om
section
variable {a b c d e f g i j k l m n:Nat}
theorem R448:(↑a:Int)=(↑b:Int)→a=b:=fun p=>Nat.le_antisymm (nl fun h=>nz [↑a,↑b] [(w0,w1),(.a w1 (.n 1),w0)] rfl (Int.le_of_eq p) (zl h)) (nl fun h=>nz [↑a,↑b] [(w1,w0),(.a w0 (.n 1),w1)] rfl (Int.le_of_eq p.symm) (zl h))
theorem R449:a≤100→a≤1048576:=fun p=>nl fun h=>no [a] [(v0,.n 100),(.s (.n 1048576),v0)] rfl p h
theorem R450:a≤1000→a≤1048576:=fun p=>nl fun h=>no [a] [(v0,.n 1000),(.s (.n 1048576),v0)] rfl p h
theorem R451:a=b→b≤100→a≤100:=fun p q=>nl fun h=>no [a,b] [(v0,v1),(v1,.n 100),(.s (.n 100),v0)] rfl (le' p) q h
theorem R452:a=b→c<b→c<a:=fun p q=>nt fun h=>no [a,b,c] [(v1,v0),(.s v2,v1),(v0,v2)] rfl (le' p.symm) q h
theorem R453 {a:Int}:0≤a→(↑(Int.toNat a):Int)=a:=fun p=>Int.le_antisymm (il fun h=>nz [a,↑(Int.toNat a)] [(.a w0 (.n 1),w1),(w1,w0)] rfl h (tn (il fun u=>nz [a,↑(Int.toNat a)] [(.n 0,w0),(.a w0 (.n 1),.n 0)] rfl p u))) (il fun h=>nz [a,↑(Int.toNat a)] [(.a w1 (.n 1),w0),(w0,w1)] rfl h (st a))
theorem R454:0<a→¬(↑a:Int)=0:=fun p=>fun h=>nz [↑a] [(.a (.n 0) (.n 1),w0),(w0,.n 0)] rfl (zl p) (Int.le_of_eq h)
theorem R455 {a:Nat}{b:Int}:0<a→b<(↑a:Int)→Int.toNat b<a:=by intros;omega
theorem R456:0<a→0<(↑a:Int):=fun p=>it fun h=>nz [↑a] [(.a (.n 0) (.n 1),w0),(w0,.n 0)] rfl (zl p) h
theorem R457:a≤63→a≤1048576:=fun p=>nl fun h=>no [a] [(v0,.n 63),(.s (.n 1048576),v0)] rfl p h
theorem R458:a≤1→max (a+1) (max (a+1) 0)+1≤64:=by intros;omega
theorem R459:a≤1→max (max 0 (max 0 0)+1) a≤1:=by intros;omega
theorem R460:(↑a:Int) % 7=(↑(a % 7):Int):=by omega
theorem R461:a % 7<7:=by omega
theorem R462:a≤9→b≤12→c≤3+11*b→d≤11→a+c+d≤1000:=fun p q r s=>nl fun h=>no [a,b,c,d] [(v0,.n 9),(.m 11 v1,.m 11 (.n 12)),(v2,.a (.n 3) (.m 11 v1)),(v3,.n 11),(.s (.n 1000),.a (.a v0 v2) v3)] rfl p (Xx 11 q) r s h
theorem R463:a≤12→b≤1+2*a→b+1≤100:=fun p q=>nl fun h=>no [a,b] [(v0,.n 12),(v0,.n 12),(v1,.a (.n 1) (.m 2 v0)),(.s (.n 100),.s v1)] rfl p p q h
theorem R464:¬a<8→(↑a:Int)-8=(↑(a-8):Int):=fun p=>Int.le_antisymm (il fun h=>nz [↑a,↑(a-8)] [(.a w1 (.n 1),.s w0 (.n 8)),(w0,.a w1 (.n 8))] rfl h (zl (sb a 8))) (il fun h=>nz [↑a,↑(a-8)] [(.a (.s w0 (.n 8)) (.n 1),w1),(.a w1 (.n 8),w0)] rfl h (zl (sc (nl fun u=>nz [↑a,↑(a-8)] [(.n 8,w0),(.a w0 (.n 1),.n 8)] rfl (zl (nl p)) (zl u)))))
theorem R465:a≤9→b≤12→c≤3+11*b→d=a+c→d≤1000:=fun p q r s=>nl fun h=>no [a,b,c,d] [(v0,.n 9),(.m 11 v1,.m 11 (.n 12)),(v2,.a (.n 3) (.m 11 v1)),(v3,.a v0 v2),(.s (.n 1000),v3)] rfl p (Xx 11 q) r (le' s) h
theorem R466:a≤12→b≤1+2*a→b≤100:=fun p q=>nl fun h=>no [a,b] [(v0,.n 12),(v0,.n 12),(v1,.a (.n 1) (.m 2 v0)),(.s (.n 100),v1)] rfl p p q h
theorem R467:a<13∨a<15∧0<b→¬a-8<5→1≤b:=fun p q=>nl fun h=>p.elim (fun u=>(to a 8).elim (fun uv=>no [a,b,(a-8)] [(.n 5,v2),(v2,.n 0)] rfl (nl q) (le' (sz uv))) (fun uv=>no [a,b,(a-8)] [(.n 5,v2),(.s v0,.n 13),(.a v2 (.n 8),v0)] rfl (nl q) u (sc (nl fun uvv=>no [a,b,(a-8)] [(.n 8,v0),(.s v0,.n 8)] rfl uv uvv)))) (fun u=>no [a,b,(a-8)] [(.s v1,.n 1),(.s (.n 0),v1)] rfl h u.2)
theorem R468:a<13∨a<15∧0<b→a-8<7:=fun p=>nt fun h=>p.elim (fun u=>(to a 8).elim (fun uv=>no [a,b,(a-8)] [(.n 7,v2),(v2,.n 0)] rfl h (le' (sz uv))) (fun uv=>no [a,b,(a-8)] [(.n 7,v2),(.s v0,.n 13),(.a v2 (.n 8),v0)] rfl h u (sc (nl fun uvv=>no [a,b,(a-8)] [(.n 8,v0),(.s v0,.n 8)] rfl uv uvv)))) (fun u=>(to a 8).elim (fun uv=>no [a,b,(a-8)] [(.n 7,v2),(v2,.n 0)] rfl h (le' (sz uv))) (fun uv=>no [a,b,(a-8)] [(.n 7,v2),(.s v0,.n 15),(.a v2 (.n 8),v0)] rfl h u.1 (sc (nl fun uvv=>no [a,b,(a-8)] [(.n 8,v0),(.s v0,.n 8)] rfl uv uvv))))
theorem R469:¬a<4→(↑a:Int)-4=(↑(a-4):Int):=fun p=>Int.le_antisymm (il fun h=>nz [↑a,↑(a-4)] [(.a w1 (.n 1),.s w0 (.n 4)),(w0,.a w1 (.n 4))] rfl h (zl (sb a 4))) (il fun h=>nz [↑a,↑(a-4)] [(.a (.s w0 (.n 4)) (.n 1),w1),(.a w1 (.n 4),w0)] rfl h (zl (sc (nl fun u=>nz [↑a,↑(a-4)] [(.n 4,w0),(.a w0 (.n 1),.n 4)] rfl (zl (nl p)) (zl u)))))
theorem R470:a<8→a-4<4:=fun p=>nt fun h=>no [a,(a-4)] [(.s v0,.n 8),(.n 4,v1),(.a v1 (.n 4),v0)] rfl p h (sc (nl fun u=>no [a,(a-4)] [(.n 4,v1),(v1,v0),(.s v0,.n 4)] rfl h (sl a 4) u))
theorem R471:0<a→(↑(b+c+a):Int)-1=(↑(b+c+a-1):Int):=fun p=>Int.le_antisymm (il fun h=>nz [↑a,↑(((b+c)+a)-1),↑b,↑c] [(.a w1 (.n 1),.s (.a (.a w2 w3) w0) (.n 1)),(.a (.a w2 w3) w0,.a w1 (.n 1))] rfl h (zl (sb ((b+c)+a) 1))) (il fun h=>nz [↑a,↑b,↑c,↑(((b+c)+a)-1)] [(.a (.s (.a (.a w1 w2) w0) (.n 1)) (.n 1),w3),(.a w3 (.n 1),.a (.a w1 w2) w0)] rfl h (zl (sc (nl fun u=>nz [↑a,↑b,↑c,↑(((b+c)+a)-1)] [(.a (.n 0) (.n 1),w0),(.a (.a (.a w1 w2) w0) (.n 1),.n 1),(.n 0,w1),(.n 0,w2)] rfl (zl p) (zl u) (nn b) (nn c)))))
theorem R472:a≤9→b≤12→c≤3+11*b→d=a+c→e≤11→d+e≤1048576:=fun p q r s t=>nl fun h=>no [a,b,c,d,e] [(v0,.n 9),(.m 11 v1,.m 11 (.n 12)),(v2,.a (.n 3) (.m 11 v1)),(v3,.a v0 v2),(v4,.n 11),(.s (.n 1048576),.a v3 v4)] rfl p (Xx 11 q) r (le' s) t h
theorem R473:0<a→a<2→a=1:=fun p q=>an (nl fun h=>no [a] [(.s v0,.n 2),(.s (.n 1),v0)] rfl q h) (nl fun h=>no [a] [(.s (.n 0),v0),(.s v0,.n 1)] rfl p h)
theorem R474:a≤800→a≤890:=fun p=>nl fun h=>no [a] [(v0,.n 800),(.s (.n 890),v0)] rfl p h
theorem R475:a≤12→b≤3+11*a→c≤2→b+c≤200:=fun p q r=>nl fun h=>no [a,b,c] [(.m 11 v0,.m 11 (.n 12)),(v1,.a (.n 3) (.m 11 v0)),(v2,.n 2),(.s (.n 200),.a v1 v2)] rfl (Xx 11 p) q r h
theorem R476:a≤2→a≤11:=fun p=>nl fun h=>no [a] [(v0,.n 2),(.s (.n 11),v0)] rfl p h
theorem R477:a≤12→b≤1+2*a→b+2≤100:=fun p q=>nl fun h=>no [a,b] [(v0,.n 12),(v0,.n 12),(v1,.a (.n 1) (.m 2 v0)),(.s (.n 100),.a v1 (.n 2))] rfl p p q h
theorem R478:a≤12→b≤3+11*a→c=6→b+c≤200:=fun p q r=>nl fun h=>no [a,b,c] [(.m 11 v0,.m 11 (.n 12)),(v1,.a (.n 3) (.m 11 v0)),(v2,.n 6),(.s (.n 200),.a v1 v2)] rfl (Xx 11 p) q (le' r) h
theorem R479:a≤9→b≤12→c≤3+11*b→d=6→a+c+d≤1000:=fun p q r s=>nl fun h=>no [a,b,c,d] [(v0,.n 9),(.m 11 v1,.m 11 (.n 12)),(v2,.a (.n 3) (.m 11 v1)),(v3,.n 6),(.s (.n 1000),.a (.a v0 v2) v3)] rfl p (Xx 11 q) r (le' s) h
theorem R480:a=6→a≤11:=fun p=>nl fun h=>no [a] [(v0,.n 6),(.s (.n 11),v0)] rfl (le' p) h
theorem R481:a≤9→b≤200→c≤6→a+b=d→d+c≤1048576:=fun p q r s=>nl fun h=>no [a,b,c,d] [(v0,.n 9),(v1,.n 200),(v2,.n 6),(v3,.a v0 v1),(.s (.n 1048576),.a v3 v2)] rfl p q r (le' s.symm) h
theorem R482:a≤9→b≤200→c≤6→a+(b+c)+5≤1048576:=fun p q r=>nl fun h=>no [a,b,c] [(v0,.n 9),(v1,.n 200),(v2,.n 6),(.s (.n 1048576),.a (.a v0 (.a v1 v2)) (.n 5))] rfl p q r h
theorem R483:a≤9→b≤200→a+(b+c)=d→c≤6→2*d+10≤1048576:=fun p q r s=>nl fun h=>no [a,b,c,d] [(v0,.n 9),(v0,.n 9),(v1,.n 200),(v1,.n 200),(v3,.a v0 (.a v1 v2)),(v3,.a v0 (.a v1 v2)),(v2,.n 6),(v2,.n 6),(.s (.n 1048576),.a (.m 2 v3) (.n 10))] rfl p p q q (le' r.symm) (le' r.symm) s s h
theorem R484 {a:Int}:3≤a∧a≤12→Int.toNat a≤12:=fun p=>nl fun h=>nz [a,↑(Int.toNat a)] [(w0,.n 12),(.a (.n 12) (.n 1),w1),(w1,w0)] rfl p.2 (zl h) (tn (il fun u=>nz [a,↑(Int.toNat a)] [(.n 3,w0),(.a w0 (.n 1),.n 0)] rfl p.1 u))
theorem R485 {a:Int}{b:Nat}:3≤a∧a≤12→(↑b:Int)<a→b≤12:=fun p q=>nl fun h=>nz [a,↑b] [(w0,.n 12),(.a w1 (.n 1),w0),(.a (.n 12) (.n 1),w1)] rfl p.2 q (zl h)
theorem R486 {a:Int}:3≤a∧a≤12→a≤1048576:=fun p=>il fun h=>nz [a] [(w0,.n 12),(.a (.n 1048576) (.n 1),w0)] rfl p.2 h
theorem R487 {a:Int}:3≤a∧a≤12→-1048576≤a:=fun p=>il fun h=>nz [a] [(.n 3,w0),(.a w0 (.n 1),.g (.n 1048576))] rfl p.1 h
theorem R488:a≤9→b≤2→a+b+1≤1048576:=fun p q=>nl fun h=>no [a,b] [(v0,.n 9),(v1,.n 2),(.s (.n 1048576),.s (.a v0 v1))] rfl p q h
theorem R489:a≤9→b≤2→a+b≤1048576:=fun p q=>nl fun h=>no [a,b] [(v0,.n 9),(v1,.n 2),(.s (.n 1048576),.a v0 v1)] rfl p q h
theorem R490:a+b≤3→b=1→a≤2:=fun p q=>nl fun h=>no [a,b] [(.a v0 v1,.n 3),(.n 1,v1),(.s (.n 2),v0)] rfl p (le' q.symm) h
theorem R491:a≤9→a≤1000:=fun p=>nl fun h=>no [a] [(v0,.n 9),(.s (.n 1000),v0)] rfl p h
theorem R492 {a:Nat}{b:Int}:(↑a:Int)<b→(↑a:Int)<b:=fun p=>it fun h=>nz [↑a,b] [(.a w0 (.n 1),w1),(w1,w0)] rfl p h
theorem R493:a+1=b-c→0<a→c+1<b:=fun p q=>nt fun h=>(to b c).elim (fun u=>no [a,b,c,(b-c)] [(.s v0,v3),(v3,.n 0)] rfl (le' p) (le' (sz u))) (fun u=>no [a,b,c,(b-c)] [(.s v0,v3),(.s (.n 0),v0),(v1,.s v2),(.a v3 v2,v1)] rfl (le' p) q h (sc (nl fun uv=>no [a,b,c,(b-c)] [(v2,v1),(.s v1,v2)] rfl u uv)))
theorem R494:a<b→a+1≤b:=fun p=>nl fun h=>no [a,b] [(.s v0,v1),(.s v1,.s v0)] rfl p h
theorem R495:a=b→c+1=b-a→False:=fun p q=>no [a,b,c,(b-a)] [(v1,v0),(.s v2,v3),(.a v3 v0,v1)] rfl (le' p.symm) (le' q) (sc (nl fun u=>no [a,b,c,(b-a)] [(v0,v1),(.s v1,v0)] rfl (le' p) u))
theorem R496:a≤b+1→b+1=c-d→d+a≤c:=fun p q=>nl fun h=>(to c d).elim (fun u=>no [a,b,c,d,(c-d)] [(.s v1,v4),(v4,.n 0)] rfl (le' q) (le' (sz u))) (fun u=>no [a,b,c,d,(c-d)] [(v0,.s v1),(.s v1,v4),(.s v2,.a v3 v0),(.a v4 v3,v2)] rfl p (le' q) h (sc (nl fun uv=>no [a,b,c,d,(c-d)] [(v3,v2),(.s v2,v3)] rfl u uv)))
theorem R497:a<b→0=b-a→False:=fun p q=>no [a,b,(b-a)] [(.s v0,v1),(v2,.n 0),(v1,.a v2 v0)] rfl p (le' q.symm) (sb b a)
theorem R498:a+b≤a+(b+c):=nl fun h=>no [a,b,c] [(.s (.a v0 (.a v1 v2)),.a v0 v1)] rfl h
theorem R499:0<a→0<b+a:=fun p=>nt fun h=>no [a,b] [(.s (.n 0),v0),(.a v1 v0,.n 0)] rfl p h
theorem R500:a≤2→b≤1+2*c→b+a≤1+2*(c+1):=fun p q=>nl fun h=>no [a,b,c] [(v0,.n 2),(v1,.a (.n 1) (.m 2 v2)),(.s (.a (.n 1) (.m 2 (.s v2))),.a v1 v0)] rfl p q h
theorem R501:a≤3+11*b→c≤11→a+c≤3+11*(b+1):=fun p q=>nl fun h=>no [a,b,c] [(v0,.a (.n 3) (.m 11 v1)),(v2,.n 11),(.s (.a (.n 3) (.m 11 (.s v1))),.a v0 v2)] rfl p q h
theorem R502:a≤b→¬a<b→a=b:=fun p q=>an (nl fun h=>no [a,b] [(v0,v1),(.s v1,v0)] rfl p h) (nl fun h=>no [a,b] [(v1,v0),(.s v0,v1)] rfl (nl q) h)
theorem R503:a<b→b+1-(a+1)<b+1-a:=fun p=>nt fun h=>no [a,b,((b+1)-a),((b+1)-(a+1))] [(v2,v3),(.s v1,.a v2 v0),(.a v3 (.s v0),.s v1)] rfl h (sb (b+1) a) (sc (nl fun u=>no [a,b,((b+1)-a),((b+1)-(a+1))] [(.s v0,v1),(.s (.s v1),.s v0)] rfl p u))
theorem R504 {a:Int}:0<a→¬a=0:=fun p=>fun h=>nz [a] [(.a (.n 0) (.n 1),w0),(w0,.n 0)] rfl p (Int.le_of_eq h)
theorem R505:(↑(a+1):Int)≤9→0+(a+1)≤16777216:=fun p=>nl fun h=>nz [↑a] [(.a w0 (.n 1),.n 9),(.a (.n 16777216) (.n 1),.a (.n 0) (.a w0 (.n 1)))] rfl p (zl h)
theorem R506:¬a=0→¬(↑a:Int)+1=1:=fun p=>fun h=>(Nat.lt_or_gt_of_ne p).elim (fun u=>nz [↑a] [(.n 1,.a w0 (.n 1)),(.a w0 (.n 1),.n 0)] rfl (Int.le_of_eq h.symm) (zl u)) (fun u=>nz [↑a] [(.a w0 (.n 1),.n 1),(.a (.n 0) (.n 1),w0)] rfl (Int.le_of_eq h) (zl u))
theorem R507:¬(↑(a+1):Int)<1:=fun h=>nz [↑a] [(.a (.a w0 (.n 1)) (.n 1),.n 1),(.n 0,w0)] rfl h (nn a)
theorem R508:(↑(a+1):Int)≤9→¬16777216<1*Int.toNat (↑(a+1):Int):=fun p=>fun h=>nz [↑a,↑(Int.toNat (↑(a+1):Int))] [(.a w0 (.n 1),.n 9),(.a (.n 16777216) (.n 1),.m 1 w1),(w1,.a w0 (.n 1))] rfl p (zl h) (tn (il fun u=>nz [↑a,↑(Int.toNat (↑(a+1):Int))] [(.a (.a w0 (.n 1)) (.n 1),.n 0),(.n 0,w0)] rfl u (nn a)))
theorem R509:0<(↑(a+1):Int):=it fun h=>nz [↑a] [(.a w0 (.n 1),.n 0),(.n 0,w0)] rfl h (nn a)
theorem R510:a+1+b=a+(b+1):=an (nl fun h=>no [a,b] [(.s (.a v0 (.s v1)),.a (.s v0) v1)] rfl h) (nl fun h=>no [a,b] [(.s (.a (.s v0) v1),.a v0 (.s v1))] rfl h)
theorem R511:(↑(a+1):Int)≤9→a≤8:=fun p=>nl fun h=>nz [↑a] [(.a w0 (.n 1),.n 9),(.a (.n 8) (.n 1),w0)] rfl p (zl h)
theorem R512 {a:Int}:0<a→a=(↑(Int.toNat (a-1)+1):Int):=fun p=>Int.le_antisymm (il fun h=>nz [a,↑(Int.toNat (a-1))] [(.a (.a w1 (.n 1)) (.n 1),w0),(.s w0 (.n 1),w1)] rfl h (st (a-1))) (il fun h=>nz [a,↑(Int.toNat (a-1))] [(.a w0 (.n 1),.a w1 (.n 1)),(w1,.s w0 (.n 1))] rfl h (tn (il fun u=>nz [a,↑(Int.toNat (a-1))] [(.a (.n 0) (.n 1),w0),(.a (.s w0 (.n 1)) (.n 1),.n 0)] rfl p u)))
end
end Mine
end
section
namespace Mine
set_option genCtorIdx true in
inductive Md where
 |N|Nb|E|C
 |Q1 (d:Bool) (f:Nat)|Q2 (d:Bool) (f:Nat)
 |S1 (d:Bool) (f:Nat)|S1e (d:Bool) (f:Nat)
 |S3 (d:Bool) (k f:Nat)|S3e (d:Bool) (f:Nat)
 deriving DecidableEq
structure St where
 md:Md
 lv:Nat
 ln:Nat
 gd:List Nat
 deriving DecidableEq
noncomputable def qc (d:Bool):Nat:=if d then 34 else 39
noncomputable def nl (s:St):St:=⟨.N,s.lv,s.ln+1,if s.lv=0 then s.gd++[s.ln+1] else s.gd⟩
noncomputable def aY (s:St)(c:Nat):St:=
 if c=10 then nl s
 else if c=40 then {s with md:=.N,lv:=s.lv+1}
 else if c=41 then {s with md:=.N,lv:=s.lv-1}
 else if c=34 then {s with md:=.Q1 true s.ln}
 else if c=39 then {s with md:=.Q1 false s.ln}
 else if c=35 then {s with md:=.C}
 else if c=92 then {s with md:=.E}
 else {s with md:=.N}
noncomputable def bm (s:St)(d:Bool)(f c:Nat):St:=
 if c=qc d then {s with md:=.N}
 else if c=10 then nl s
 else if c=92 then {s with md:=.S1e d f}
 else {s with md:=.S1 d f}
noncomputable def step (s:St)(c:Nat):St:=
 match s.md with
 | .N=>aY s c
 | .Nb=>aY s c
 | .E=>if c=10 then {s with md:=.Nb,ln:=s.ln+1} else {s with md:=.N}
 | .C=>if c=10 then nl s else s
 | .Q1 d f=>if c=qc d then {s with md:=.Q2 d f} else bm s d f c
 | .Q2 d f=>if c=qc d then {s with md:=.S3 d 0 f} else aY s c
 | .S1 d f=>bm s d f c
 | .S1e d f=>if c=10 then {s with md:=.S1 d f,ln:=s.ln+1} else {s with md:=.S1 d f}
 | .S3 d k f=>
  if c=qc d then (if k=2 then {s with md:=.N} else {s with md:=.S3 d (k+1) f})
  else if c=10 then {s with md:=.S3 d 0 f,ln:=s.ln+1}
  else if c=92 then {s with md:=.S3e d f}
  else {s with md:=.S3 d 0 f}
 | .S3e d f=>if c=10 then {s with md:=.S3 d 0 f,ln:=s.ln+1} else {s with md:=.S3 d 0 f}
noncomputable def scan (s:St)(l:List Nat):St:=l.foldl step s
noncomputable def st0:St:=⟨.N,0,0,[0]⟩
noncomputable def tr (c:Nat):Nat:=
 if c=40∨c=123∨c=91 then 40 else if c=41∨c=125∨c=93 then 41
 else if c=34∨c=39∨c=92∨c=10∨c=35 then c else 120
theorem aZ (s:St)(c:Nat)(l:List Nat):scan s (c::l)=scan (step s c) l:=rfl
theorem aV (s:St)(a b:List Nat):scan s (a++b)=scan (scan s a) b:=List.foldl_append ..
theorem tX (s:St):step (step s 120) 120=step s 120:=by
 obtain⟨md,lv,ln,gd⟩:=s
 cases md with
 |N=>rfl
 |Nb=>rfl
 |E=>rfl
 |C=>rfl
 |Q1 d f=>cases d<;>rfl
 |Q2 d f=>cases d<;>rfl
 |S1 d f=>cases d<;>rfl
 |S1e d f=>cases d<;>rfl
 |S3 d k f=>cases d<;>rfl
 |S3e d f=>cases d<;>rfl
theorem rF (s:St)(k:Nat):scan s (List.replicate (k+1) 120)=step s 120:=by
 induction k generalizing s with
 |zero=>rfl
 |succ k ih=>rw[List.replicate_succ,aZ,ih,tX]
noncomputable def un (s:St):St:=match s.md with | .Nb=>{s with md:=.N}|_=>s
theorem uq (s:St)(c:Nat):step (un s) c=step s c:=by
 obtain⟨md,lv,ln,gd⟩:=s
 cases md<;>rfl
theorem vc (s:St)(c:Nat)(l:List Nat):scan (un s) (c::l)=scan s (c::l):=by
 rw[aZ,aZ,uq]
theorem tT (s:St):step (step s 10) 120=un (step s 10):=by
 obtain⟨md,lv,ln,gd⟩:=s
 cases md with
 |N=>rfl
 |Nb=>rfl
 |E=>rfl
 |C=>rfl
 |Q1 d f=>cases d<;>rfl
 |Q2 d f=>cases d<;>rfl
 |S1 d f=>cases d<;>rfl
 |S1e d f=>cases d<;>rfl
 |S3 d k f=>cases d<;>rfl
 |S3e d f=>cases d<;>rfl
theorem vi (s:St)(c:Nat)(l:List Nat):scan s (10::120::c::l)=scan s (10::c::l):=by
 rw[aZ,aZ,tT,vc,←aZ]
end Mine
end
section
namespace Mine
open PySem PySem.Builtin.Str
noncomputable abbrev sg (x:Str):List Nat:=x.cps.toList
theorem iY (a b:Str):sg (a++b)=sg a++sg b:=by
 show (a.cps++b.cps).toList=_
 simp[sg]
theorem bx (x y z:Str)(hy:y.length≠0):∃parts:List Str,Str.join y parts=x∧Txt.replace x y z=Str.join z parts:=by
 unfold Txt.replace
 have e:(y.length==0&&z.length==0)=false:=by simp[hy]
 rw[e,Bool.or_false]
 by_cases h:(occurrences x y 0 x.length (x.length+1)).isEmpty=true
 ·rw[if_pos h];exact⟨[x],rfl,rfl⟩
 ·rw[if_neg h]
  refine⟨partsBetween x (occurrences x y 0 x.length (x.length+1)) y.length,?_,StrLaws.glued_eq_join _ _⟩
  obtain⟨f,h⟩:=StrLaws.occ_chain x y (x.length+1)
  rw[StrLaws.partsBetween_eq,StrLaws.join_partsFrom x y _ 0 f h,StrLaws.sub_whole]
theorem aO (y a b:Str)(r:List Str):sg (Str.join y (a::b::r))=sg a++(sg y++sg (Str.join y (b::r))):=by
 show sg (a++y++Str.join y (b::r))=_
 rw[iY,iY,Qv]
theorem iB {y z:Str}(h:∀s,scan s (sg y)=scan s (sg z)):∀(parts:List Str) (s:St),scan s (sg (Str.join y parts))=scan s (sg (Str.join z parts))
 | [],_=>rfl
 | [_],_=>rfl
 |a::b::r,s=>by
  rw[aO,aO,aV,aV,aV,aV,h,iB h (b::r)]
theorem jD {x y z:Str}(hy:y.length≠0)(h:∀s,scan s (sg y)=scan s (sg z))(s:St):scan s (sg (Txt.replace x y z))=scan s (sg x):=by
 obtain⟨parts,e1,e2⟩:=bx x y z hy
 rw[e2,←iB h,e1]
theorem gz {y z:Str}(hy:sg y=[10,120])(hz:sg z=[10]):∀(parts:List Str) (s:St),(sg (Str.join y parts)).getLast?≠some 120→
  scan s (sg (Str.join y parts))=scan s (sg (Str.join z parts))
 | [],_,_=>rfl
 | [_],_,_=>rfl
 |a::b::r,s,hl=>by
  rw[aO,hy] at hl
  rw[aO,aO,hy,hz,aV s (sg a),aV s (sg a)]
  have hne:sg (Str.join y (b::r))≠[]:=by
   intro e;rw[e] at hl;simp at hl
  have hl':(sg (Str.join y (b::r))).getLast?≠some 120:=by
   intro e;apply hl
   rw[Qb,Qb,e];rfl
  have ih:=fun s=>gz hy hz (b::r) s hl'
  generalize scan s (sg a)=s
  have e10:scan s ([10]++sg (Str.join z (b::r)))=scan s (10::sg (Str.join y (b::r))):=by
   show scan (step s 10) (sg (Str.join z (b::r)))=scan (step s 10) (sg (Str.join y (b::r)))
   exact (ih _).symm
  rw[e10]
  obtain⟨c,l,e⟩:=List.exists_cons_of_ne_nil hne
  rw[e]
  exact vi s c l
theorem g9 {y z:Str}(hy:sg y=[10,120])(hz:sg z=[10]):∀(parts:List Str),(sg (Str.join y parts)).getLast?≠some 120→
  (sg (Str.join z parts)).getLast?=(sg (Str.join y parts)).getLast?
 | [],_=>rfl
 | [_],_=>rfl
 |a::b::r,hl=>by
  rw[aO,hy] at hl
  rw[aO,aO,hy,hz]
  have hne:sg (Str.join y (b::r))≠[]:=by
   intro e;rw[e] at hl;simp at hl
  have hl':(sg (Str.join y (b::r))).getLast?≠some 120:=by
   intro e;apply hl
   rw[Qb,Qb,e];rfl
  have ih:=g9 hy hz (b::r) hl'
  have hs:(sg (Str.join y (b::r))).getLast?.isSome=true:=by
   rw[Option.isSome_iff_ne_none];intro e;exact hne (List.getLast?_eq_none_iff.mp e)
  rw[Qb,Qb,Qb,Qb,ih]
  obtain⟨v,hv⟩:=Option.isSome_iff_exists.mp hs
  rw[hv];rfl
theorem iZ {y z:Str}(hy:(sg y).getLast?=some 120)(hz:(sg z).getLast?=some 120):∀(parts:List Str),(sg (Str.join z parts)).getLast?=(sg (Str.join y parts)).getLast?
 | []=>rfl
 | [_]=>rfl
 |a::b::r=>by
  rw[aO,aO]
  have ih:=iZ hy hz (b::r)
  rw[Qb,Qb,Qb,Qb,ih,hy,hz]
theorem kH (y:Str):∀(parts:List Str) (c:Nat),c∈sg (Str.join y parts)→c∈sg y∨∃p∈parts,c∈sg p
 | [],c,h=>by simp[Str.join,Str.empty,sg] at h
 | [a],c,h=>.inr ⟨a,.head _,h⟩
 |a::b::r,c,h=>by
  rw[aO] at h
  simp only[Qu] at h
  rcases h with h|h|h
  ·exact .inr ⟨a,.head _,h⟩
  ·exact .inl h
  ·rcases kH y (b::r) c h with h|⟨p,hp,h⟩
   ·exact .inl h
   ·exact .inr ⟨p,.tail _ hp,h⟩
theorem k0 (y:Str):∀(parts:List Str) (p:Str),p∈parts→∀c∈sg p,c∈sg (Str.join y parts)
 | [a],p,hp,c,h=>by
  have:p=a:=by simpa using hp
  rw[←this];exact h
 |a::b::r,p,hp,c,h=>by
  rw[aO]
  simp only[Qu]
  rcases Qy.mp hp with rfl|hp
  ·exact .inl h
  ·exact .inr (.inr (k0 y (b::r) p hp c h))
theorem ck {x y z:Str}(hy:y.length≠0){c:Nat}(h:c∈sg (Txt.replace x y z)):c∈sg z∨c∈sg x:=by
 obtain⟨parts,e1,e2⟩:=bx x y z hy
 rw[e2] at h
 rcases kH z parts c h with h|⟨p,hp,h⟩
 ·exact .inl h
 ·rw[←e1];exact .inr (k0 y parts p hp c h)
theorem kM {y z:Str}(h:(sg z).length≤(sg y).length):∀parts:List Str,(sg (Str.join z parts)).length≤(sg (Str.join y parts)).length
 | []=>Zv _
 | [_]=>Zv _
 |a::b::r=>by
  have ih:=kM h (b::r)
  rw[aO,aO]
  simp only[Qj]
  exact R0 h ih
theorem bU {x y z:Str}(hy:y.length≠0)(h:(sg z).length≤(sg y).length):(sg (Txt.replace x y z)).length≤(sg x).length:=by
 obtain⟨parts,e1,e2⟩:=bx x y z hy
 rw[e2,←e1];exact kM h parts
noncomputable def X (n:Nat):Str:=⟨(List.replicate n 120).toArray⟩
noncomputable def cJ (x:Str):Str:=
 Txt.replace (Txt.replace (Txt.replace (Txt.replace (Txt.replace x (X 8) (X 1)) (X 4) (X 1)) (X 2) (X 1)) (X 2) (X 1)) ⟨#[10,120]⟩ ⟨#[10]⟩
theorem e6 (x:Str)(k:Nat)(s:St):scan s (sg (Txt.replace x (X (k+1)) (X 1)))=scan s (sg x):=
 jD (by simp[X,Str.length]) (fun s=>by
  show scan s (List.replicate (k+1) 120)=scan s (List.replicate (0+1) 120)
  rw[rF,rF]) s
theorem cm (x:Str)(k:Nat):(sg (Txt.replace x (X (k+1)) (X 1))).getLast?=(sg x).getLast?:=by
 obtain⟨parts,e1,e2⟩:=bx x (X (k+1)) (X 1) (by simp[X,Str.length])
 rw[e2]
 conv=>rhs;rw[←e1]
 exact iZ (by show (List.replicate (k+1) 120).getLast?=_;simp[List.getLast?_replicate]) rfl parts
theorem kY (x:Str)(h:(sg x).getLast?≠some 120)(s:St):scan s (sg (cJ x))=scan s (sg x):=by
 unfold cJ
 have h4:(sg (Txt.replace (Txt.replace (Txt.replace (Txt.replace x (X 8) (X 1)) (X 4) (X 1)) (X 2) (X 1)) (X 2) (X 1))).getLast?=(sg x).getLast?:=by
  rw[cm _ 1,cm _ 1,cm _ 3,cm _ 7]
 obtain⟨parts,e1,e2⟩:=bx (Txt.replace (Txt.replace (Txt.replace (Txt.replace x (X 8) (X 1)) (X 4) (X 1)) (X 2) (X 1)) (X 2) (X 1)) ⟨#[10,120]⟩ ⟨#[10]⟩ (by decide)
 rw[e2,←gz (y:=⟨#[10,120]⟩) (z:=⟨#[10]⟩) rfl rfl parts s (by rw[e1,h4];exact h),e1,e6 _ 1,e6 _ 1,e6 _ 3,e6 _ 7]
theorem km (x:Str)(h:(sg x).getLast?≠some 120):(sg (cJ x)).getLast?=(sg x).getLast?:=by
 unfold cJ
 have h4:(sg (Txt.replace (Txt.replace (Txt.replace (Txt.replace x (X 8) (X 1)) (X 4) (X 1)) (X 2) (X 1)) (X 2) (X 1))).getLast?=(sg x).getLast?:=by
  rw[cm _ 1,cm _ 1,cm _ 3,cm _ 7]
 obtain⟨parts,e1,e2⟩:=bx (Txt.replace (Txt.replace (Txt.replace (Txt.replace x (X 8) (X 1)) (X 4) (X 1)) (X 2) (X 1)) (X 2) (X 1)) ⟨#[10,120]⟩ ⟨#[10]⟩ (by decide)
 rw[e2,g9 (y:=⟨#[10,120]⟩) (z:=⟨#[10]⟩) rfl rfl parts (by rw[e1,h4];exact h),e1,h4]
theorem lP {x:Str}{c:Nat}(h:c∈sg (cJ x)):c=120∨c=10∨c∈sg x:=by
 unfold cJ at h
 rcases ck (by decide) h with h|h
 ·exact .inr (.inl (by simpa [sg] using h))
 rcases ck (by decide) h with h|h
 ·exact .inl (by simpa [sg,X] using h)
 rcases ck (by decide) h with h|h
 ·exact .inl (by simpa [sg,X] using h)
 rcases ck (by decide) h with h|h
 ·exact .inl (by simpa [sg,X] using h)
 rcases ck (by decide) h with h|h
 ·exact .inl (by simpa [sg,X] using h)
 ·exact .inr (.inr h)
end Mine
end
section
namespace Mine
open PySem PyProof.Rows
theorem aG {A:Prop}(h:∀G:Prop,(A→G)→G):A:=h A id
theorem nos {α:Type}{a:Option α}{x:α}(e:a=none)(g:a=some x):False:=by rw[e] at g;contradiction
theorem ls0 {α:Type}{P:List α→Prop}(h:P [])(l:List α)(e:l.length=0):P l:=List.eq_nil_of_length_eq_zero e▸h
theorem lsS {α:Type}{n:Nat}{P:List α→Prop}(h:∀a l,l.length=n→P (a::l))(l:List α):l.length=n+1→P l:=
 List.casesOn (motive:=fun l=>l.length=n+1→P l) l (fun e=>absurd e.symm (Nat.succ_ne_zero n)) fun a l e=>h a l (Nat.succ.inj e)
set_option genCtorIdx true in
inductive D where
 |none
 |bool (b:Bool)
 |int (i:Int)
 |str (x:Str)
 |tup (xs:List D)
 |lst (xs:List D)
set_option genCtorIdx true in
inductive Bi where
 |len|isinstance|max|min|list|tuple|range|bool|int
noncomputable def Bi.val:Bi→Value
 | .len=>.builtin "len"
 | .isinstance=>.builtin "isinstance"
 | .max=>.builtin "max"
 | .min=>.builtin "min"
 | .list=>.type "list"
 | .tuple=>.type "tuple"
 | .range=>.type "range"
 | .bool=>.type "bool"
 | .int=>.type "int"
set_option genCtorIdx true in
inductive V where
 |d (x:D)
 |obj (k:Nat)
 |val (w:Value)
 |rng (a b:Int)
 |bi (b:Bi)
 |mt (e:Int)
set_option genCtorIdx true in
inductive O where
 |list (xs:List D)
 |ns (fs:List (Str×V))
 |inst (C:Addr) (dk:Nat)
 |bound (id:String) (k:Nat)
noncomputable abbrev aa:=List (Nat×O)
noncomputable abbrev Loc:=List (Str×V)
noncomputable def look {β:Type}:List (Str×β)→Str→Option β
 | [],_=>none
 | (y,v)::r,x=>if y=x then some v else look r x
noncomputable def put {β:Type}:List (Str×β)→Str→β→List (Str×β)
 | [],x,v=>[(x,v)]
 | (y,u)::r,x,v=>if y=x then (y,v)::r else (y,u)::put r x v
theorem am {β:Type}(l:List (Str×β))(x y:Str)(v:β):look (put l x v) y=if y=x then some v else look l y:=by
 induction l with
 |nil=>
  dsimp only[put,look]
  by_cases h:x=y
  ·rw[if_pos h,if_pos h.symm]
  ·rw[if_neg h,if_neg (fun e=>h e.symm)]
 |cons p r ih=>
  obtain⟨z,u⟩:=p
  dsimp only[put]
  by_cases hz:z=x
  ·rw[if_pos hz]
   dsimp only[look]
   subst hz
   by_cases h:z=y
   ·rw[if_pos h,if_pos h.symm]
   ·rw[if_neg h,if_neg (fun e=>h e.symm),if_neg h]
  ·rw[if_neg hz]
   dsimp only[look]
   by_cases h:z=y
   ·rw[if_pos h,if_pos h]
    rw[if_neg (fun e=>hz (h.trans e))]
   ·rw[if_neg h,if_neg h];exact ih
noncomputable def ae:aa→Nat→Option O
 | [],_=>none
 | (j,o)::r,k=>if j=k then some o else ae r k
noncomputable def cset:aa→Nat→O→aa
 | [],_,_=>[]
 | (j,u)::r,k,o=>if j=k then (j,o)::r else (j,u)::cset r k o
noncomputable def dom (c:aa):List Nat:=c.map (·.1)
theorem ah {c:aa}{k:Nat}{o:O}(h:ae c k=some o):k∈dom c:=by
 induction c with
 |nil=>cases h
 |cons p r ih=>
  obtain⟨j,u⟩:=p
  dsimp only[ae] at h
  by_cases e:j=k
  ·subst e;exact .head _
  ·rw[if_neg e] at h;exact .tail _ (ih h)
theorem rA {c:aa}{k:Nat}(h:k∈dom c):∃o,ae c k=some o:=by
 induction c with
 |nil=>cases h
 |cons p r ih=>
  obtain⟨j,u⟩:=p
  dsimp only[ae]
  by_cases e:j=k
  ·exact⟨u,if_pos e⟩
  ·rw[if_neg e]
   rcases Qy.mp h with h|h
   ·exact absurd h.symm e
   ·exact ih h
theorem ai (c:aa)(k:Nat)(o:O):dom (cset c k o)=dom c:=by
 induction c with
 |nil=>rfl
 |cons p r ih=>
  obtain⟨j,u⟩:=p
  dsimp only[cset]
  by_cases e:j=k
  ·rw[if_pos e];rfl
  ·rw[if_neg e];show j::dom (cset r k o)=_;rw[ih];rfl
theorem av {c:aa}{k:Nat}(h:k∈dom c)(o:O)(j:Nat):ae (cset c k o) j=if j=k then some o else ae c j:=by
 induction c with
 |nil=>cases h
 |cons p r ih=>
  obtain⟨i,u⟩:=p
  show ae (if i=k then _ else _) j=if j=k then _ else if i=j then _ else _
  by_cases e:i=k
  ·subst e
   rw[if_pos rfl]
   by_cases h':i=j
   ·subst h';rw[if_pos rfl];exact if_pos rfl
   ·rw[if_neg (fun e=>h' e.symm),if_neg h'];exact if_neg h'
  ·have hk:k∈dom r:=(Qy.mp h).resolve_left fun h=>e h.symm
   rw[if_neg e]
   show (if i=j then _ else ae (cset r k o) j)=_
   rw[ih hk]
   by_cases h':i=j
   ·subst h';rw[if_pos rfl,if_neg e,if_pos rfl]
   ·rw[if_neg h',if_neg h']
noncomputable abbrev bq (T:String) (ws:List Value) (ep:Nat):Obj:={cls:=.type T,data:=.seq ws.toArray ep}
noncomputable abbrev kf (id:String) (a:Addr):Obj:={cls:=.type "builtin_function_or_method",data:=.fields #[.builtin id,.ref a]}
noncomputable abbrev xF (a b:Int) (t u v:Tok):Obj:={cls:=.type "range",data:=.fields #[.int a t,.int b u,.int 1 v]}
noncomputable def cv (o:Obj):Bool:=match o.data with
 | .seq ..=>true
 | .fields _=>o.cls==.type "range" || o.cls==.type "re.Match"
 |_=>false
theorem ifO {α:Type}{p:Prop} [Decidable p] {a:Option α}{r:α}(h:(if p then a else none)=some r):p∧a=some r:=by
 by_cases q:p
 ·rw[if_pos q] at h;exact⟨q,h⟩
 ·rw[if_neg q] at h;contradiction
noncomputable def gt:V→Option Str
 | .d x=>(match x with
  | .str u=>some u
  |_=>none)
 |_=>none
theorem gm {v:V}{x:Str}(h:gt v=some x):v=.d (.str x):=by
 cases v with
 |d y=>cases y with
  |str u=>exact Option.some.inj h▸rfl
  |_=>contradiction
 |_=>contradiction
def aw {β:Type}(o:Option β)(f:β→Prop):Prop:=match o with
 |some x=>f x
 |none=>False
def onD (u:V)(f:D→Prop):Prop:=match u with
 | .d x=>f x
 |_=>False
def gy (u:V)(f:Nat→Prop):Prop:=match u with
 | .obj k=>f k
 |_=>False
def sD (x:D)(f:Str→Prop):Prop:=match x with
 | .str x=>f x
 |_=>False
def iD (x:D)(f:Int→Prop):Prop:=match x with
 | .int x=>f x
 |_=>False
def fU (u:V)(f:Str→Prop):Prop:=onD u fun x=>sD x f
def fK (u:V)(f:Int→Prop):Prop:=onD u fun x=>iD x f
def lO (x:O)(f:List D→Prop):Prop:=match x with
 | .list xs=>f xs
 |_=>False
def nO (x:O)(f:List (Str×V)→Prop):Prop:=match x with
 | .ns xs=>f xs
 |_=>False
def jO (x:O)(f:Addr→Nat→Prop):Prop:=match x with
 | .inst C k=>f C k
 |_=>False
def bO (x:O)(f:String→Nat→Prop):Prop:=match x with
 | .bound C k=>f C k
 |_=>False
def cG (o:Option O)(f:List D→Prop):Prop:=aw o fun x=>lO x f
def xO (o:Option O)(f:List (Str×V)→Prop):Prop:=aw o fun x=>nO x f
def eD (o:Option O)(f:Addr→Nat→Prop):Prop:=aw o fun x=>jO x f
def eU (o:Option O)(f:String→Nat→Prop):Prop:=aw o fun x=>bO x f
theorem ax {β:Type}{o:Option β}{f:β→Prop}(h:aw o f):∃x,o=some x∧f x:=by
 cases o with
 |some x=>exact⟨x,rfl,h⟩
 |none=>exact h.elim
theorem cR {u:V}{f:D→Prop}(h:onD u f):∃x,u=.d x∧f x:=by
 cases u with
 |d x=>exact⟨x,rfl,h⟩
 |_=>exact h.elim
theorem dQ {u:V}{f:Nat→Prop}(h:gy u f):∃x,u=.obj x∧f x:=by
 cases u with
 |obj x=>exact⟨x,rfl,h⟩
 |_=>exact h.elim
theorem cy {u:V}{f:Str→Prop}(h:fU u f):∃x,u=.d (.str x)∧f x:=by
 obtain⟨x,rfl,h⟩:=cR h
 cases x with
 |str x=>exact⟨x,rfl,h⟩
 |_=>exact h.elim
theorem cj {u:V}{f:Int→Prop}(h:fK u f):∃x,u=.d (.int x)∧f x:=by
 obtain⟨x,rfl,h⟩:=cR h
 cases x with
 |int x=>exact⟨x,rfl,h⟩
 |_=>exact h.elim
theorem cH {o:Option O}{f:List D→Prop}(h:cG o f):∃xs,o=some (.list xs)∧f xs:=by
 obtain⟨x,rfl,h⟩:=ax h
 cases x with
 |list xs=>exact⟨xs,rfl,h⟩
 |_=>exact h.elim
theorem lB {o:Option O}{f:List (Str×V)→Prop}(h:xO o f):∃xs,o=some (.ns xs)∧f xs:=by
 obtain⟨x,rfl,h⟩:=ax h
 cases x with
 |ns xs=>exact⟨xs,rfl,h⟩
 |_=>exact h.elim
theorem gR {o:Option O}{f:Addr→Nat→Prop}(h:eD o f):∃C k,o=some (.inst C k)∧f C k:=by
 obtain⟨x,rfl,h⟩:=ax h
 cases x with
 |inst C k=>exact⟨C,k,rfl,h⟩
 |_=>exact h.elim
theorem fJ {o:Option O}{f:String→Nat→Prop}(h:eU o f):∃C k,o=some (.bound C k)∧f C k:=by
 obtain⟨x,rfl,h⟩:=ax h
 cases x with
 |bound C k=>exact⟨C,k,rfl,h⟩
 |_=>exact h.elim
noncomputable abbrev Al:=Nat→Addr
def ay (c:aa)(α:Al)(b:Addr):Prop:=∃k∈dom c,α k=b
mutual
inductive IsD (h:Heap)(own:Addr→Prop):D→Value→Prop
 |none:IsD h own .none .none
 |bool (b:Bool):IsD h own (.bool b) (.bool b)
 |int (i:Int) (t:Tok):IsD h own (.int i) (.int i t)
 |str (x:Str) (t:Tok):IsD h own (.str x) (.str x t)
 |tup {xs:List D} {ws:List Value} {a:Addr} {ep:Nat}:h.get? a=some (bq "tuple" ws ep)→¬own a→IsDs h own xs ws→IsD h own (.tup xs) (.ref a)
 |lst {xs:List D} {ws:List Value} {a:Addr} {ep:Nat}:h.get? a=some (bq "list" ws ep)→¬own a→IsDs h own xs ws→IsD h own (.lst xs) (.ref a)
inductive IsDs (h:Heap)(own:Addr→Prop):List D→List Value→Prop
 |nil:IsDs h own [] []
 |cons {x:D} {w:Value} {xs:List D} {ws:List Value}:IsD h own x w→IsDs h own xs ws→IsDs h own (x::xs) (w::ws)
end
def Inv (h:Heap)(own:Addr→Prop)(x:D)(w:Value):Prop:=match x with
 | .none=>w=.none
 | .bool b=>w=.bool b
 | .int i=>∃t,w=.int i t
 | .str x=>∃t,w=.str x t
 | .tup xs=>∃ws a ep,w=.ref a∧h.get? a=some (bq "tuple" ws ep)∧¬own a∧IsDs h own xs ws
 | .lst xs=>∃ws a ep,w=.ref a∧h.get? a=some (bq "list" ws ep)∧¬own a∧IsDs h own xs ws
theorem IsD.inv {h:Heap}{own:Addr→Prop}{x:D}{w:Value}(i:IsD h own x w):Inv h own x w:=
 IsD.casesOn (motive_1:=fun x w _=>Inv h own x w) i rfl (fun _=>rfl) (fun _ t=>⟨t,rfl⟩) (fun _ t=>⟨t,rfl⟩) (fun g n r=>⟨_,_,_,rfl,g,n,r⟩) (fun g n r=>⟨_,_,_,rfl,g,n,r⟩)
theorem IsDs.ind {h:Heap}{own:Addr→Prop}{M:List D→List Value→Prop}(nil:M [] [])(cons:∀{x w xs ws},IsD h own x w→IsDs h own xs ws→M xs ws→M (x::xs) (w::ws)){xs:List D}{ws:List Value}(i:IsDs h own xs ws):M xs ws:=
 IsDs.rec (motive_1:=fun _ _ _=>True) (motive_2:=fun xs ws _=>M xs ws) trivial (fun _=>trivial) (fun _ _=>trivial) (fun _ _=>trivial) (fun _ _ _ _=>trivial) (fun _ _ _ _=>trivial) nil (fun a r _ m=>cons a r m) i
def ym (h:Heap)(own:Addr→Prop)(xs:List D)(ws:List Value):Prop:=match xs with
 | []=>ws=[]
 |x::r=>∃w ws',ws=w::ws'∧IsD h own x w∧IsDs h own r ws'
theorem IsDs.inv {h:Heap}{own:Addr→Prop}{xs:List D}{ws:List Value}(i:IsDs h own xs ws):ym h own xs ws:=
 i.ind (M:=ym h own) rfl fun a r _=>⟨_,_,rfl,a,r⟩
theorem IsD.two {h:Heap}{own:Addr→Prop}{x y:D}{w:Value}(i:IsD h own (.tup [x,y]) w):∃wx wy a ep,w=.ref a∧h.get? a=some (bq "tuple" [wx,wy] ep)∧IsD h own x wx∧IsD h own y wy:=by
 obtain⟨ws,a,ep,e,g,_,r⟩:=i.inv
 obtain⟨wx,r1,rfl,ix,r⟩:=r.inv
 obtain⟨wy,r2,rfl,iy,r⟩:=r.inv
 obtain rfl:r2=[]:=r.inv
 exact⟨wx,wy,a,ep,e,g,ix,iy⟩
theorem IsDs.length {h:Heap}{own:Addr→Prop}{xs:List D}{ws:List Value}(i:IsDs h own xs ws):xs.length=ws.length:=
 i.ind (M:=fun xs ws=>xs.length=ws.length) rfl fun _ _ m=>congrArg Nat.succ m
theorem IsDs.append {h:Heap}{own:Addr→Prop}{ys:List D}{vs:List Value}(y:IsDs h own ys vs){xs:List D}{ws:List Value}(i:IsDs h own xs ws):IsDs h own (xs++ys) (ws++vs):=
 i.ind (M:=fun xs ws=>IsDs h own (xs++ys) (ws++vs)) y fun a _ m=>.cons a m
theorem IsDs.get {h:Heap}{own:Addr→Prop}{xs:List D}{ws:List Value}(i:IsDs h own xs ws):∀(i:Nat) (x:D),xs[i]?=some x→∃w,ws[i]?=some w∧IsD h own x w:=
 i.ind (M:=fun xs ws=>∀(i:Nat) (x:D),xs[i]?=some x→∃w,ws[i]?=some w∧IsD h own x w) (fun _ _=>nofun) fun a _ m k=>Nat.casesOn k (fun _ e=>Option.some.inj e▸⟨_,rfl,a⟩) m
theorem IsDs.drop {h:Heap}{own:Addr→Prop}{xs:List D}{ws:List Value}(i:IsDs h own xs ws):∀n,IsDs h own (xs.drop n) (ws.drop n):=
 i.ind (M:=fun xs ws=>∀n,IsDs h own (xs.drop n) (ws.drop n)) (fun n=>Nat.casesOn n .nil fun _=>.nil) fun a r m n=>Nat.casesOn n (.cons a r) m
theorem IsDs.take {h:Heap}{own:Addr→Prop}{xs:List D}{ws:List Value}(i:IsDs h own xs ws):∀n,IsDs h own (xs.take n) (ws.take n):=
 i.ind (M:=fun xs ws=>∀n,IsDs h own (xs.take n) (ws.take n)) (fun n=>Nat.casesOn n .nil fun _=>.nil) fun a _ m n=>Nat.casesOn n .nil fun n=>.cons a (m n)
theorem IsD.step {own own':Addr→Prop}{h h':Heap}(kept:∀b o,cv o=true→h.get? b=some o→¬own b→h'.get? b=some o)
  (grow:∀b,own' b→own b∨h.get? b=Option.none) {x:D} {w:Value} (i:IsD h own x w):IsD h' own' x w:=
 have nn:∀{b o},h.get? b=some o→¬own b→¬own' b:=fun g n e=>(grow _ e).elim n fun e=>nos e g
 IsD.rec (motive_1:=fun x w _=>IsD h' own' x w) (motive_2:=fun xs ws _=>IsDs h' own' xs ws) .none .bool .int .str (fun g n _ r=>.tup (kept _ _ rfl g n) (nn g n) r) (fun g n _ r=>.lst (kept _ _ rfl g n) (nn g n) r) .nil (fun _ _ a r=>.cons a r) i
theorem IsDs.step {own own':Addr→Prop}{h h':Heap}(kept:∀b o,cv o=true→h.get? b=some o→¬own b→h'.get? b=some o)
  (grow:∀b,own' b→own b∨h.get? b=none) {xs:List D} {ws:List Value} (i:IsDs h own xs ws):IsDs h' own' xs ws:=
 i.ind (M:=fun xs ws=>IsDs h' own' xs ws) .nil fun a _ m=>.cons (a.step kept grow) m
structure IsM (h:Heap)(own:Addr→Prop)(r:Addr)(e:Int):Prop where
 ob:∃fs tup i ep,h.get? r=some {cls:=.type "re.Match",data:=.fields fs}∧fs.getD 5 .none=.ref tup∧h.get? tup=some (bq "tuple" [.int i 0,.int e 0] ep)∧¬own tup
 no:¬own r
theorem IsM.step {own own':Addr→Prop}{h h':Heap}(kept:∀b o,cv o=true→h.get? b=some o→¬own b→h'.get? b=some o)(grow:∀b,own' b→own b∨h.get? b=none){r:Addr}{e:Int}(i:IsM h own r e):IsM h' own' r e:=by
 obtain⟨fs,tup,j,ep,g1,g2,g3,n⟩:=i.ob
 have nn:∀{b o},h.get? b=some o→¬own b→¬own' b:=fun g n e=>(grow _ e).elim n (fun e=>by rw[e] at g;cases g)
 exact⟨⟨fs,tup,j,ep,kept _ _ rfl g1 i.no,g2,kept _ _ rfl g3 n,nn g3 n⟩,nn g1 i.no⟩
def IsV (c:aa)(α:Al)(h:Heap):V→Value→Prop
 | .d x,w=>IsD h (ay c α) x w
 | .obj k,w=>w=.ref (α k)∧k∈dom c
 | .val v,w=>w=v
 | .bi b,w=>w=b.val
 | .mt e,w=>∃r,w=.ref r∧IsM h (ay c α) r e
 | .rng a b,w=>∃r t u v,w=.ref r∧h.get? r=some (xF a b t u v)∧¬ay c α r
def IsO (c:aa)(α:Al)(h:Heap)(a:Addr):O→Prop
 | .list xs=>∃ws ep,h.get? a=some (bq "list" ws ep)∧IsDs h (ay c α) xs ws
 | .ns fs=>∃o es ep,h.get? a=some o∧o.data=.dict es ep∧StrKeys es∧es.size=fs.length∧
   ∀x,match look fs x with
    |some v=>∃w,nsFind es x=some w∧IsV c α h v w
    |none=>nsFind es x=none
 | .inst C dk=>h.get? a=some {cls:=.ref C,dict:=some (α dk)}∧dk∈dom c
 | .bound id k=>h.get? a=some (kf id (α k))∧k∈dom c
structure Le (c:aa)(α:Al)(h:Heap)(c':aa)(α':Al)(h':Heap):Prop where
 dom:∀k∈dom c,k∈Mine.dom c'
 agree:∀k∈Mine.dom c,α' k=α k
 kept:∀b o,h.get? b=some o→¬ay c α b→h'.get? b=some o
 grow:∀k∈Mine.dom c',ay c α (α' k)∨h.get? (α' k)=none
theorem Le.refl (c:aa)(α:Al)(h:Heap):Le c α h c α h:=
 ⟨fun _ x=>x,fun _ _=>rfl,fun _ _ e _=>e,fun k hk=>.inl ⟨k,hk,rfl⟩⟩
theorem Le.not_own {c c':aa}{α α':Al}{h h':Heap}(x:Le c α h c' α' h'){b:Addr}{o:Obj}(e:h.get? b=some o)(n:¬ay c α b):¬ay c' α' b:=by
 rintro⟨k,hk,rfl⟩
 rcases x.grow k hk with q|q
 ·exact n q
 ·rw[q] at e;contradiction
theorem Le.trans {c₁ c₂ c₃:aa}{α₁ α₂ α₃:Al}{h₁ h₂ h₃:Heap}(x:Le c₁ α₁ h₁ c₂ α₂ h₂)(y:Le c₂ α₂ h₂ c₃ α₃ h₃):Le c₁ α₁ h₁ c₃ α₃ h₃:=by
 refine⟨fun k hk=>y.dom k (x.dom k hk),fun k hk=>(y.agree k (x.dom k hk)).trans (x.agree k hk),fun b o e n=>y.kept b o (x.kept b o e n) (x.not_own e n),fun k hk=>?_⟩
 rcases y.grow k hk with ⟨j,hj,e⟩|q
 ·rw[←e];exact x.grow j hj
 ·by_cases n:ay c₁ α₁ (α₃ k)
  ·exact .inl n
  ·refine .inr ?_
   cases e:h₁.get? (α₃ k) with
   |none=>rfl
   |some o=>rw[x.kept _ _ e n] at q;contradiction
theorem Le.isD {c c':aa}{α α':Al}{h h':Heap}(x:Le c α h c' α' h'){d:D}{w:Value}(i:IsD h (ay c α) d w):IsD h' (ay c' α') d w:=
 i.step (fun b _ _ e n=>x.kept b _ e n) (fun b ⟨k,hk,e⟩=>e▸x.grow k hk)
theorem Le.isDs {c c':aa}{α α':Al}{h h':Heap}(x:Le c α h c' α' h'){ds:List D}{ws:List Value}(i:IsDs h (ay c α) ds ws):IsDs h' (ay c' α') ds ws:=
 i.step (fun b _ _ e n=>x.kept b _ e n) (fun b ⟨k,hk,e⟩=>e▸x.grow k hk)
theorem Le.isV {c c':aa}{α α':Al}{h h':Heap}(x:Le c α h c' α' h'){v:V}{w:Value}(i:IsV c α h v w):IsV c' α' h' v w:=by
 cases v with
 |d y=>exact x.isD i
 |obj k=>exact⟨by rw[x.agree k i.2];exact i.1,x.dom k i.2⟩
 |val u=>exact i
 |rng p q=>obtain⟨r,t,u,v,e,g,n⟩:=i;exact⟨r,t,u,v,e,x.kept _ _ g n,x.not_own g n⟩
 |bi b=>exact i
 |mt e=>obtain⟨r,e,m⟩:=i;exact⟨r,e,m.step (fun b _ _ e n=>x.kept b _ e n) (fun b ⟨k,hk,e⟩=>e▸x.grow k hk)⟩
inductive IsVs (c:aa)(α:Al)(h:Heap):List V→List Value→Prop
 |nil:IsVs c α h [] []
 |cons {v:V} {w:Value} {vs:List V} {ws:List Value}:IsV c α h v w→IsVs c α h vs ws→IsVs c α h (v::vs) (w::ws)
def y3 (c:aa)(α:Al)(h:Heap)(vs:List V)(ws:List Value):Prop:=match vs with
 | []=>ws=[]
 |v::r=>∃w ws',ws=w::ws'∧IsV c α h v w∧IsVs c α h r ws'
theorem IsVs.inv {c:aa}{α:Al}{h:Heap}{vs:List V}{ws:List Value}(i:IsVs c α h vs ws):y3 c α h vs ws:=
 IsVs.casesOn (motive:=fun vs ws _=>y3 c α h vs ws) i rfl fun a r=>⟨_,_,rfl,a,r⟩
theorem IsVs.one {c:aa}{α:Al}{h:Heap}{v:V}{ws:List Value}(i:IsVs c α h [v] ws):∃w,ws=[w]∧IsV c α h v w:=by
 obtain⟨w,ws',rfl,i1,r⟩:=i.inv
 exact⟨w,congrArg (w::·) r.inv,i1⟩
theorem IsVs.two {c:aa}{α:Al}{h:Heap}{v v':V}{ws:List Value}(i:IsVs c α h [v,v'] ws):∃w w',ws=[w,w']∧IsV c α h v w∧IsV c α h v' w':=by
 obtain⟨w,ws',rfl,i1,r⟩:=i.inv
 obtain⟨w',rfl,i2⟩:=r.one
 exact⟨w,w',rfl,i1,i2⟩
theorem Le.isVs {c c':aa}{α α':Al}{h h':Heap}(x:Le c α h c' α' h'){vs:List V}{ws:List Value}(i:IsVs c α h vs ws):IsVs c' α' h' vs ws:=
 IsVs.rec (motive:=fun vs ws _=>IsVs c' α' h' vs ws) .nil (fun a _ m=>.cons (x.isV a) m) i
theorem Le.isO {c c':aa}{α α':Al}{h h':Heap}(x:Le c α h c' α' h'){a:Addr}{o:O}(e:∀q,h.get? a=some q→h'.get? a=some q)(i:IsO c α h a o):IsO c' α' h' a o:=by
 cases o with
 |list xs=>obtain⟨ws,ep,g,d⟩:=i;exact⟨ws,ep,e _ g,x.isDs d⟩
 |ns fs=>
  obtain⟨q,es,ep,g,hd,sk,sz,f⟩:=i
  refine⟨q,es,ep,e _ g,hd,sk,sz,fun y=>?_⟩
  have:=f y
  cases hl:look fs y with
  |none=>rw[hl] at this;exact this
  |some v=>rw[hl] at this;obtain⟨w,h1,h2⟩:=this;exact⟨w,h1,x.isV h2⟩
 |inst C dk=>refine⟨?_,x.dom _ i.2⟩;rw[x.agree dk i.2];exact e _ i.1
 |bound id k=>refine⟨?_,x.dom _ i.2⟩;rw[x.agree k i.2];exact e _ i.1
structure Cst (hb:Heap)(pr:List Nat)(c:aa)(α:Al)(h:Heap):Prop where
 base:∀b o,hb.get? b=some o→h.get? b=some o
 cell:∀k o,ae c k=some o→IsO c α h (α k) o
 fresh:∀k∈dom c,hb.get? (α k)=none
 inj:∀k∈dom c,∀j∈dom c,α k=α j→k=j
 prs:∀k∈pr,k∈dom c
theorem IsO.ex {c:aa}{α:Al}{h:Heap}{a:Addr}{o:O}(i:IsO c α h a o):∃q,h.get? a=some q:=by
 cases o with
 |list xs=>obtain⟨ws,ep,g,d⟩:=i;exact⟨_,g⟩
 |ns fs=>obtain⟨q,es,ep,g,r⟩:=i;exact⟨_,g⟩
 |inst C dk=>exact⟨_,i.1⟩
 |bound id k=>exact⟨_,i.1⟩
theorem Cst.ex {hb h:Heap}{pr:List Nat}{c:aa}{α:Al}(C:Cst hb pr c α h){k:Nat}(hk:k∈dom c):∃q,h.get? (α k)=some q:=by
 obtain⟨o,ho⟩:=rA hk
 exact (C.cell k o ho).ex
theorem Cst.base_not_own {hb h:Heap}{pr:List Nat}{c:aa}{α:Al}(C:Cst hb pr c α h){b:Addr}{o:Obj}(e:hb.get? b=some o):¬ay c α b:=by
 rintro⟨k,hk,rfl⟩
 rw[C.fresh k hk] at e;contradiction
theorem Cst.keeps {hb h h':Heap}{pr:List Nat}{c:aa}{α:Al}(C:Cst hb pr c α h)(k:∀b o,h.get? b=some o→h'.get? b=some o):Cst hb pr c α h'∧Le c α h c α h':=by
 have L:Le c α h c α h':=⟨fun _ x=>x,fun _ _=>rfl,fun b o e _=>k b o e,fun j hj=>.inl ⟨j,hj,rfl⟩⟩
 exact⟨⟨fun b o e=>k _ _ (C.base b o e),fun j o e=>L.isO (fun q=>k _ q) (C.cell j o e),C.fresh,C.inj,C.prs⟩,L⟩
noncomputable def upd (α:Al)(k:Nat)(a:Addr):Al:=fun j=>if j=k then a else α j
theorem aD {c:aa}{k:Nat}{o:O}(hk:k∉dom c)(j:Nat):ae (c++[(k,o)]) j=if j=k then some o else ae c j:=by
 induction c with
 |nil=>
  show (if k=j then some o else none)=_
  by_cases e:k=j
  ·rw[if_pos e,if_pos e.symm]
  ·rw[if_neg e,if_neg (fun q=>e q.symm)];rfl
 |cons p r ih=>
  obtain⟨i,u⟩:=p
  have h1:k≠i:=fun e=>hk (e▸.head _)
  have h2:k∉dom r:=fun e=>hk (.tail _ e)
  show (if i=j then some u else ae (r++[(k,o)]) j)=if j=k then some o else if i=j then some u else ae r j
  rw[ih h2]
  by_cases e:i=j
  ·rw[if_pos e,if_pos e,if_neg (fun q=>h1 (q.symm.trans e.symm))]
  ·rw[if_neg e,if_neg e]
theorem af (c:aa)(k:Nat)(o:O):dom (c++[(k,o)])=dom c++[k]:=by simp[dom]
theorem Cst.new {hb h:Heap}{pr:List Nat}{c:aa}{α:Al}(C:Cst hb pr c α h){k:Nat}(hk:k∉dom c)(q:Obj){o:O}
  (hq:Le c α h (c++[(k,o)]) (upd α k h.objs.size) (h.push q)→IsO (c++[(k,o)]) (upd α k h.objs.size) (h.push q) h.objs.size o) :
  Cst hb pr (c++[(k,o)]) (upd α k h.objs.size) (h.push q)∧Le c α h (c++[(k,o)]) (upd α k h.objs.size) (h.push q):=by
 have hn:h.get? h.objs.size=none:=by
  cases e:h.get? h.objs.size with
  |none=>rfl
  |some o'=>exact absurd (Heap.lt_size e) (Nat.lt_irrefl _)
 have ag:∀j∈dom c,upd α k h.objs.size j=α j:=fun j hj=>by
  show (if j=k then _ else _)=_
  rw[if_neg (fun (e:j=k)=>hk (e▸hj))]
 have ak:upd α k h.objs.size k=h.objs.size:=if_pos rfl
 have L:Le c α h (c++[(k,o)]) (upd α k h.objs.size) (h.push q):=by
  refine⟨fun j hj=>by rw[af];exact List.mem_append_left _ hj,ag,fun b o e _=>Xz _ e,fun j hj=>?_⟩
  rw[af] at hj
  rcases Qu.mp hj with hj|hj
  ·rw[ag j hj];exact .inl ⟨j,hj,rfl⟩
  ·have:j=k:=by simpa using hj
   rw[this,ak];exact .inr hn
 refine⟨⟨fun b o e=>Xz _ (C.base b o e),fun j u e=>?_,fun j hj=>?_,fun i hi j hj e=>?_,fun j hj=>L.dom j (C.prs j hj)⟩,L⟩
 ·rw[aD hk] at e
  by_cases hj:j=k
  ·rw[if_pos hj] at e;(injection e with e;subst e);rw[hj,ak];exact hq L
  ·rw[if_neg hj] at e
   rw[ag j (ah e)]
   exact L.isO (fun q e=>Xz _ e) (C.cell j u e)
 ·rw[af] at hj
  rcases Qu.mp hj with hj|hj
  ·rw[ag j hj];exact C.fresh j hj
  ·have:j=k:=by simpa using hj
   rw[this,ak]
   cases e:hb.get? h.objs.size with
   |none=>rfl
   |some o'=>rw[C.base _ _ e] at hn;contradiction
 ·rw[af] at hi hj
  have lt:∀j∈dom c,α j<h.objs.size:=fun j hj=>by obtain⟨q,e⟩:=C.ex hj;exact Heap.lt_size e
  rcases Qu.mp hi with hi|hi<;>rcases Qu.mp hj with hj|hj
  ·rw[ag i hi,ag j hj] at e;exact C.inj i hi j hj e
  ·have:j=k:=by simpa using hj
   rw[this,ak,ag i hi] at e
   exact absurd (lt i hi) (by rw[e];exact Nat.lt_irrefl _)
  ·have:i=k:=by simpa using hi
   rw[this,ak,ag j hj] at e
   exact absurd (lt j hj) (by rw[←e];exact Nat.lt_irrefl _)
  ·have h1:i=k:=by simpa using hi
   have h2:j=k:=by simpa using hj
   rw[h1,h2]
theorem Cst.set {hb h h':Heap}{pr:List Nat}{c:aa}{α:Al}(C:Cst hb pr c α h){k:Nat}(hk:k∈dom c){o:O}(hs:Heap.SameBut (α k) h h')
  (hq:Le c α h (cset c k o) α h'→IsO (cset c k o) α h' (α k) o):Cst hb pr (cset c k o) α h'∧Le c α h (cset c k o) α h':=by
 have L:Le c α h (cset c k o) α h':=by
  refine⟨fun j hj=>by rw[ai];exact hj,fun _ _=>rfl,fun b q e n=>?_,fun j hj=>.inl ⟨j,by rw[ai] at hj;exact hj,rfl⟩⟩
  rw[hs.2 b (fun e=>n ⟨k,hk,e.symm⟩)];exact e
 refine⟨⟨fun b q e=>L.kept _ _ (C.base b q e) (C.base_not_own e),fun j u e=>?_,fun j hj=>C.fresh j (by rw[ai] at hj;exact hj),
  fun i hi j hj=>C.inj i (by rw[ai] at hi;exact hi) j (by rw[ai] at hj;exact hj),fun j hj=>by rw[ai];exact C.prs j hj⟩,L⟩
 rw[av hk] at e
 by_cases hj:j=k
 ·rw[if_pos hj] at e;(injection e with e;subst e);rw[hj];exact hq L
 ·rw[if_neg hj] at e
  refine L.isO (fun q g=>?_) (C.cell j u e)
  rw[hs.2 _ (fun e'=>hj (C.inj j (ah e) k hk e'))];exact g
inductive Held (h:Heap)(env:Env)(x:Str)(w:Value):Prop
 |loc (m:Str→Option Value):env.kindOf x=some .local→h.Ns env.locals m→m x=some w→Held h env x w
 |cel (b:Addr) (o:Obj):env.kindOf x=some .cell→env.cells.lookup x=some b→h.get? b=some o→o.data=.cell (some w)→Held h env x w
 |free (b:Addr) (o:Obj):env.kindOf x=some .free→env.cells.lookup x=some b→h.get? b=some o→o.data=.cell (some w)→Held h env x w
def FrA (env:Env)(b:Addr):Prop:=b=env.locals∨∃x,env.cells.lookup x=some b
structure EnvOk (env:Env):Prop where
 kind:env.scope.kind=.function
 apart:∀x b,env.cells.lookup x=some b→b≠env.locals
 one:∀x y b,env.cells.lookup x=some b→env.cells.lookup y=some b→x=y
 inter:interactive env=false
structure Fst (hb:Heap)(pr:List Nat)(env:Env)(l:Loc)(c:aa)(α:Al)(h:Heap):Prop extends Cst hb pr c α h where
 ns:∃m,h.Ns env.locals m
 cel:∀x b,env.cells.lookup x=some b→∃o v,h.get? b=some o∧o.data=.cell v
 loc:∀x v,look l x=some v→∃w,Held h env x w∧IsV c α h v w
 fr:∀b,FrA env b→hb.get? b=none∧¬ay c α b
theorem Held.le {h h':Heap}{env:Env}{x:Str}{w:Value}(H:Held h env x w)(k:∀b o,FrA env b→h.get? b=some o→h'.get? b=some o):Held h' env x w:=by
 cases H with
 |loc m a b e=>exact .loc m a (let ⟨o,es,ep,ho,r⟩:=b;⟨o,es,ep,k _ _ (.inl rfl) ho,r⟩) e
 |cel b o a e g d=>exact .cel b o a e (k _ _ (.inr ⟨x,e⟩) g) d
 |free b o a e g d=>exact .free b o a e (k _ _ (.inr ⟨x,e⟩) g) d
theorem Fst.le {hb h h':Heap}{pr:List Nat}{env:Env}{l:Loc}{c c':aa}{α α':Al}(F:Fst hb pr env l c α h)(L:Le c α h c' α' h')(C:Cst hb pr c' α' h'):Fst hb pr env l c' α' h':=by
 have k:∀b o,FrA env b→h.get? b=some o→h'.get? b=some o:=fun b o f e=>L.kept b o e (F.fr b f).2
 have ex:∀b,FrA env b→∃o,h.get? b=some o:=by
  rintro b (rfl|⟨x,e⟩)
  ·obtain⟨m,o,es,ep,ho,r⟩:=F.ns;exact⟨o,ho⟩
  ·obtain⟨o,v,g,d⟩:=F.cel x b e;exact⟨o,g⟩
 refine⟨C,?_,fun x b e=>?_,fun x v e=>?_,fun b f=>?_⟩
 ·obtain⟨m,o,es,ep,ho,r⟩:=F.ns;exact⟨m,o,es,ep,k _ _ (.inl rfl) ho,r⟩
 ·obtain⟨o,v,g,d⟩:=F.cel x b e;exact⟨o,v,k _ _ (.inr ⟨x,e⟩) g,d⟩
 ·obtain⟨w,H,i⟩:=F.loc x v e;exact⟨w,H.le k,L.isV i⟩
 ·obtain⟨o,e⟩:=ex b f
  exact⟨(F.fr b f).1,L.not_own e (F.fr b f).2⟩
theorem Fst.keeps {hb h h':Heap}{pr:List Nat}{env:Env}{l:Loc}{c:aa}{α:Al}(F:Fst hb pr env l c α h)(k:∀b o,h.get? b=some o→h'.get? b=some o) :
  Fst hb pr env l c α h'∧Le c α h c α h':=by
 obtain⟨C,L⟩:=F.toCst.keeps k
 exact⟨F.le L C,L⟩
theorem Fst.push {hb h:Heap}{pr:List Nat}{env:Env}{l:Loc}{c:aa}{α:Al}(F:Fst hb pr env l c α h)(q:Obj) :
  Fst hb pr env l c α (h.push q)∧Le c α h c α (h.push q):=F.keeps fun _ _ e=>Xz _ e
theorem Fst.new {hb h:Heap}{pr:List Nat}{env:Env}{l:Loc}{c:aa}{α:Al}(F:Fst hb pr env l c α h){k:Nat}(hk:k∉dom c)(q:Obj){o:O}
  (hq:Le c α h (c++[(k,o)]) (upd α k h.objs.size) (h.push q)→IsO (c++[(k,o)]) (upd α k h.objs.size) (h.push q) h.objs.size o) :
  Fst hb pr env l (c++[(k,o)]) (upd α k h.objs.size) (h.push q)∧Le c α h (c++[(k,o)]) (upd α k h.objs.size) (h.push q):=by
 obtain⟨C,L⟩:=F.toCst.new hk q hq
 exact⟨F.le L C,L⟩
theorem Fst.set {hb h h':Heap}{pr:List Nat}{env:Env}{l:Loc}{c:aa}{α:Al}(F:Fst hb pr env l c α h){k:Nat}(hk:k∈dom c){o:O}(hs:Heap.SameBut (α k) h h')
  (hq:Le c α h (cset c k o) α h'→IsO (cset c k o) α h' (α k) o):Fst hb pr env l (cset c k o) α h'∧Le c α h (cset c k o) α h':=by
 obtain⟨C,L⟩:=F.toCst.set hk hs hq
 exact⟨F.le L C,L⟩
theorem be {hb h:Heap}{pr:List Nat}{c:aa}{α:Al}(C:Cst hb pr c α h):¬ay c α h.objs.size:=by
 rintro⟨k,hk,e⟩
 obtain⟨q,g⟩:=C.ex hk
 rw[e] at g
 exact absurd (Heap.lt_size g) (Nat.lt_irrefl _)
abbrev no:Value→Shared→Prop:=fun _ _=>False
section
variable (M:Model)(A:Around)(hb:Heap)(pr:List Nat)(env:Env)
def OkE {β γ:Type}(I:aa→Al→Heap→β→γ→Prop)(l:Loc)(c:aa)(t:Sem γ)(K:β→aa→Prop):Prop:=
 ∀(α:Al) (s:Shared) (Q:γ→Shared→Prop),1≤s.toks→Fst hb pr env l c α s.heap→
  (∀b c' α' g h' tk,1≤tk→K b c'→Fst hb pr env l c' α' h'→Le c α s.heap c' α' h'→I c' α' h' b g→Q g {s with heap:=h',toks:=tk})→wpAny M A t Q no s
inductive F where
 |next|brk|cont
 |ret (v:V)
def IsF (c:aa)(α:Al)(h:Heap):F→Flow→Prop
 | .next,g=>g=.next
 | .brk,g=>g=.brk
 | .cont,g=>g=.cont
 | .ret v,g=>∃w,g=.ret w∧IsV c α h v w
structure LeS (c:aa)(α:Al)(h:Heap)(c':aa)(α':Al)(h':Heap):Prop where
 agree:∀k∈pr,α' k=α k
 kept:∀b o,h.get? b=some o→¬FrA env b→¬ay c α b→h'.get? b=some o
 grow:∀k∈dom c',ay c α (α' k)∨h.get? (α' k)=none
structure Sg where
 l:Loc
 c:aa
def OkS (σ:Sg)(t:Sem Flow)(K:F→Sg→Prop):Prop:=
 ∀(α:Al) (s:Shared) (Q:Flow→Shared→Prop),1≤s.toks→Fst hb pr env σ.l σ.c α s.heap→
  (∀f τ α' g h' tk,1≤tk→K f τ→Fst hb pr env τ.l τ.c α' h'→LeS pr env σ.c α s.heap τ.c α' h'→IsF τ.c α' h' f g→Q g {s with heap:=h',toks:=tk})→wpAny M A t Q no s
end
section
variable {M:Model}{A:Around}{hb:Heap}{pr:List Nat}{env:Env}
theorem aq {γ:Type}{t:Sem γ}{Q:γ→Shared→Prop}{s:Shared}{E:Value→Shared→Prop}(hs:1≤s.toks)(h:wpAny M A t (fun g s'=>1≤s'.toks→Q g s') E s):wpAny M A t Q E s:=
 wpAny_with_toks hs (Jq h (fun _ _ x=>x) (fun _ _ x _=>x))
theorem OkE.mk {β γ:Type}{I:aa→Al→Heap→β→γ→Prop}{l:Loc}{c:aa}{t:Sem γ}{K:β→aa→Prop}
  (h:∀(α:Al) (s:Shared) (Q:γ→Shared→Prop),1≤s.toks→Fst hb pr env l c α s.heap→
   (∀b c' α' g h' tk,K b c'→Fst hb pr env l c' α' h'→Le c α s.heap c' α' h'→I c' α' h' b g→Q g {s with heap:=h',toks:=tk})→wpAny M A t Q no s):OkE M A hb pr env I l c t K:=
 fun α s Q hs F hq=>aq hs (h α s _ hs F fun b c' α' g h' tk k f le i ht=>hq b c' α' g h' tk ht k f le i)
theorem OkS.mk {σ:Sg}{t:Sem Flow}{K:F→Sg→Prop}
  (h:∀(α:Al) (s:Shared) (Q:Flow→Shared→Prop),1≤s.toks→Fst hb pr env σ.l σ.c α s.heap→
   (∀f τ α' g h' tk,K f τ→Fst hb pr env τ.l τ.c α' h'→LeS pr env σ.c α s.heap τ.c α' h'→IsF τ.c α' h' f g→Q g {s with heap:=h',toks:=tk})→wpAny M A t Q no s):OkS M A hb pr env σ t K:=
 fun α s Q hs F hq=>aq hs (h α s _ hs F fun b c' α' g h' tk k f le i ht=>hq b c' α' g h' tk ht k f le i)
end
theorem Le.leS {hb h h':Heap}{pr:List Nat}{env:Env}{c c':aa}{α α':Al}(L:Le c α h c' α' h')(C:Cst hb pr c α h):LeS pr env c α h c' α' h':=
 ⟨fun k hk=>L.agree k (C.prs k hk),fun b o e _ n=>L.kept b o e n,L.grow⟩
theorem LeS.refl (pr:List Nat)(env:Env)(c:aa)(α:Al)(h:Heap):LeS pr env c α h c α h:=⟨fun _ _=>rfl,fun _ _ e _ _=>e,fun k hk=>.inl ⟨k,hk,rfl⟩⟩
theorem LeS.trans {pr:List Nat}{env:Env}{c₁ c₂ c₃:aa}{α₁ α₂ α₃:Al}{h₁ h₂ h₃:Heap}(x:LeS pr env c₁ α₁ h₁ c₂ α₂ h₂)(y:LeS pr env c₂ α₂ h₂ c₃ α₃ h₃)
  (fr:∀b,FrA env b→¬ay c₃ α₃ b):LeS pr env c₁ α₁ h₁ c₃ α₃ h₃:=by
 have no:∀b o,h₁.get? b=some o→¬ay c₁ α₁ b→¬ay c₂ α₂ b:=by
  rintro b o e n ⟨k,hk,rfl⟩
  rcases x.grow k hk with q|q
  ·exact n q
  ·rw[q] at e;contradiction
 refine⟨fun k hk=>(y.agree k hk).trans (x.agree k hk),fun b o e f n=>y.kept b o (x.kept b o e f n) f (no b o e n),fun k hk=>?_⟩
 rcases y.grow k hk with ⟨j,hj,e⟩|q
 ·rw[←e];exact x.grow j hj
 ·by_cases n:ay c₁ α₁ (α₃ k)
  ·exact .inl n
  ·refine .inr ?_
   cases e:h₁.get? (α₃ k) with
   |none=>rfl
   |some o=>
    by_cases f:FrA env (α₃ k)
    ·exact absurd ⟨k,hk,rfl⟩ (fr _ f)
    ·rw[x.kept _ _ e f n] at q;contradiction
section
variable {prog:Program}{w:World}{A:Around}{hb:Heap}{pr:List Nat}{env:Env}{l:Loc}{c:aa}
theorem u3 (EO:EnvOk env){α:Al}{s:Shared}{x:Str}{v:V}(F:Fst hb pr env l c α s.heap)(hx:look l x=some v)(hn:(x==("__classdict__":Str))=false)
  {Q:Value→Shared→Prop} (hq:∀g,IsV c α s.heap v g→Q g s):wpAny (model prog w) A (loadName env x) Q no s:=by
 obtain⟨g,H,i⟩:=F.loc x v hx
 cases H with
 |loc m a b e=>exact wpAny_loadName_local EO.kind a b e (hq g i)
 |cel b o a e q d=>exact wpAny_loadName_cell EO.kind a e ⟨o,q,d⟩ (hq g i)
 |free b o a e q d=>exact wpAny_loadName_free EO.kind a e ⟨o,q,d⟩ (hq g i) hn
theorem aN {α:Al}{h:Heap}(F:Fst hb pr env l c α h){b:Addr}(hf:FrA env b):∀o,cv o=true→h.get? b≠some o:=by
 intro o hz e
 rcases hf with rfl|⟨x,q⟩
 ·obtain⟨m,o',es,ep',ho,hd,r⟩:=F.ns
  rw[ho] at e;cases e;unfold cv at hz;rw[hd] at hz;cases hz
 ·obtain⟨o',v,ho,hd⟩:=F.cel x b q
  rw[ho] at e;cases e;unfold cv at hz;rw[hd] at hz;cases hz
section
variable {α:Al}{h h':Heap}{b:Addr}(ns:∀o,cv o=true→h.get? b≠some o)(ks:∀a o,a≠b→h.get? a=some o→h'.get? a=some o)
include ns ks
theorem f5 {d:D}{g:Value}(i:IsD h (ay c α) d g):IsD h' (ay c α) d g:=
 i.step (fun a o hz e n=>ks a o (fun q=>ns o hz (q▸e)) e) (fun _ e=>.inl e)
theorem qu {d:List D}{g:List Value}(i:IsDs h (ay c α) d g):IsDs h' (ay c α) d g:=
 i.step (fun a o hz e n=>ks a o (fun q=>ns o hz (q▸e)) e) (fun _ e=>.inl e)
theorem fX {v:V}{g:Value}(i:IsV c α h v g):IsV c α h' v g:=by
 cases v with
 |d x=>exact f5 ns ks i
 |obj k=>exact i
 |val u=>exact i
 |rng p q=>obtain⟨r,t,u,v,e,g,n⟩:=i;exact⟨r,t,u,v,e,ks r _ (fun q=>ns _ rfl (q▸g)) g,n⟩
 |bi b=>exact i
 |mt e=>obtain⟨r,e,m⟩:=i;exact⟨r,e,m.step (fun a o hz e n=>ks a o (fun q=>ns o hz (q▸e)) e) (fun _ e=>.inl e)⟩
theorem nx (C:Cst hb pr c α h)(no:¬ay c α b)(nb:hb.get? b=none):Cst hb pr c α h':=by
 have hne:∀k∈dom c,α k≠b:=fun k hk e=>no ⟨k,hk,e⟩
 refine⟨fun a o e=>ks a o (fun q=>by rw[q,nb] at e;contradiction) (C.base a o e),fun k o e=>?_,C.fresh,C.inj,C.prs⟩
 have i:=C.cell k o e
 have g:∀q,h.get? (α k)=some q→h'.get? (α k)=some q:=fun q e'=>ks _ _ (hne k (ah e)) e'
 cases o with
 |list xs=>obtain⟨ws,ep,g',d⟩:=i;exact⟨ws,ep,g _ g',qu ns ks d⟩
 |ns fs=>
  obtain⟨q,es,ep,g',hd,sk,sz,f⟩:=i
  refine⟨q,es,ep,g _ g',hd,sk,sz,fun y=>?_⟩
  have:=f y
  cases hl:look fs y with
  |none=>rw[hl] at this;exact this
  |some v=>rw[hl] at this;obtain⟨w,h1,h2⟩:=this;exact⟨w,h1,fX ns ks h2⟩
 |inst C dk=>exact⟨g _ i.1,i.2⟩
 |bound id k=>exact⟨g _ i.1,i.2⟩
theorem Fst.but (F:Fst hb pr env l c α h)(no:¬ay c α b)(nf:¬FrA env b)(nb:hb.get? b=none):Fst hb pr env l c α h':=by
 have k:∀a o,FrA env a→h.get? a=some o→h'.get? a=some o:=fun a o f e=>ks a o (fun q=>nf (q▸f)) e
 refine⟨nx ns ks F.toCst no nb,?_,fun x b e=>?_,fun x v e=>?_,F.fr⟩
 ·obtain⟨m,o,es,ep,ho,r⟩:=F.ns;exact⟨m,o,es,ep,k _ _ (.inl rfl) ho,r⟩
 ·obtain⟨o,v,g,d⟩:=F.cel x b e;exact⟨o,v,k _ _ (.inr ⟨x,e⟩) g,d⟩
 ·obtain⟨w,H,i⟩:=F.loc x v e;exact⟨w,H.le k,fX ns ks i⟩
end
theorem bc {h h':Heap}{b:Addr}(hs:Heap.SameBut b h h'):∀a o,a≠b→h.get? a=some o→h'.get? a=some o:=fun a o n e=>by rw[hs.2 a n];exact e
theorem dW {α:Al}{h h':Heap}(F:Fst hb pr env l c α h){b:Addr}(hf:FrA env b)(hs:Heap.SameBut b h h'){v:V}{g:Value}(i:IsV c α h v g):IsV c α h' v g:=
 fX (aN F hf) (bc hs) i
theorem iz {α:Al}{h h':Heap}(F:Fst hb pr env l c α h){b:Addr}(hf:FrA env b)(hs:Heap.SameBut b h h'):Cst hb pr c α h':=
 nx (aN F hf) (bc hs) F.toCst (F.fr b hf).2 (F.fr b hf).1
theorem iA {α:Al}{h h':Heap}{b:Addr}(hf:FrA env b)(hs:Heap.SameBut b h h'):LeS pr env c α h c α h':=
 ⟨fun _ _=>rfl,fun a o e nf _=>by rw[hs.2 a (fun q=>nf (q▸hf))];exact e,fun k hk=>.inl ⟨k,hk,rfl⟩⟩
theorem bZ (EO:EnvOk env){α:Al}{s:Shared}{x:Str}{v:V}{g:Value}(F:Fst hb pr env l c α s.heap)(hx:env.kindOf x=some .local)(i:IsV c α s.heap v g)
  {Q:Unit→Shared→Prop} (hq:∀h' tk,Fst hb pr env (put l x v) c α h'→Heap.SameBut env.locals s.heap h'→Q () {s with heap:=h',toks:=tk}):wpAny (model prog w) A (storeName env x g) Q no s:=by
 obtain⟨m,hm⟩:=F.ns
 have hf:FrA env env.locals:=.inl rfl
 refine wpAny_storeName_local hx hm (fun h' hn hs=>hq h' _ ?_ hs) (by rw[EO.kind];rfl)
 refine⟨iz F hf hs,⟨_,hn⟩,fun y b e=>?_,fun y u e=>?_,F.fr⟩
 ·obtain⟨o,v,ho,hd⟩:=F.cel y b e
  exact⟨o,v,by rw[hs.2 b (EO.apart y b e)];exact ho,hd⟩
 ·rw[am] at e
  by_cases hy:y=x
  ·rw[if_pos hy] at e;(injection e with e;subst e)
   exact⟨g,.loc _ (hy▸hx) hn (by simp only[if_pos hy]),dW F hf hs i⟩
  ·rw[if_neg hy] at e
   obtain⟨g',H,i'⟩:=F.loc y u e
   refine⟨g',?_,dW F hf hs i'⟩
   cases H with
   |loc m' a b' e'=>
    refine .loc _ a hn ?_
    have:m' y=m y:=by
     obtain⟨o,es,ep,ho,hd,hk,hm1⟩:=b'
     obtain⟨o2,es2,ep2,ho2,hd2,hk2,hm2⟩:=hm
     rw[ho] at ho2;(injection ho2 with ho2;subst ho2);rw[hd] at hd2;(injection hd2 with hd2;subst hd2)
     rw[←hm1,←hm2]
    simp only[if_neg hy];rw[←this];exact e'
   |cel b o a e' q d=>exact .cel b o a e' (by rw[hs.2 b (EO.apart y b e')];exact q) d
   |free b o a e' q d=>exact .free b o a e' (by rw[hs.2 b (EO.apart y b e')];exact q) d
theorem lC (EO:EnvOk env){α:Al}{s:Shared}{x:Str}{v:V}{g:Value}(F:Fst hb pr env l c α s.heap)
  (hx:env.kindOf x=some .local∨(env.kindOf x=some .cell∧∃b,env.cells.lookup x=some b)) (i:IsV c α s.heap v g)
  {Q:Unit→Shared→Prop} (hq:∀h' tk,Fst hb pr env (put l x v) c α h'→LeS pr env c α s.heap c α h'→Q () {s with heap:=h',toks:=tk}):wpAny (model prog w) A (storeName env x g) Q no s:=by
 rcases hx with hx|⟨hx,b,hb'⟩
 ·exact bZ EO F hx i fun h' tk F' hs=>hq h' tk F' (iA (.inl rfl) hs)
 ·obtain⟨o,v0,ho,hd⟩:=F.cel x b hb'
  have hf:FrA env b:=.inr ⟨x,hb'⟩
  refine wpAny_storeName_cell EO.kind hx hb' ⟨o,ho,hd⟩ (fun h' hc hs=>hq h' s.toks ?_ (iA hf hs))
  obtain⟨o',ho',hd'⟩:=hc
  have hbl:env.locals≠b:=fun e=>EO.apart x b hb' e.symm
  refine⟨iz F hf hs,?_,fun y b' e=>?_,fun y u e=>?_,F.fr⟩
  ·obtain⟨m,o,es,ep,ho,r⟩:=F.ns;exact⟨m,o,es,ep,by rw[hs.2 _ hbl];exact ho,r⟩
  ·by_cases hbb:b'=b
   ·subst hbb;exact⟨o',_,ho',hd'⟩
   ·obtain⟨o,v,ho,hd⟩:=F.cel y b' e
    exact⟨o,v,by rw[hs.2 b' hbb];exact ho,hd⟩
  ·rw[am] at e
   by_cases hy:y=x
   ·rw[if_pos hy] at e;(injection e with e;subst e)
    subst hy
    exact⟨g,.cel b o' hx hb' ho' hd',dW F hf hs i⟩
   ·rw[if_neg hy] at e
    obtain⟨g',H,i'⟩:=F.loc y u e
    refine⟨g',?_,dW F hf hs i'⟩
    cases H with
    |loc m' a b' e'=>exact .loc m' a (b'.sameBut hs hbl) e'
    |cel b' o a e' q d=>exact .cel b' o a e' (by rw[hs.2 b' (fun (e:b'=b)=>hy (EO.one y x b (e▸e') hb'))];exact q) d
    |free b' o a e' q d=>exact .free b' o a e' (by rw[hs.2 b' (fun (e:b'=b)=>hy (EO.one y x b (e▸e') hb'))];exact q) d
end
mutual
noncomputable def D.py:D→PyData
 | .none=>.none
 | .bool b=>.bool b
 | .int i=>.int i
 | .str x=>.str x
 | .tup xs=>.tuple (pys xs)
 | .lst xs=>.list (pys xs)
noncomputable def pys:List D→List PyData
 | []=>[]
 |x::xs=>x.py::pys xs
end
theorem nB {h:Heap}:∃as,ReadsAll h [] (pys []) as:=⟨_,.nil⟩
theorem lq {h:Heap}{x:D}{w:Value}{xs:List D}{ws:List Value}:(∃as,Reads h w x.py as)→(∃as,ReadsAll h ws (pys xs) as)→∃as,ReadsAll h (w::ws) (pys (x::xs)) as
 |⟨_,p⟩,⟨_,q⟩=>⟨_,.cons p q⟩
theorem mm {h:Heap}{T:String}{a:Addr}{ep:Nat}{xs:List D}{ws:List Value}(b:Bool)(hT:T=if b then "tuple" else "list") (g:h.get? a=some (bq T ws ep)):(∃as,ReadsAll h ws (pys xs) as)→∃as,Reads h (.ref a) (if b then D.tup xs else .lst xs).py as
 |⟨_,q⟩=>by
  have q:ReadsAll h ws.toArray.toList (pys xs) _:=q
  subst hT
  cases b
  ·exact⟨_,.list g rfl rfl q⟩
  ·exact⟨_,.tuple g rfl rfl q⟩
theorem IsD.reads {h:Heap}{own:Addr→Prop}{x:D}{w:Value}(i:IsD h own x w):∃as,Reads h w x.py as:=
 IsD.rec (motive_1:=fun x w _=>∃as,Reads h w x.py as) (motive_2:=fun xs ws _=>∃as,ReadsAll h ws (pys xs) as) ⟨_,.none⟩ (fun b=>⟨_,.bool b⟩) (fun i t=>⟨_,.int i t⟩) (fun x t=>⟨_,.str x t⟩)
  (fun g _ _ r=>mm true rfl g r) (fun g _ _ r=>mm false rfl g r) nB (fun _ _=>lq) i
theorem IsDs.reads {h:Heap}{own:Addr→Prop}{xs:List D}{ws:List Value}(i:IsDs h own xs ws):∃as,ReadsAll h ws (pys xs) as:=
 i.ind (M:=fun xs ws=>∃as,ReadsAll h ws (pys xs) as) nB fun a _=>lq a.reads
theorem yG {o:Option O}{d:D}:(match o with|some (.list xs)=>some (.lst xs)|_=>none)=some d→∃xs,o=some (.list xs)∧D.lst xs=d:=by
 cases o with
 |none=>nofun
 |some o=>cases o with
  |list xs=>exact fun e=>⟨xs,rfl,Option.some.inj e⟩
  |_=>nofun
noncomputable def rd (c:aa):V→Option D
 | .d x=>some x
 | .obj k=>match ae c k with|some (.list xs)=>some (.lst xs)|_=>none
 |_=>none
theorem vy {hb h:Heap}{pr:List Nat}{c:aa}{α:Al}(C:Cst hb pr c α h){v:V}{d:D}{g:Value}(e:rd c v=some d)(i:IsV c α h v g):∃as,Reads h g d.py as:=by
 cases v with
 |d x=>exact Option.some.inj e▸IsD.reads i
 |obj k=>
  obtain⟨xs,hk,rfl⟩:=yG e
  obtain⟨ws,ep,g',r⟩:=C.cell k _ hk
  rw[i.1]
  exact mm false rfl g' r.reads
 |_=>contradiction
theorem xX {o:Option O}{d:Bool×List D}:(match o with|some (.list xs)=>some (false,xs)|_=>none)=some d→∃xs,o=some (.list xs)∧(false,xs)=d:=by
 cases o with
 |none=>nofun
 |some o=>cases o with
  |list xs=>exact fun e=>⟨xs,rfl,Option.some.inj e⟩
  |_=>nofun
noncomputable def b8 (c:aa):V→Option (Bool×List D)
 | .d (.lst xs)=>some (false,xs)
 | .d (.tup xs)=>some (true,xs)
 | .obj k=>match ae c k with|some (.list xs)=>some (false,xs)|_=>none
 |_=>none
theorem dh {hb h:Heap}{pr:List Nat}{c:aa}{α:Al}(C:Cst hb pr c α h){v:V}{b:Bool}{xs:List D}{g:Value}(e:b8 c v=some (b,xs))(i:IsV c α h v g) :
  ∃a ws ep,g=.ref a∧h.get? a=some (bq (if b then "tuple" else "list") ws ep)∧IsDs h (ay c α) xs ws:=by
 cases v with
 |d x=>
  cases x with
  |lst ys=>injection e with e;injection e with e1 e2;subst e1 e2;obtain⟨ws,a,ep,e,g,_,r⟩:=IsD.inv i;exact⟨a,ws,ep,e,g,r⟩
  |tup ys=>injection e with e;injection e with e1 e2;subst e1 e2;obtain⟨ws,a,ep,e,g,_,r⟩:=IsD.inv i;exact⟨a,ws,ep,e,g,r⟩
  |_=>contradiction
 |obj k=>
  obtain⟨ys,hk,e⟩:=xX e
  injection e with e1 e2;subst e1 e2
  obtain⟨ws,ep,g',r⟩:=C.cell k _ hk
  exact⟨_,ws,ep,i.1,g',r⟩
 |_=>contradiction
noncomputable def big:Nat:=1048576
def oG (c:aa)(v:V)(K:Bool→Prop):Prop:=aw (b8 c v) fun p=>p.2.length≤big∧K (!p.2.isEmpty)
def bR (c:aa)(v:V)(K:Bool→Prop):Prop:=
 match v with
 | .d x=>(match x with
  | .none=>K false
  | .bool b=>K b
  | .int i=>K (i != 0)
  | .str x=>x.length≤big∧K (x.length != 0)
  |x=>oG c (.d x) K)
 | .mt _=>K true
 |v=>oG c v K
theorem uy {n:Nat}(h:n≤big):(n:Int)<2 ^ 63:=by unfold big at h;omega
theorem aH {n:Nat}(h:n≤big):n≤sizeLine:=by
 rw[sizeLine_eq];unfold big at h;exact R1 h
section
variable {prog:Program}{w:World}{A:Around}{hb:Heap}{pr:List Nat}{env:Env}{l:Loc}{c:aa}{α:Al}{s:Shared}
theorem mh:typeLookup (.type "re.Match") "__bool__"=pure none:=by rw[typeLookup_type,builtinLookup_eq_fast];kernel_rfl
theorem ol:typeLookup (.type "re.Match") "__len__"=pure none:=by rw[typeLookup_type,builtinLookup_eq_fast];kernel_rfl
theorem jx {M:Model}{r:Addr}(hT:s.TypeIs (.ref r) "re.Match") {Q:Bool→Shared→Prop} {E:Value→Shared→Prop} (h:Q true s):wpAny M A (truthy (.ref r)) Q E s:=by
 unfold truthy callSpecial?
 refine Zb (Zb (wpAny_specialOf hT mh (Zp ?_)))
 exact Zb (wpAny_specialOf hT ol (Zp h))
theorem ff (C:Cst hb pr c α s.heap){v:V}{g:Value}{K:Bool→Prop}(h:oG c v K)(i:IsV c α s.heap v g){Q:Bool→Shared→Prop}(hq:∀b tk,K b→Q b {s with toks:=tk}) :
  wpAny (model prog w) A (truthy g) Q no s:=by
 obtain⟨⟨b,xs⟩,e,h⟩:=ax h
 obtain⟨a,ws,ep,rfl,g',r⟩:=dh C e i
 have hl:ws.length=xs.length:=r.length.symm
 have hem:(!ws.toArray.isEmpty)=!xs.isEmpty:=r.ind (M:=fun xs ws=>(!ws.toArray.isEmpty)=!xs.isEmpty) rfl fun _ _ _=>rfl
 have hs:(ws.toArray.size:Int)<2 ^ 63:=uy (Zk (Nat.le_of_eq hl) h.1)
 cases b with
 |true=>exact truthy_tuple ⟨_,g',rfl,_,rfl⟩ hs (hem▸hq _ _ h.2)
 |false=>exact wpAny_truthy_list ⟨_,g',rfl,_,rfl⟩ hs (hem▸hq _ _ h.2)
theorem ne0 (n:Nat):((n:Int) != 0)=(n != 0):=by cases n<;>rfl
theorem eP (C:Cst hb pr c α s.heap){v:V}{g:Value}{K:Bool→Prop}(h:bR c v K)(i:IsV c α s.heap v g){Q:Bool→Shared→Prop}(hq:∀b tk,K b→Q b {s with toks:=tk}) :
  wpAny (model prog w) A (truthy g) Q no s:=by
 cases v with
 |d x=>
  have i':=IsD.inv i
  cases x with
  |none=>obtain rfl:g=_:=i';exact truthy_none (hq _ s.toks h)
  |bool b=>obtain rfl:g=_:=i';exact wpAny_truthy_bool (hq _ s.toks h)
  |int n=>obtain⟨t,rfl⟩:=i';exact PySem.P.truthy_int (hq _ s.toks h)
  |str x=>obtain⟨t,rfl⟩:=i';exact PySem.P.truthy_str (Int.not_le.mpr (uy h.1)) (hq _ _ (ne0 _▸h.2))
  |tup xs=>exact ff (v:=.d (.tup xs)) (K:=K) C h i hq
  |lst xs=>exact ff (v:=.d (.lst xs)) (K:=K) C h i hq
 |mt e=>
  obtain⟨r,rfl,m⟩:=i
  obtain⟨fs,tup,j,ep,g1,_⟩:=m.ob
  exact jx ⟨_,g1,rfl⟩ (hq _ s.toks h)
 |obj k=>exact ff (v:=.obj k) (K:=K) C h i hq
 |_=>exact h.elim
noncomputable def kW (x:Str)(n:Nat):Str:=⟨(List.replicate n x.cps).foldl (·++·) #[]⟩
def ea (a b:V)(f:Int→Int→Prop):Prop:=fK a fun i=>fK b fun j=>f i j
theorem n8 {a b:V}{f:Int→Int→Prop}(h:ea a b f):∃i j,a=.d (.int i)∧b=.d (.int j)∧f i j:=by
 obtain⟨i,e,h⟩:=cj h
 obtain⟨j,e',h⟩:=cj h
 exact⟨i,j,e,e',h⟩
theorem cX {c:aa}{α:Al}{hp:Heap}{a b:V}{f:Int→Int→Prop}(h:ea a b f){x y:Value}(hx:IsV c α hp a x)(hy:IsV c α hp b y):∃i t j u,x=.int i t∧y=.int j u∧f i j:=by
 obtain⟨i,j,rfl,rfl,h⟩:=n8 h
 obtain⟨t,rfl⟩:=IsD.inv hx
 obtain⟨u,rfl⟩:=IsD.inv hy
 exact⟨i,t,j,u,rfl,rfl,h⟩
def yT (x y:D)(K:D→Prop):Prop:=match x with
 | .int i=>(match y with
  | .int j=>K (.int (i+j))
  |_=>False)
 | .str u=>(match y with
  | .str v=>u.length+v.length≤big∧K (.str (u++v))
  |_=>False)
 | .lst xs=>(match y with
  | .lst ys=>xs.length+ys.length≤big∧K (.lst (xs++ys))
  |_=>False)
 |_=>False
def dd (a b:V)(f:D→D→Prop):Prop:=onD a fun x=>onD b fun y=>f x y
theorem nV {a b:V}{f:D→D→Prop}(h:dd a b f):∃x y,a=.d x∧b=.d y∧f x y:=by
 obtain⟨x,e,h⟩:=cR h
 obtain⟨y,e',h⟩:=cR h
 exact⟨x,y,e,e',h⟩
def vA (x y:D)(K:D→Prop):Prop:=match x with
 | .str u=>(match y with
  | .int n=>(0<n∧n≤9)∧u.length=1∧K (.str (kW u n.toNat))
  |_=>False)
 |_=>False
def ip (c:aa)(op:Operator)(a b:V)(K:D→Prop):Prop:=
 match op with
 | .Add=>dd a b fun x y=>yT x y K
 | .Sub=>ea a b fun i j=>K (.int (i-j))
 | .Mod=>ea a b fun i j=>j≠0∧K (.int (i.fmod j))
 | .FloorDiv=>ea a b fun i j=>(0≤i∧i≤1048576∧0<j∧j≤1000)∧K (.int (i.fdiv j))
 | .Mult=>dd a b fun x y=>vA x y K
 |_=>False
section
variable {x y:Value}{K:D→Prop}{Q:Value→Shared→Prop}(hq:∀d g h' tk,K d→Fst hb pr env l c α h'→Le c α s.heap c α h'→IsD h' (ay c α) d g→Q g {s with heap:=h',toks:=tk})
include hq
theorem xx (F:Fst hb pr env l c α s.heap){a b:D}(h:yT a b K)(hx:IsD s.heap (ay c α) a x)(hy:IsD s.heap (ay c α) b y):wpAny (model prog w) A (binaryOp .Add x y) Q no s:=by
 cases a with
 |int i=>
  cases b with
  |int j=>obtain⟨_,rfl⟩:=hx.inv;obtain⟨_,rfl⟩:=hy.inv;exact PyProof.Rows.add_int (hq _ _ s.heap _ h F (Le.refl ..) (.int _ _))
  |_=>exact h.elim
 |str u=>
  cases b with
  |str v=>obtain⟨_,rfl⟩:=hx.inv;obtain⟨_,rfl⟩:=hy.inv;exact add_str (fun t' tk=>hq _ _ s.heap tk h.2 F (Le.refl ..) (.str _ _)) (aH h.1)
  |_=>exact h.elim
 |lst xs=>
  cases b with
  |lst ys=>
   obtain⟨vs,a1,e1,rfl,g1,n1,r1⟩:=hx.inv
   obtain⟨ws,a2,e2,rfl,g2,n2,r2⟩:=hy.inv
   have e:vs.toArray++ws.toArray=(vs++ws).toArray:=by simp
   refine concat_meets ⟨_,g1,rfl⟩ ⟨_,g2,rfl⟩ noFill_list_add seq_list_add PySem.F.slot_list_add PySem.F.entry_list_add (PySem.F.args_list_add_2 _ _) (list_addW a1 a2 vs.toArray ws.toArray e1 e2 none none #[] #[] ?_) ⟨g1,g2,?_⟩
   ·rw[Xq,Xq,←r1.length,←r2.length];exact aH h.1
   ·rw[e]
    obtain⟨F',L'⟩:=F.push (bq "list" (vs++ws) 0)
    refine hq _ _ _ s.toks h.2 F' L' (.lst (Xj _ rfl) (be F.toCst) ((L'.isDs r2).append (L'.isDs r1)))
  |_=>exact h.elim
 |_=>exact h.elim
theorem tK (F:Fst hb pr env l c α s.heap){a b:D}(h:vA a b K)(hx:IsD s.heap (ay c α) a x)(hy:IsD s.heap (ay c α) b y):wpAny (model prog w) A (binaryOp .Mult x y) Q no s:=by
 cases a with
 |str x'=>
  cases b with
  |int n=>
   obtain⟨_,rfl⟩:=hx.inv
   obtain⟨_,rfl⟩:=hy.inv
   obtain⟨⟨h1,h2⟩,hx1,h⟩:=h
   obtain⟨k,rfl⟩:∃k:Nat,n=((k+1:Nat):Int):=⟨(n-1).toNat,by exact R512 h1⟩
   have hk:k≤8:=R511 h2
   have hs:∀(m:Nat) (a:Array Nat),((List.replicate m x'.cps).foldl (·++·) a).size=a.size+m:=fun m=>by
    induction m with
    |zero=>exact fun a=>rfl
    |succ m ih=>intro a;show ((List.replicate m x'.cps).foldl (·++·) (a++x'.cps)).size=_;rw[ih,Array.size_append,show x'.cps.size=1 from hx1];exact R510
   refine PySem.P.mul_str ?_ (fun _ _=>?_) (fun _ _=>?_) ?_
   ·rw[Bool.or_eq_false_iff,decide_eq_false_iff_not,decide_eq_false_iff_not];omega
   ·rw[hx1,Int.not_lt];exact (Int.le_ediv_iff_mul_le (R509)).mpr (by omega)
   ·rw[hx1,PySem.Builtin.Str.tooLong,decide_eq_false_iff_not,sizeLine_eq];exact R508 h2
   rw[if_neg (R507)]
   by_cases q:k=0
   ·subst q
    have e:kW x' 1=x':=congrArg Str.mk (Array.empty_append (xs:=x'.cps))
    exact hq (.str x') _ s.heap _ (e▸h) F (Le.refl ..) (.str _ _)
   ·rw[if_neg (by rw[hx1];simp;exact R506 q)]
    refine⟨?_,hq (.str (kW x' (k+1))) _ s.heap _ h F (Le.refl ..) (.str _ _)⟩
    rw[show (Str.mk ((List.replicate ((k+1:Nat):Int).toNat x'.cps).foldl (·++·) #[])).length=0+(k+1) from hs _ _,sizeLine_eq];exact R505 h2
  |_=>exact h.elim
 |_=>exact h.elim
theorem tc (F:Fst hb pr env l c α s.heap){op:Operator}{a b:V}(h:ip c op a b K)(hx:IsV c α s.heap a x)(hy:IsV c α s.heap b y):wpAny (model prog w) A (binaryOp op x y) Q no s:=by
 cases op with
 |Add=>obtain⟨u,v,rfl,rfl,h⟩:=nV h;exact xx hq F h hx hy
 |Mult=>obtain⟨u,v,rfl,rfl,h⟩:=nV h;exact tK hq F h hx hy
 |Sub=>obtain⟨i,t,j,u,rfl,rfl,h⟩:=cX h hx hy;exact PyProof.Rows.sub_int (hq _ _ s.heap _ h F (Le.refl ..) (.int _ _))
 |Mod=>obtain⟨i,t,j,u,rfl,rfl,h⟩:=cX h hx hy;exact mod_int' h.1 (hq _ _ s.heap _ h.2 F (Le.refl ..) (.int _ _))
 |FloorDiv=>obtain⟨i,t,j,u,rfl,rfl,⟨h1,h2,h3,h4⟩,h⟩:=cX h hx hy;exact PyProof.Rows.floordiv_int (R504 h3) (hq _ _ s.heap _ h F (Le.refl ..) (.int _ _))
 |_=>exact h.elim
end
theorem xk (F:Fst hb pr env l c α s.heap){op:Operator}{a b:V}{K:D→Prop}(h:ip c op a b K){x y:Value}(hx:IsV c α s.heap a x)(hy:IsV c α s.heap b y)
  {Q:Value→Shared→Prop} (hq:∀d g h' tk,K d→Fst hb pr env l c α h'→Le c α s.heap c α h'→IsD h' (ay c α) d g→Q g {s with heap:=h',toks:=tk}):wpAny (model prog w) A (binaryOp op x y) Q no s:=tc hq F h hx hy
def eqG (c:aa)(a b:V)(K:Bool→Prop):Prop:=aw (rd c a) fun x=>aw (rd c b) fun y=>PySem.SeqAt.shaped x.py=true∧PySem.SeqAt.shaped y.py=true∧PySem.SeqAt.noMix x.py y.py=true∧K (PySem.Spec.same x.py y.py)
def eqD (c:aa)(x y:D)(K:Bool→Prop):Prop:=match x with
 | .int i=>(match y with
  | .int j=>K (i==j)
  |y=>eqG c (.d (.int i)) (.d y) K)
 | .str u=>(match y with
  | .str v=>K (u==v)
  |y=>eqG c (.d (.str u)) (.d y) K)
 | .bool p=>(match y with
  | .bool q=>K (p==q)
  |y=>eqG c (.d (.bool p)) (.d y) K)
 |x=>eqG c (.d x) (.d y) K
def eqK (c:aa)(a b:V)(K:Bool→Prop):Prop:=match a with
 | .d x=>(match b with
  | .d y=>eqD c x y K
  |b=>eqG c (.d x) b K)
 |a=>eqG c a b K
theorem xP {c:aa}{a b:V}{K:Bool→Prop}(h:eqK c a b K):(∃i j,a=.d (.int i)∧b=.d (.int j)∧K (i==j))∨(∃u v,a=.d (.str u)∧b=.d (.str v)∧K (u==v))∨(∃p q,a=.d (.bool p)∧b=.d (.bool q)∧K (p==q))∨eqG c a b K:=by
 refine aG fun G back=>?_
 have g:=fun q=>back (.inr (.inr (.inr q)))
 cases a with
 |d x=>
  cases b with
  |d y=>
   cases x with
   |int i=>cases y with
    |int j=>exact back (.inl ⟨i,j,rfl,rfl,h⟩)
    |_=>exact g h
   |str u=>cases y with
    |str v=>exact back (.inr (.inl ⟨u,v,rfl,rfl,h⟩))
    |_=>exact g h
   |bool p=>cases y with
    |bool q=>exact back (.inr (.inr (.inl ⟨p,q,rfl,rfl,h⟩)))
    |_=>exact g h
   |_=>exact g h
  |_=>exact g h
 |_=>exact g h
def inK (a b:V)(K:Bool→Prop):Prop:=fU a fun u=>fU b fun v=>K (Txt.contains v u)
def m6:V→Prop
 | .d .none=>True
 |_=>False
def na (a:V)(K:Bool→Prop):Prop:=match a with
 | .d .none=>K false
 | .mt _=>K true
 |_=>False
def fA (c:aa)(op:CmpOp)(a b:V)(K:Bool→Prop):Prop:=
 match op with
 | .Lt=>ea a b fun i j=>K (decide (i<j))
 | .LtE=>ea a b fun i j=>K (decide (i≤j))
 | .Gt=>ea a b fun i j=>K (decide (j<i))
 | .GtE=>ea a b fun i j=>K (decide (j≤i))
 | .Eq=>eqK c a b K
 | .NotEq=>eqK c a b fun r=>K (!r)
 | .In=>inK a b K
 | .IsNot=>m6 b∧na a K
 |_=>False
theorem vt (C:Cst hb pr c α s.heap){a b:V}{K:Bool→Prop}(h:eqG c a b K){u v:Value}(hx:IsV c α s.heap a u)(hy:IsV c α s.heap b v) :
  ∃x y,(∃as,Reads s.heap u x as)∧(∃bs,Reads s.heap v y bs)∧PySem.SeqAt.shaped x=true∧PySem.SeqAt.shaped y=true∧PySem.SeqAt.noMix x y=true∧K (PySem.Spec.same x y):=by
 obtain⟨x,e1,h⟩:=ax h
 obtain⟨y,e2,h⟩:=ax h
 exact⟨_,_,vy C e1 hx,vy C e2 hy,h⟩
theorem vS (C:Cst hb pr c α s.heap){a b:V}{K:Bool→Prop}(h:eqK c a b K){x y:Value}(hx:IsV c α s.heap a x)(hy:IsV c α s.heap b y) :
  (∃i t j u,x=.int i t∧y=.int j u∧K (i==j))∨(∃i t j u,x=.str i t∧y=.str j u∧K (i==j))∨(∃p q,x=.bool p∧y=.bool q∧K (p==q))∨eqG c a b K:=by
 rcases xP h with ⟨i,j,rfl,rfl,h⟩|⟨i,j,rfl,rfl,h⟩|⟨i,j,rfl,rfl,h⟩|h
 ·obtain⟨t,e1⟩:=IsD.inv hx;obtain⟨u,e2⟩:=IsD.inv hy;exact .inl ⟨i,t,j,u,e1,e2,h⟩
 ·obtain⟨t,e1⟩:=IsD.inv hx;obtain⟨u,e2⟩:=IsD.inv hy;exact .inr (.inl ⟨i,t,j,u,e1,e2,h⟩)
 ·exact .inr (.inr (.inl ⟨i,j,IsD.inv hx,IsD.inv hy,h⟩))
 ·exact .inr (.inr (.inr h))
section
variable (C:Cst hb pr c α s.heap)(hu:A.units+64<cLine){a b:V}{K:Bool→Prop}{x y:Value}(hx:IsV c α s.heap a x)(hy:IsV c α s.heap b y){Q:Value→Shared→Prop}(hq:∀b,K b→Q (.bool b) s)
include C hu hx hy hq
theorem yA (h:eqK c a b K):wpAny (model prog w) A (compareOp .Eq x y) Q no s:=by
 rcases vS C h hx hy with ⟨i,t,j,u,rfl,rfl,h⟩|⟨i,t,j,u,rfl,rfl,h⟩|⟨i,j,rfl,rfl,h⟩|h
 ·exact PyProof.Rows.eq_int (hq _ h)
 ·exact PyProof.Rows.eq_str (hq _ h)
 ·exact PyProof.Rows.eq_bool (hq _ h)
 ·obtain⟨_,_,⟨as,r1⟩,⟨bs,r2⟩,h⟩:=vt C h hx hy
  exact eq_dataH_same r1 r2 h.1 h.2.1 hu h.2.2.1 (hq _ h.2.2.2)
theorem yi (h:eqK c a b fun r=>K (!r)):wpAny (model prog w) A (compareOp .NotEq x y) Q no s:=by
 rcases vS C h hx hy with ⟨i,t,j,u,rfl,rfl,h⟩|⟨i,t,j,u,rfl,rfl,h⟩|⟨i,j,rfl,rfl,h⟩|h
 ·exact PyProof.Rows.ne_int (hq _ h)
 ·exact PyProof.Rows.ne_str (hq _ h)
 ·exact PyProof.Rows.ne_bool (hq _ h)
 ·obtain⟨_,_,⟨as,r1⟩,⟨bs,r2⟩,h⟩:=vt C h hx hy
  exact ne_dataH_same r1 r2 h.1 h.2.1 hu h.2.2.1 (hq _ h.2.2.2)
omit C hu
theorem pY (h:m6 b∧na a K):wpAny (model prog w) A (compareOp .IsNot x y) Q no s:=by
 have e:y=.none:=by
  cases b with
  |d z=>cases z with
   |none=>exact IsD.inv hy
   |_=>exact h.1.elim
  |_=>exact h.1.elim
 subst e
 have h:=h.2
 cases a with
 |d z=>cases z with
  |none=>obtain rfl:x=_:=IsD.inv hx;exact isnot_none_gen (hq _ h)
  |_=>exact h.elim
 |mt _=>obtain⟨r,rfl,_⟩:=hx;exact isnot_ref_none (hq _ h)
 |_=>exact h.elim
theorem yj (h:inK a b K):wpAny (model prog w) A (compareOp .In x y) Q no s:=by
 obtain⟨u,rfl,h1⟩:=cy h
 obtain⟨v,rfl,h2⟩:=cy h1
 obtain⟨_,rfl⟩:=IsD.inv hx
 obtain⟨_,rfl⟩:=IsD.inv hy
 exact PySem.SB.contains (hq _ h2)
end
theorem pX (C:Cst hb pr c α s.heap)(hu:A.units+64<cLine){op:CmpOp}{a b:V}{K:Bool→Prop}(h:fA c op a b K){x y:Value}(hx:IsV c α s.heap a x)(hy:IsV c α s.heap b y){Q:Value→Shared→Prop}
  (hq:∀b,K b→Q (.bool b) s):wpAny (model prog w) A (compareOp op x y) Q no s:=by
 cases op with
 |Lt=>obtain⟨i,t,j,u,rfl,rfl,h⟩:=cX h hx hy;exact PyProof.Rows.lt_int (hq _ h)
 |LtE=>obtain⟨i,t,j,u,rfl,rfl,h⟩:=cX h hx hy;exact PyProof.Rows.le_int (hq _ h)
 |Gt=>obtain⟨i,t,j,u,rfl,rfl,h⟩:=cX h hx hy;exact PyProof.Rows.gt_int (hq _ h)
 |GtE=>obtain⟨i,t,j,u,rfl,rfl,h⟩:=cX h hx hy;exact PyProof.Rows.ge_int (hq _ h)
 |Eq=>exact yA C hu hx hy hq h
 |NotEq=>exact yi C hu hx hy hq h
 |In=>exact yj hx hy hq h
 |IsNot=>exact pY hx hy hq h
 |_=>exact h.elim
end
end Mine
end
section
namespace Mine
open PySem
noncomputable def cI (e:Expr):Bool:=e.ctorIdx==22
noncomputable def de (e:Expr):Bool:=e.ctorIdx != 26
noncomputable def fm (e:Expr):Bool:=e.ctorIdx != 7
noncomputable def bB (e:Expr):Bool:=e.ctorIdx==8||e.ctorIdx==9||e.ctorIdx==10
noncomputable abbrev PO {α:Type} (P:α→Prop):=Option {k:α // P k}
noncomputable def js {α:Type}{P:α→Prop}(o:PO P):Option α:=o.map (·.1)
theorem dG {α:Type}{P:α→Prop}{o:PO P}{k:α}(h:js o=some k):P k:=by
 cases o with
 |none=>contradiction
 |some x=>exact Option.some.inj h▸x.2
noncomputable def rG (e:Expr):PO fun k=>∃n p,e=.Constant k n p:=
 if h:e.ctorIdx=19 then @Expr.Constant.elim (fun e=>PO fun k=>∃n p,e=.Constant k n p) e h (fun k n p=>some ⟨k,n,p,rfl⟩) else none
noncomputable def vM (e:Expr):PO fun k:Str×Pos=>e=.Name k.1 k.2:=
 if h:e.ctorIdx=23 then @Expr.Name.elim (fun e=>PO fun k:Str×Pos=>e=.Name k.1 k.2) e h (fun x p=>some ⟨(x,p),rfl⟩) else none
noncomputable def vl (e:Expr):PO fun k:Expr×Str×Pos=>e=.Attribute k.1 k.2.1 k.2.2:=
 if h:e.ctorIdx=20 then @Expr.Attribute.elim (fun e=>PO fun k:Expr×Str×Pos=>e=.Attribute k.1 k.2.1 k.2.2) e h (fun a x p=>some ⟨(a,x,p),rfl⟩) else none
noncomputable def qO (e:Expr):PO fun k:Option Expr×Option Expr×Option Expr=>∃p,e=.Slice k.1 k.2.1 k.2.2 p:=
 if h:e.ctorIdx=26 then @Expr.Slice.elim (fun e=>PO fun k:Option Expr×Option Expr×Option Expr=>∃p,e=.Slice k.1 k.2.1 k.2.2 p) e h (fun a b d p=>some ⟨(a,b,d),p,rfl⟩) else none
noncomputable def yt (e:Expr):PO fun es=>∃k p,e=.Tuple es k p:=
 if h:e.ctorIdx=25 then @Expr.Tuple.elim (fun e=>PO fun es=>∃k p,e=.Tuple es k p) e h (fun es k p=>some ⟨es,k,p,rfl⟩) else none
noncomputable def y8 (e:Expr):PO fun k:Expr×Expr=>∃p,e=.Subscript k.1 k.2 p:=
 if h:e.ctorIdx=21 then @Expr.Subscript.elim (fun e=>PO fun k:Expr×Expr=>∃p,e=.Subscript k.1 k.2 p) e h (fun a i p=>some ⟨(a,i),p,rfl⟩) else none
noncomputable def lcV (e:Expr):PO fun k:Scope×Pos=>∃elt gs,e=.ListComp elt gs k.1 k.2:=
 if h:e.ctorIdx=8 then @Expr.ListComp.elim (fun e=>PO fun k:Scope×Pos=>∃elt gs,e=.ListComp elt gs k.1 k.2) e h (fun elt gs s p=>some ⟨(s,p),elt,gs,rfl⟩) else none
noncomputable def gT (e:Expr):Option Const:=js (rG e)
noncomputable def bV (e:Expr):Option (Str×Pos):=js (vM e)
noncomputable def eu (e:Expr):Option (Expr×Str×Pos):=js (vl e)
noncomputable def mB (e:Expr):Option (Option Expr×Option Expr×Option Expr):=js (qO e)
noncomputable def oC (e:Expr):Option (List Expr):=js (yt e)
noncomputable def zg (e:Expr):Option (Expr×Expr):=js (y8 e)
noncomputable def lcP (e:Expr):Option (Scope×Pos):=js (lcV e)
theorem iI {e:Expr}{k:Const}(h:gT e=some k):∃n p,e=.Constant k n p:=dG (o:=rG e) h
theorem bp {e:Expr}{k:Str×Pos}(h:bV e=some k):e=.Name k.1 k.2:=dG (o:=vM e) h
theorem dK {e:Expr}{k:Expr×Str×Pos}(h:eu e=some k):e=.Attribute k.1 k.2.1 k.2.2:=dG (o:=vl e) h
theorem oB {e:Expr}{k:Option Expr×Option Expr×Option Expr}(h:mB e=some k):∃p,e=.Slice k.1 k.2.1 k.2.2 p:=dG (o:=qO e) h
theorem jv {e:Expr}{es:List Expr}(h:oC e=some es):∃k p,e=.Tuple es k p:=dG (o:=yt e) h
theorem uE {e:Expr}{k:Expr×Expr}(h:zg e=some k):∃p,e=.Subscript k.1 k.2 p:=dG (o:=y8 e) h
theorem wp {e:Expr}{k:Scope×Pos}(h:lcP e=some k):∃elt gs,e=.ListComp elt gs k.1 k.2:=dG (o:=lcV e) h
theorem kD {f:Expr}(h:f.ctorIdx=23):∃x p,f=.Name x p:=@Expr.Name.elim (fun e=>∃x p,e=.Name x p) f h fun x p=>⟨x,p,rfl⟩
noncomputable def yQ (w:Value):PO fun a=>w=.ref a:=if h:w.ctorIdx=10 then @Value.ref.elim (fun w=>PO fun a=>w=.ref a) w h fun a=>some ⟨a,rfl⟩ else none
noncomputable def wt (w:Value):Option Addr:=js (yQ w)
theorem jz {w:Value}{a:Addr}(h:wt w=some a):w=.ref a:=dG (o:=yQ w) h
end Mine
end
section
namespace Mine
open PySem PyProof.Rows
theorem idx {i:Int}{n j:Nat}(h0:0≤(if i<0 then i+n else i))(h1:(if i<0 then i+n else i)<n)(e:(if i<0 then i+n else i).toNat=j):-(n:Int)≤i∧i<n∧j<n:=by
 by_cases q:i<0
 ·rw[if_pos q] at h0 h1 e;omega
 ·rw[if_neg q] at h0 h1 e;omega
theorem ii {i:Int}{n j:Nat}(h:seqIndex? i n=some j):(-(n:Int)≤i∧i<n∧j<n)∧j=(if i<0 then i+n else i).toNat:=by
 obtain⟨hc,h⟩:=ifO h
 obtain⟨h0,h1⟩:=(Xv _ _).mp hc
 exact⟨idx (of_decide_eq_true h0) (of_decide_eq_true h1) (Option.some.inj h),(Option.some.inj h).symm⟩
theorem ca {e:Expr}(h:de e=true)(o i:Value):subscripted e false o i=operate [o,i] (getItem o i):=by
 cases e<;>first|rfl|exact absurd h Bool.false_ne_true
def vN (c:aa)(o:V)(i:Int)(K:D→Prop):Prop:=aw (b8 c o) fun p=>p.2.length≤big∧∃j d,seqIndex? i p.2.length=some j∧p.2[j]?=some d∧K d
def vO (c:aa)(o:V)(i:Int)(K:D→Prop):Prop:=match gt o with
 |some x=>-(x.length:Int)≤i∧i<x.length∧x.length≤big∧K (.str (Txt.item x i))
 |none=>vN c o i K
def ef (c:aa)(o i:V)(K:D→Prop):Prop:=fK i fun n=>vO c o n K
section
variable {prog:Program}{w:World}{A:Around}{hb:Heap}{pr:List Nat}{env:Env}{l:Loc}{c:aa}{α:Al}{s:Shared}
theorem sX {i:Int}{n:Nat}(h0:-(n:Int)≤i)(h1:i<n)(h2:n≤big):fitsSsize i=true:=by
 unfold fitsSsize
 unfold big at h2
 have:¬i < -(2 ^ 63:Int):=by omega
 have h3:¬i ≥ 2 ^ 63:=by omega
 rw[decide_eq_false this,decide_eq_false h3];rfl
theorem rb (C:Cst hb pr c α s.heap){value slice:Expr}(hsl:de slice=true){o:V}{n:Int}{K:D→Prop}(h:vN c o n K){x:Value}{t:Tok}(hx:IsV c α s.heap o x)
  {Q:Value→Shared→Prop} (hq:∀d g tk,K d→IsD s.heap (ay c α) d g→Q g {s with toks:=tk}):wpAny (model prog w) A (subscriptTail value slice x (.int n t)) Q no s:=by
 obtain⟨⟨b,xs⟩,e,hlen,j,d,hj,hd,hK⟩:=ax h
 obtain⟨a,ws,ep,rfl,g',r⟩:=dh C e hx
 obtain⟨u,hu,hi⟩:=r.get j d hd
 obtain⟨⟨h1,h2,h3⟩,h4⟩:=ii hj
 have hwl:ws.length=xs.length:=r.length.symm
 unfold big at hlen
 cases b with
 |true=>
  exact item_tupleT ⟨_,g',rfl,_,rfl⟩ (by omega) (by omega) (by rw[hwl];exact hj) hu (hq d u s.toks hK hi) (ca hsl _ _)
 |false=>
  have hl:s.heap.IsList a ws.toArray:=⟨_,g',rfl,_,rfl⟩
  refine tail_any (T:="list") hl.typeIs slot_list_getitem.lookup ?_ (ca hsl _ _)
  by_cases h0:n<0
  ·rw[if_pos h0] at h4
   refine wpAny_getItem_list_neg hl h0 (by rw[Xq,hwl];exact h1) (by omega) ?_ (hq d u s.toks hK hi)
   rw[Xq,hwl,←h4];simpa using hu
  ·rw[if_neg h0] at h4
   refine wpAny_getItem_list hl (R2 h0) (by omega) ?_ (hq d u s.toks hK hi)
   rw[←h4];simpa using hu
theorem tI (C:Cst hb pr c α s.heap){value slice:Expr}(hsl:de slice=true){o i:V}{K:D→Prop}(h:ef c o i K){x y:Value}(hx:IsV c α s.heap o x)(hy:IsV c α s.heap i y)
  {Q:Value→Shared→Prop} (hq:∀d g tk,K d→IsD s.heap (ay c α) d g→Q g {s with toks:=tk}):wpAny (model prog w) A (subscriptTail value slice x y) Q no s:=by
 obtain⟨n,rfl,h1⟩:=cj h
 obtain⟨t,rfl⟩:=IsD.inv hy
 unfold vO at h1
 cases e:gt o with
 |some x=>
  rw[e] at h1
  obtain rfl:=gm e
  obtain⟨_,rfl⟩:=IsD.inv hx
  obtain⟨h1,h2,h3,h⟩:=h1
  obtain⟨T,id,hl,hT,hg⟩:=(PySem.SB.item (prog:=prog) (w:=w) (A:=A) (E:=no) (sX h1 h2 h3) (charAt_isSome h1 h2) (hq _ _ (s.toks+1) h (.str _ _)):ItemOn _ _ _ _ _ Q s)
  exact tail_any hT hl hg (ca hsl _ _)
 |none=>
  rw[e] at h1
  exact rb C hsl h1 hx hq
noncomputable def mR:V→Option (Option Int)
 | .d .none=>some none
 | .d (.int i)=>some (some i)
 |_=>none
theorem iK {h:Heap}{v:V}{p:Option Int}{g:Value}(e:mR v=some p)(i:IsV c α h v g):IsPart g p:=by
 cases v with
 |d x=>cases x with
  |none=>obtain rfl:g=_:=IsD.inv i;exact Option.some.inj e▸.none
  |int n=>obtain⟨t,rfl⟩:=IsD.inv i;exact Option.some.inj e▸.int _ _
  |_=>contradiction
 |_=>contradiction
noncomputable def cut (xs:List D)(lo hi:Option Int):List D:=(xs.drop (lo.elim 0 (clipAt xs.length))).take (hi.elim xs.length (clipAt xs.length)-lo.elim 0 (clipAt xs.length))
def ju (c:aa)(o i j:V)(K:D→Prop):Prop:=aw (mR i) fun lo=>aw (mR j) fun hi=>match gt o with
 |some x=>x.length≤big∧K (.str (Txt.slice x lo hi))
 |none=>aw (b8 c o) fun p=>p.1=false∧p.2.length≤big∧K (.lst (cut p.2 lo hi))
theorem dY (value:Expr)(x:Str)(t:Tok)(r:Value):letTemporaryGo value (.str x t) r=pure ():=by cases value<;>rfl
section
variable (F:Fst hb pr env l c α s.heap){value:Expr}{el eh:Option Expr}{p:Pos}{y z:Value}{K:D→Prop}{lo hi:Option Int}(p1:IsPart y lo)(p2:IsPart z hi)
 {Q:Value→Shared→Prop} (hq:∀d g h' tk,K d→Fst hb pr env l c α h'→Le c α s.heap c α h'→IsD h' (ay c α) d g→Q g {s with heap:=h',toks:=tk})
include F p1 p2 hq
theorem pE {x:Str}{t:Tok}(hx:x.length≤big)(h:K (.str (Txt.slice x lo hi))):wpAny (model prog w) A (subscriptTail value (.Slice el eh none p) (.str x t) (.ref s.heap.objs.size)) Q no {s with heap:=s.heap.push {cls:=.type "slice",data:=.fields #[y,z,.none]}}:=by
 have kp:KeptH (fun h'=>∀b o,s.heap.get? b=some o→h'.get? b=some o):=fun h ob k b o e=>Xz _ (k b o e)
 have fin:∀h' t' k,(∀b o,s.heap.get? b=some o→h'.get? b=some o)→Q (.str (Txt.slice x lo hi) t') {s with heap:=h',toks:=k}:=by
  intro h' t' k kk
  obtain⟨F',L'⟩:=F.keeps kk
  exact hq _ _ h' k h F' L' (.str _ _)
 have hsz:=aH hx
 cases p1 with
 |none=>cases p2 with
  |none=>exact tail_of_ItemOn (SBH.sliceItem_nn kp (fun _ _ e=>e) fin hsz) rfl (dY _ _ _)
  |int j u=>exact tail_of_ItemOn (SBH.sliceItem_ns kp (fun _ _ e=>e) fin hsz) rfl (dY _ _ _)
 |int i u=>cases p2 with
  |none=>exact tail_of_ItemOn (SBH.sliceItem_sn kp (fun _ _ e=>e) fin hsz) rfl (dY _ _ _)
  |int j u=>exact tail_of_ItemOn (SBH.sliceItem_ss kp (fun _ _ e=>e) fin hsz) rfl (dY _ _ _)
theorem pf {a:Addr}{xs:List D}{ws:List Value}{ep:Nat}(g':s.heap.get? a=some (bq "list" ws ep)) (r:IsDs s.heap (ay c α) xs ws) (hx:xs.length≤big) (h:K (.lst (cut xs lo hi))) :
  wpAny (model prog w) A (subscriptTail value (.Slice el eh none p) (.ref a) (.ref s.heap.objs.size)) Q no {s with heap:=s.heap.push {cls:=.type "slice",data:=.fields #[y,z,.none]}}:=by
 have hl:s.heap.IsList a ws.toArray:=⟨_,g',rfl,_,rfl⟩
 have hwl:ws.length=xs.length:=r.length.symm
 refine tail_any (T:="list") (Heap.IsList.typeIs (s:={s with heap:=s.heap.push {cls:=.type "slice",data:=.fields #[y,z,.none]}}) (hl.push _)) slot_list_getitem.lookup
  (wpAny_getItem_list_slice (hl.push _) (Heap.IsSliceOf.new ..) p1 p2 .none (by simp) ?_ (by rw[Xq,hwl];exact aH hx)) rfl
 rw[slicePick_plain]
 obtain⟨F1,L1⟩:=F.push {cls:=.type "slice",data:=.fields #[y,z,.none]}
 obtain⟨F2,L2⟩:=F1.push (bq "list" ((ws.drop (lo.elim 0 (clipAt xs.length))).take (hi.elim xs.length (clipAt xs.length)-lo.elim 0 (clipAt xs.length))) 0)
 have:=hq (.lst (cut xs lo hi)) (.ref (s.heap.push {cls:=.type "slice",data:=.fields #[y,z,.none]}).objs.size) _ s.toks h F2 (L1.trans L2)
  (.lst (Xj _ rfl) (be F1.toCst) (((L1.trans L2).isDs r).drop _ |>.take _))
 simpa [hwl] using this
end
theorem qd (F:Fst hb pr env l c α s.heap){value lo hi:Expr}{el eh:Option Expr}{p:Pos}{o i j:V}{K:D→Prop}(h:ju c o i j K){x y z:Value}(hx:IsV c α s.heap o x)(hy:IsV c α s.heap i y)(hz:IsV c α s.heap j z)
  {Q:Value→Shared→Prop} (hq:∀d g h' tk,K d→Fst hb pr env l c α h'→Le c α s.heap c α h'→IsD h' (ay c α) d g→Q g {s with heap:=h',toks:=tk}) :
  wpAny (model prog w) A (subscriptTail value (.Slice el eh none p) x (.ref s.heap.objs.size)) Q no {s with heap:=s.heap.push {cls:=.type "slice",data:=.fields #[y,z,.none]}}:=by
 obtain⟨lo,e1,h⟩:=ax h
 obtain⟨hi,e2,h⟩:=ax h
 have p1:=iK e1 hy
 have p2:=iK e2 hz
 cases e:gt o with
 |some x=>
  rw[e] at h
  obtain rfl:=gm e
  obtain⟨t,rfl⟩:=IsD.inv hx
  exact pE F p1 p2 hq h.1 h.2
 |none=>
  rw[e] at h
  obtain⟨⟨b,xs⟩,e,e',h1,h2⟩:=ax h
  obtain⟨a,ws,ep,rfl,g',r⟩:=dh F.toCst e hx
  have e':b=false:=e'
  rw[e'] at g'
  exact pf F p1 p2 hq g' r h1 h2
end
end Mine
end
section
namespace Mine
open PySem PyProof.Rows PySem.W
structure ClsOk (K:Frag)(C:Addr):Prop where
 ga:findIn K (.ref C) "__getattribute__"=some (some (.builtin "object.__getattribute__"))
 gk:findIn K (.ref C) "__getattr__"=some none
 sa:findIn K (.ref C) "__setattr__"=some (some (.builtin "object.__setattr__"))
 po:plainOver K C=true
 hd:hasDictIn K C=true
theorem fT {es:Array DictEntry}{ep:Nat}{o:Obj}{x:Str}{r:Option Value}(hd:o.data=.dict es ep)(sk:StrKeys es)(e:nsFind es x=r):lookIn x o=some r:=by
 unfold lookIn
 rw[hd]
 dsimp only
 rw[Array.find?_toList]
 unfold nsFind findBy at e
 have hany:es.toList.any (·.refKey)=false:=by
  rw[Array.any_toList,Array.any_eq_false'];intro e he;obtain⟨n,t,h⟩:=sk e he;simp[DictEntry.refKey,h]
 cases hf:es.find? (·.key.isStr x) with
 |some en=>rw[hf] at e;(subst e);rfl
 |none=>rw[hf] at e;(subst e);simp only[hany];rfl
section
variable {prog:Program}{w:World}{A:Around}{hb:Heap}{pr:List Nat}{env:Env}{l:Loc}{c:aa}{α:Al}{s:Shared}{K:Frag}
theorem mf (C:Cst hb pr c α s.heap){k dk:Nat}{cl:Addr}{fs:List (Str×V)}(hk:ae c k=some (.inst cl dk))(hdk:ae c dk=some (.ns fs)) :
  ∃o es ep,InstAt s.heap (α k) {cls:=.ref cl,dict:=some (α dk)} cl (some o)∧s.heap.get? (α dk)=some o∧o.data=.dict es ep∧StrKeys es∧es.size=fs.length∧
   ∀x,match look fs x with
    |some v=>∃w,nsFind es x=some w∧IsV c α s.heap v w
    |none=>nsFind es x=none:=by
 obtain⟨h1,h2⟩:=C.cell k _ hk
 obtain⟨o,es,ep,g,hd,sk,sz,f⟩:=C.cell dk _ hdk
 exact⟨o,es,ep,⟨h1,rfl,rfl,g⟩,g,hd,sk,sz,f⟩
noncomputable def iM:V→Bool
 | .val u=>handedIn u
 | .bi _=>false
 |_=>true
theorem qg {h:Heap}{v:V}{g:Value}(e:iM v=true)(i:IsV c α h v g):handedIn g=true:=by
 cases v with
 |d x=>cases i<;>rfl
 |obj k=>rw[i.1];rfl
 |val u=>(subst i);exact e
 |rng p q=>obtain⟨r,_,_,_,e,_⟩:=i;rw[e];rfl
 |bi b=>contradiction
 |mt e=>obtain⟨r,e,_⟩:=i;rw[e];rfl
theorem tj (F:Fst hb pr env l c α s.heap)(X:K.In hb){k dk:Nat}{cl:Addr}{fs:List (Str×V)}(hk:ae c k=some (.inst cl dk))(hdk:ae c dk=some (.ns fs))(CO:ClsOk K cl)
  {nm:Str} (hn:findIn K (.ref cl) nm=some none) {v:V} (hv:look fs nm=some v) (hh:iM v=true) {expr:Bool}
  {Q:Value→Shared→Prop} (hq:∀g tk,IsV c α s.heap v g→Q g {s with toks:=tk}):wpAny (model prog w) A (getAttr (.ref (α k)) nm expr) Q no s:=by
 obtain⟨o,es,ep,I,g,hd,sk,sz,f⟩:=mf F.toCst hk hdk
 have:=f nm
 rw[hv] at this
 obtain⟨u,hu,i⟩:=this
 exact get_value (X.keeps F.base) I CO.ga (findObj_own CO.hd hn rfl (fT hd sk hu)) (qg hh i) (hq u _ i)
theorem u5 (F:Fst hb pr env l c α s.heap)(X:K.In hb){k dk:Nat}{cl:Addr}{fs:List (Str×V)}(hk:ae c k=some (.inst cl dk))(hdk:ae c dk=some (.ns fs))(CO:ClsOk K cl)
  {nm:Str} {f:Addr} (hn:findIn K (.ref cl) nm=some (some (.ref f))) (hf:typeIn K (.ref f)=some (.type "function")) (hv:look fs nm=none) {pl:Sem Bool}
  {Q:Value×List Value→Shared→Prop} (hq:Q (.ref f,[.ref (α k)]) s):wpAny (model prog w) A (getMethod (.ref (α k)) nm pl) Q no s:=by
 obtain⟨o,es,ep,I,g,hd,sk,sz,fi⟩:=mf F.toCst hk hdk
 have:=fi nm
 rw[hv] at this
 exact method_fn (X.keeps F.base) I CO.ga CO.gk hn hf (by unfold shadowIn;dsimp only;rw[fT hd sk this];rfl) hq
theorem io {name:Str}{hash:Int}{key v:Value}{o:Obj}{es:Array DictEntry}{ep:Nat}(hd:o.data=.dict es ep)(hkey:∃t,key=.str name t)(sk:StrKeys es) :
  ∃es' ep',(Obj.putName name hash key v o).data=.dict es' ep'∧StrKeys es'∧es'.size=(if (nsFind es name).isSome then es.size else es.size+1)∧∀x,nsFind es' x=if x=name then some v else nsFind es x:=by
 obtain⟨t,rfl⟩:=hkey
 obtain⟨cl,di,da,sl⟩:=o
 subst hd
 cases hi:es.findIdx? (·.key.isStr name) with
 |some i=>
  have hs:(nsFind es name).isSome=true:=by
   unfold nsFind findBy
   cases hf:es.find? (·.key.isStr name) with
   |some _=>rfl
   |none=>
    rw[Array.find?_eq_none] at hf
    obtain⟨hlt,hp,_⟩:=Array.findIdx?_eq_some_iff_getElem.mp hi
    exact absurd hp (hf _ (Array.getElem_mem hlt))
  refine⟨_,ep,by simp only[Obj.putName_eq,Obj.putNameByArray,hi];rfl,sk.modify _ _,by rw[hs];simp,fun x=>?_⟩
  exact findBy_modify (fun n v=>v.isStr n) Value.isStr_inj es name x v i hi
 |none=>
  have hs:(nsFind es name).isSome=false:=by
   unfold nsFind findBy
   have hf:es.find? (·.key.isStr name)=none:=by
    rw[Array.find?_eq_none]
    intro e he
    simpa using Array.findIdx?_eq_none_iff.mp hi e he
   show ((es.find? (·.key.isStr name)).map _).isSome=false
   rw[hf];rfl
  refine⟨_,ep+1,by simp only[Obj.putName_eq,Obj.putNameByArray,hi];rfl,sk.push _ _ _ _,by rw[hs];simp,fun x=>?_⟩
  exact findBy_push (fun n v=>v.isStr n) es name x _ _ v (fun y=>by
   show (name==y)=decide (y=name)
   by_cases h:y=name
   ·subst h;simp
   ·have:¬name=y:=fun e=>h e.symm
    simp[h,this]) hi
theorem gF {β:Type}(fs:List (Str×β))(x:Str)(v:β):(put fs x v).length=if (look fs x).isSome then fs.length else fs.length+1:=by
 induction fs with
 |nil=>rfl
 |cons p r ih=>
  obtain⟨y,u⟩:=p
  show (if y=x then (y,v)::r else (y,u)::put r x v).length=if (if y=x then some u else look r x).isSome then r.length+1 else r.length+1+1
  by_cases e:y=x
  ·rw[if_pos e,if_pos e];rfl
  ·rw[if_neg e,if_neg e,Qz,ih]
   cases (look r x).isSome<;>rfl
theorem ez (F:Fst hb pr env l c α s.heap)(X:K.In hb){k dk:Nat}{cl:Addr}{fs:List (Str×V)}(hk:ae c k=some (.inst cl dk))(hdk:ae c dk=some (.ns fs))(CO:ClsOk K cl)
  {nm:Str} (hn:findIn K (.ref cl) nm=some none) (hsz:fs.length≤1000) {v:V} {g:Value} (i:IsV c α s.heap v g)
  {Q:Unit→Shared→Prop} (hq:∀h' tk,Fst hb pr env l (cset c dk (.ns (put fs nm v))) α h'→Le c α s.heap (cset c dk (.ns (put fs nm v))) α h'→Q () {s with heap:=h',toks:=tk}) :
  wpAny (model prog w) A (setAttr (.ref (α k)) nm g) Q no s:=by
 obtain⟨o,es,ep,I,hg,hd,sk,sz,fi⟩:=mf F.toCst hk hdk
 have X':=X.keeps F.base
 have hsome:(nsFind es nm).isSome=(look fs nm).isSome:=by
  have:=fi nm
  cases hl:look fs nm with
  |none=>rw[hl] at this;rw[this];rfl
  |some u=>rw[hl] at this;obtain⟨w,h1,_⟩:=this;rw[h1];rfl
 obtain⟨es',ep',d',sk',sz',fi'⟩:=io (hash:=PyData.keyHash w.params nm) (v:=g) hd ⟨s.toks+1,rfl⟩ sk (name:=nm)
 have ht:takerIn K cl nm=some none:=by unfold takerIn;rw[hn];rfl
 refine set_plain X' I CO.sa (osa_open (s:={s with toks:=s.toks+1}) X' I CO.po ht fun b=>?_)
 obtain⟨cd,hc,hd'⟩:=any_some CO.hd
 have hfreed:(Obj.putName nm (PyData.keyHash w.params nm) (.str nm (s.toks+1)) g o).isFreed=false:=Obj.isFreed_of_dict d'
 have D':(s.heap.update (α dk) (Obj.putName nm (PyData.keyHash w.params nm) (.str nm (s.toks+1)) g)).get? (α dk)=some (Obj.putName nm (PyData.keyHash w.params nm) (.str nm (s.toks+1)) g o):=Heap.get?_update_self _ hg hfreed
 have hx:=I.at_
 refine Zb (Zp (Zb (Zb (wpAny_loadPart hx (Zb (Looks.here (s:={s with toks:=s.toks+1}) (looks_clsIn X' hc) ?_))))))
 rw[hd']
 refine Zp (a:=some (α dk)) (Zb (Zp (Zb ?_)))
 unfold nsSet
 refine Zb (Zb (wpAny_askSetting (Zp (Zb (wpAny_mkText (Zb (wpAny_loadPart hg ?_)))))))
 rw[hd]
 dsimp only
 have hany:es.any (·.refKey)=false:=by
  rw[Array.any_eq_false'];intro e he;obtain⟨n,t,h⟩:=sk e he;simp[DictEntry.refKey,h]
 rw[aRefKeyMayBeTheName_at,hany,Bool.and_false]
 refine wpAny_updatePart hg ?_
 refine Zb (wpAny_lookBehind D' (by rw[d'];exact pastItsLine_dict (by rw[sz',sizeLine_eq];split<;>omega)) ?_)
 have hdm:dk∈dom c:=ah hdk
 obtain⟨F',L'⟩:=F.set hdm (o:=.ns (put fs nm v)) (Heap.SameBut.update s.heap (α dk) (Obj.putName nm (PyData.keyHash w.params nm) (.str nm (s.toks+1)) g)) (fun L=>by
  refine⟨_,es',ep',D',d',sk',?_,fun x=>?_⟩
  ·rw[sz',gF,hsome,sz]
  ·rw[am]
   have:=fi x
   by_cases hx:x=nm
   ·rw[if_pos hx];exact⟨g,by rw[fi',if_pos hx],L.isV i⟩
   ·rw[if_neg hx]
    cases hl:look fs x with
    |none=>rw[hl] at this;dsimp only;rw[fi',if_neg hx];exact this
    |some u=>rw[hl] at this;obtain⟨w,h1,h2⟩:=this;exact⟨w,by rw[fi',if_neg hx];exact h1,L.isV h2⟩)
 exact Zp (hq _ _ F' L')
end
structure Room (d:Nat)(A:Around):Prop where
 handled:A.handled=none
 depth:A.depth+d<recursionLimit
 units:A.units+10*d+200<cLine
theorem Room.deeper {d:Nat}{A:Around}(r:Room (d+1) A)(env:Env):Room d (A.deeper env):=by
 refine⟨r.handled,?_,?_⟩
 ·have:=r.depth;show A.depth+1+d<recursionLimit;exact R8 this
 ·have:=r.units;show A.units+3+10*d+200<cLine;exact R7 this
theorem Room.less {d d':Nat}{A:Around}(r:Room d A)(h:d'≤d):Room d' A:=⟨r.handled,by have:=r.depth;exact R6 h this,by have:=r.units;exact R5 h this⟩
theorem Room.hu {d:Nat}{A:Around}(r:Room d A):A.units+64<cLine:=by have:=r.units;exact R4 this
theorem Room.room {d:Nat}{A:Around}(r:Room d A):A.depth<recursionLimit:=by have:=r.depth;exact R3 this
noncomputable abbrev Spec:=List V→aa→(V→aa→Prop)→Prop
def FnOk (prog:Program)(w:World)(hb:Heap)(d:Nat)(a:Addr)(spec:Spec):Prop:=
 ∀(A:Around),Room d A→∀(vs:List V) (ws:List Value) (c:aa) (α:Al) (s:Shared) (K:V→aa→Prop) (R:Result→Shared→Prop),
  1≤s.toks→Cst hb [] c α s.heap→IsVs c α s.heap vs ws→spec vs c K→
  (∀v c' α' g h' tk,K v c'→Cst hb [] c' α' h'→Le c α s.heap c' α' h'→IsV c' α' h' v g→R (.ok (.ret g)) {s with heap:=h',toks:=tk})→
  codeAny (model prog w) A (.call (.ref a) ⟨ws,[]⟩) R s
theorem IsVs.length {c:aa}{α:Al}{h:Heap}:∀{vs:List V} {ws:List Value},IsVs c α h vs ws→vs.length=ws.length
 |_,_,.nil=>rfl
 |_,_,.cons _ r=>by simp[r.length]
theorem oS {kindOf:Str→Option NameKind}:∀(bs:List (Str×Value)) (m:Str→Option Value) (x:Str),kindOf x=some .local→
  bindL kindOf bs m x=match bs.reverse.lookup x with|some w=>some w|none=>m x:=by
 intro bs
 induction bs with
 |nil=>intro m x _;rfl
 |cons p r ih=>
  obtain⟨n,v⟩:=p
  intro m x hx
  unfold bindL
  rw[ih _ x hx]
  simp only[List.reverse_cons,List.lookup_append,Zq,List.lookup_nil]
  cases r.reverse.lookup x with
  |some w=>rfl
  |none=>
   dsimp only[Option.none_or]
   by_cases e:x=n
   ·subst e;simp[hx]
   ·have hb:(x==n)=false:=beq_eq_false_iff_ne.mpr e
    rw[hb]
    by_cases hl:kindOf n=some .local
    ·simp[hl,e]
    ·simp[hl]
theorem oM {kindOf:Str→Option NameKind}:∀(bs:List (Str×Value)) (m:Str→Option Value) (x:Str),kindOf x≠some .local→
  bindC kindOf bs m x=match bs.reverse.lookup x with|some w=>some w|none=>m x:=by
 intro bs
 induction bs with
 |nil=>intro m x _;rfl
 |cons p r ih=>
  obtain⟨n,v⟩:=p
  intro m x hx
  unfold bindC
  rw[ih _ x hx]
  simp only[List.reverse_cons,List.lookup_append,Zq,List.lookup_nil]
  cases r.reverse.lookup x with
  |some w=>rfl
  |none=>
   dsimp only[Option.none_or]
   by_cases e:x=n
   ·subst e;simp[hx]
   ·have hb:(x==n)=false:=beq_eq_false_iff_ne.mpr e
    rw[hb]
    by_cases hl:kindOf n=some .local
    ·simp[hl]
    ·simp[hl,e]
theorem q6 {c:aa}{α:Al}{h:Heap}:∀(ps:List Str),ps.Nodup→∀(vs:List V) (ws:List Value),IsVs c α h vs ws→∀x v,look (ps.zip vs) x=some v→∃w,(ps.zip ws).reverse.lookup x=some w∧IsV c α h v w:=by
 intro ps
 induction ps with
 |nil=>intro _ vs ws _ x v e;simp[look] at e
 |cons p r ih=>
  intro nd vs ws i x v e
  cases i with
  |nil=>simp[look] at e
  | @cons v0 w0 vs ws i0 i=>
   dsimp only[List.zip_cons_cons,look] at e
   simp only[List.zip_cons_cons,List.reverse_cons,List.lookup_append,Zq,List.lookup_nil]
   by_cases hx:p=x
   ·rw[if_pos hx] at e;(injection e with e;subst e)
    have:(r.zip ws).reverse.lookup x=none:=by
     rw[List.lookup_eq_none_iff]
     intro q hq
     have hm:=List.mem_reverse.mp hq
     have:=(List.of_mem_zip hm).1
     simp only[bne_iff_ne,ne_eq]
     intro e
     exact (List.nodup_cons.mp nd).1 (by rw[hx,e];exact this)
    rw[this,hx]
    refine⟨w0,by simp,i0⟩
   ·rw[if_neg hx] at e
    obtain⟨w,h1,h2⟩:=ih (List.nodup_cons.mp nd).2 vs ws i x v e
    exact⟨w,by rw[h1];rfl,h2⟩
structure FnAt (hb:Heap)(a:Addr)(fd:FuncData)(body:List Stmt)(ps:List Str):Prop where
 at_:∃o,hb.get? a=some o∧o.data=.func fd
 lim:hb.NoLimit
 code:hb.CodeRec fd.code fd.qualname
 body:fd.body=.stmts body
 clo:fd.closure=[]
 bind:∀ws:List Value,ws.length=ps.length→bindArgs fd ⟨ws,[]⟩=pure (ps.zip ws)
 nd:ps.Nodup
 kinds:∀p∈ps,fd.scope.names.lookup p=some .local∨(fd.scope.names.lookup p=some .cell∧∀n,((cellsFrom n fd.scope.names []).lookup p).isSome=true)
 co:fd.scope.isCoroutine=false
 gen:fd.scope.isGenerator=false
 kind:fd.scope.kind=.function
theorem dB:∀(names:List (Str×NameKind)) (n:Nat) (acc:List (Str×Addr)) (x:Str) (b:Addr),(x,b)∈cellsFrom n names acc→(x,b)∈acc∨n≤b
 | [],n,acc,x,b,h=>.inl h
 | (name,kind)::r,n,acc,x,b,h=>by
  unfold cellsFrom at h
  split at h
  ·rcases dB r _ _ x b h with h|h
   ·rcases Qy.mp h with h|h
    ·(injection h with h h_;subst h h_);exact .inr (Zv _)
    ·exact .inl h
   ·exact .inr (Nat.le_of_succ_le h)
  ·exact dB r _ _ x b h
theorem wr {M:Model}{A:Around}{E:Value→Shared→Prop}{s:Shared}{scope:Scope}{globals:Addr}{n:Str}{v:Value}{r:List (Str×Value)}{qual:Str}{func:Option Addr}{code:Value}{builtins:Addr}{Q:Env→Shared→Prop}
  (hk:scope.kind=.function) (hl:scope.names.lookup n=some .local)
  (hkind:∀x∈r,scope.names.lookup x.1=some .local∨(scope.names.lookup x.1=some .cell∧((cellsFrom (s.heap.objs.size+1) scope.names []).lookup x.1).isSome=true))
  (hQ:∀env,env=newEnv scope s.heap.objs.size globals (cellsFrom (s.heap.objs.size+1) scope.names []) qual func code none builtins→
   ∀s',1≤s'.toks→InCallC s env.locals (bindL env.kindOf ((n,v)::r) fun _=>none) env.cells (bindC env.kindOf ((n,v)::r) fun _=>none) s'→Q env s') :
  wpAny M A (newFunctionEnv scope globals [] ((n,v)::r) qual func code none builtins) Q E s:=by
 simp only[newFunctionEnv,Option.isSome_none,Bool.false_eq_true,if_false]
 refine Zb (wpAny_alloc ?_)
 refine Zb (wpAny_layCells _ (fun name kind cells=>by cases hkc:kind==NameKind.cell<;>simp[hkc]) _ _ _ _ ?_)
 have ok:=cellsFrom_ok scope.names (s.heap.push {cls:=.type "frame",data:=.dict #[]}) (s.heap.objs.size+1) [] ⟨fun _ _ hm=>(nomatch hm),List.Pairwise.nil⟩ (by rw[Heap.size_push];exact Zv _)
 rw[Heap.size_push] at ok
 rw[show ({s with heap:=s.heap.push {cls:=.type "frame",data:=.dict #[]}}:Shared).heap.objs.size=s.heap.objs.size+1 from Heap.size_push ..]
 have I0:InCallC s s.heap.objs.size (fun _=>none) (cellsFrom (s.heap.objs.size+1) scope.names []) (fun _=>none) {s with heap:=pushCells (s.heap.push {cls:=.type "frame",data:=.dict #[]}) scope.names}:=
  ⟨⟨⟨_,_,rfl⟩,(Heap.Ns.new s.heap (.type "frame")).keeps (pushCells_keeps _ _),fun b o e=>pushCells_keeps _ _ b o (Xz _ e),Zv _⟩,
   fun n c hc=>(ok.empty n c (mem_of_lookup hc)).1,ok.apart,fun n c hm=>(ok.empty n c hm).2⟩
 rw[List.forIn_cons]
 refine Zb (Zb (Zb ?_))
 have hl':(newEnv scope s.heap.objs.size globals (cellsFrom (s.heap.objs.size+1) scope.names []) qual func code none builtins).kindOf n=some .local:=hl
 refine wpAny_storeName_local hl' I0.toInCall.ns (fun h' hn' hs'=>?_) (by show (scope.kind==.class||_)=false;rw[hk];rfl)
 refine Zp ?_
 have I1:InCallC s s.heap.objs.size (fun y=>if y=n then some v else none) (cellsFrom (s.heap.objs.size+1) scope.names []) (fun _=>none) {s with heap:=h',toks:=s.toks+1}:=
  ⟨⟨⟨h',_,rfl⟩,hn',fun b o e=>hs'.extBut b o (Nat.ne_of_lt (Nat.lt_of_lt_of_le (Heap.lt_size e) I0.toInCall.fresh)) (I0.toInCall.keep b o e),I0.toInCall.fresh⟩,
   fun k c hc=>(I0.cell k c hc).sameBut hs' (Nat.ne_of_gt (I0.above k c (mem_of_lookup hc))),I0.apart,I0.above⟩
 refine aq (s:={s with heap:=h',toks:=s.toks+1}) (Nat.le_add_left 1 _) ?_
 refine wpAny_bindParams (s₀:=s) (env:=newEnv scope s.heap.objs.size globals (cellsFrom (s.heap.objs.size+1) scope.names []) qual func code none builtins) _ (fun _ _ _=>rfl) hk r _ _ _ _ I1 hkind fun s' x ht=>Zp (hQ _ rfl s' ht ?_)
 unfold bindL bindC
 rw[if_pos hl',if_pos hl'];exact x
theorem ij {prog:Program}{w:World}{A:Around}{s:Shared}{R:Result→Shared→Prop}{a:Addr}{o:Obj}{fd:FuncData}{body:List Stmt}{vals:List Value}{binds:List (Str×Value)}
  (hs:1≤s.toks∨∃n v r,binds=(n,v)::r∧fd.scope.names.lookup n=some .local)
  (hroom:A.depth<recursionLimit) (ho:s.heap.get? a=some o) (hdata:o.data=.func fd) (hlim:s.heap.NoLimit) (hcd:s.heap.CodeRec fd.code fd.qualname)
  (hbody:fd.body=.stmts body) (hbind:bindArgs fd ⟨vals,[]⟩=pure binds) (hclo:fd.closure=[])
  (hkind:∀x∈binds,fd.scope.names.lookup x.1=some .local∨(fd.scope.names.lookup x.1=some .cell∧((cellsFrom (s.heap.objs.size+1) fd.scope.names []).lookup x.1).isSome=true))
  (h:∀s₁,1≤s₁.toks→InCallC s (callEnvC fd s.heap.objs.size a).locals (bindL (callEnvC fd s.heap.objs.size a).kindOf binds fun _=>none) (callEnvC fd s.heap.objs.size a).cells
    (bindC (callEnvC fd s.heap.objs.size a).kindOf binds fun _=>none) s₁→
   wpAny (model prog w) (A.deeper (callEnvC fd s.heap.objs.size a)) (execs body (callEnvC fd s.heap.objs.size a)) (fun f s'=>R (.ok (.ret (match f with | .ret v=>v|_=>.none))) s')
    (fun e s'=>wpAny (model prog w) (A.deeper (callEnvC fd s.heap.objs.size a)) (leaving (callEnvC fd s.heap.objs.size a) e) (fun _ s''=>R (.error e) s'') (fun e' s''=>R (.error e') s'') s') s₁)
  (hco:fd.scope.isCoroutine=false) (hgen:fd.scope.isGenerator=false) (hk:fd.scope.kind=.function) :
  codeAny (model prog w) A (.call (.ref a) ⟨vals,[]⟩) R s:=by
 refine codeAny_call_function hroom ho hdata hco hgen hbody hcd ?_
 rw[hbind,hclo]
 rcases hs with hs|⟨n,v,r,rfl,hl⟩
 ·refine Zp (aq hs (wpAny_newFunctionEnv_cells hk hkind fun env he s' x=>?_))
  subst he
  exact fun ht=>⟨hlim.keeps x.toInCall.keep,codeAny_func (h s' ht x)⟩
 ·refine Zp (wr hk hl (fun x hx=>hkind x (.tail _ hx)) fun env he s' ht x=>?_)
  subst he
  exact⟨hlim.keeps x.toInCall.keep,codeAny_func (h s' ht x)⟩
def nH (prog:Program)(w:World)(hb:Heap)(d:Nat)(a:Addr)(spec:Spec):Prop:=
 ∀(A:Around),Room d A→∀(vs:List V) (ws:List Value) (c:aa) (α:Al) (s:Shared) (K:V→aa→Prop) (R:Result→Shared→Prop),
  Cst hb [] c α s.heap→IsVs c α s.heap vs ws→spec vs c K→
  (∀v c' α' g h' tk,K v c'→Cst hb [] c' α' h'→Le c α s.heap c' α' h'→IsV c' α' h' v g→R (.ok (.ret g)) {s with heap:=h',toks:=tk})→
  codeAny (model prog w) A (.call (.ref a) ⟨ws,[]⟩) R s
theorem ss {prog:Program}{w:World}{hb:Heap}{d:Nat}{a:Addr}{fd:FuncData}{body:List Stmt}{ps:List Str}(N:FnAt hb a fd body ps){spec:Spec}
  (h:∀(A:Around),Room d A→∀(L:Addr) (vs:List V) (c:aa) (K:V→aa→Prop),spec vs c K→EnvOk (callEnvC fd L a)→vs.length=ps.length∧
   OkS (model prog w) A hb (dom c) (callEnvC fd L a) ⟨ps.zip vs,c⟩ (execs body (callEnvC fd L a))
    (fun f τ=>(∀k∈dom c,k∈dom τ.c)∧K (match f with | .ret v=>v|_=>.d .none) τ.c)) :
  ∀(A:Around),Room (d+1) A→∀(vs:List V) (ws:List Value) (c:aa) (α:Al) (s:Shared) (K:V→aa→Prop) (R:Result→Shared→Prop),
  (1≤s.toks∨∃n r,ps=n::r∧fd.scope.names.lookup n=some .local)→Cst hb [] c α s.heap→IsVs c α s.heap vs ws→spec vs c K→
  (∀v c' α' g h' tk,K v c'→Cst hb [] c' α' h'→Le c α s.heap c' α' h'→IsV c' α' h' v g→R (.ok (.ret g)) {s with heap:=h',toks:=tk})→
  codeAny (model prog w) A (.call (.ref a) ⟨ws,[]⟩) R s:=by
 intro A r vs ws c α s K R hs C iv sp hR
 obtain⟨o,ho,hd⟩:=N.at_
 have base:=C.base
 have EO:EnvOk (callEnvC fd s.heap.objs.size a):=by
  have cel:∀x b,(callEnvC fd s.heap.objs.size a).cells.lookup x=some b→s.heap.objs.size+1≤b:=fun x b e=>by
   rcases dB _ _ _ x b (mem_of_lookup e) with h|h
   ·contradiction
   ·exact h
  have ok:=cellsFrom_ok fd.scope.names (s.heap.push {cls:=.type "frame",data:=.dict #[]}) (s.heap.objs.size+1) [] ⟨fun _ _ hm=>(nomatch hm),List.Pairwise.nil⟩ (by rw[Heap.size_push];exact Zv _)
  rw[Heap.size_push] at ok
  exact⟨N.kind,fun x b e q=>by have:=cel x b e;rw[q] at this;exact absurd this (Nat.not_succ_le_self _),fun x y b h1 h2=>name_of_addr ok.apart (mem_of_lookup h1) (mem_of_lookup h2),
   by show (fd.scope.kind==.module&&_)=false;rw[N.kind];rfl⟩
 obtain⟨hlen,hbody⟩:=h (A.deeper (callEnvC fd s.heap.objs.size a)) (r.deeper _) s.heap.objs.size vs c K sp EO
 have hwl:ws.length=ps.length:=by rw[←iv.length];exact hlen
 have hs':1≤s.toks∨∃n v r,ps.zip ws=(n,v)::r∧fd.scope.names.lookup n=some .local:=by
  rcases hs with hs|⟨n,r,rfl,hl⟩
  ·exact .inl hs
  ·cases ws with
   |nil=>contradiction
   |cons v ws=>exact .inr ⟨n,v,r.zip ws,rfl,hl⟩
 refine ij hs' r.room (base _ _ ho) hd (N.lim.keeps base) (N.code.keeps base) N.body (N.bind ws hwl) N.clo (fun x hx=>?_) (fun s₁ htk X=>?_) N.co N.gen N.kind
 ·rcases N.kinds x.1 (List.of_mem_zip (show (x.1,x.2)∈ps.zip ws from hx)).1 with h|⟨h,q⟩
  ·exact .inl h
  ·exact .inr ⟨h,q _⟩
 ·obtain⟨h₁,tk,rfl,kp⟩:=X.done
  obtain⟨C1,L1⟩:=C.keeps kp
  have hfr:∀b,FrA (callEnvC fd s.heap.objs.size a) b→s.heap.objs.size≤b:=by
   rintro b (rfl|⟨x,e⟩)
   ·exact Zv _
   ·exact Nat.le_of_lt (X.above x b (mem_of_lookup e))
  have hno:∀b,FrA (callEnvC fd s.heap.objs.size a) b→s.heap.get? b=none:=fun b f=>by
   cases e:s.heap.get? b with
   |none=>rfl
   |some o=>exact absurd (Heap.lt_size e) (Nat.not_lt_of_le (hfr b f))
  have F1:Fst hb (dom c) (callEnvC fd s.heap.objs.size a) (ps.zip vs) c α h₁:=by
   refine⟨⟨C1.base,C1.cell,C1.fresh,C1.inj,fun _ hk=>hk⟩,⟨_,X.toInCall.ns⟩,fun x b e=>?_,fun x v e=>?_,fun b f=>⟨?_,?_⟩⟩
   ·obtain⟨o,h1,h2⟩:=X.cell x b e;exact⟨o,_,h1,h2⟩
   ·obtain⟨g,hg,ig⟩:=q6 ps N.nd vs ws (L1.isVs iv) x v e
    refine⟨g,?_,ig⟩
    have hx:x∈ps:=by
     have:=mem_of_lookup hg
     exact (List.of_mem_zip (List.mem_reverse.mp this)).1
    rcases N.kinds x hx with hk|⟨hk,q⟩
    ·refine .loc _ hk X.toInCall.ns ?_
     rw[oS _ _ _ hk,hg]
    ·have hk':(callEnvC fd s.heap.objs.size a).kindOf x=some .cell:=hk
     obtain⟨b,hbb⟩:=Option.isSome_iff_exists.mp (q (s.heap.objs.size+1))
     obtain⟨o,h1,h2⟩:=X.cell x b hbb
     refine .cel b o hk' hbb h1 ?_
     rw[h2,oM _ _ _ (by rw[hk'];decide),hg]
   ·cases e:hb.get? b with
    |none=>rfl
    |some o=>have:=base _ _ e;rw[hno b f] at this;contradiction
   ·rintro⟨k,hk,e⟩
    obtain⟨q,hq⟩:=C.ex hk
    rw[e,hno b f] at hq;contradiction
  have:=hbody α {s with heap:=h₁,toks:=tk} (fun f s'=>R (.ok (.ret (match f with | .ret v=>v|_=>.none))) s') htk F1 (fun f τ α' g h' tk' htk' hK F' LS ig=>by
   obtain⟨hdom,hK⟩:=hK
   have LE:Le c α s.heap τ.c α' h':=by
    refine⟨hdom,LS.agree,fun b o e n=>LS.kept b o (kp b o e) (fun f=>by rw[hno b f] at e;contradiction) n,fun k hk=>?_⟩
    rcases LS.grow k hk with q|q
    ·exact .inl q
    ·refine .inr ?_
     cases e:s.heap.get? (α' k) with
     |none=>rfl
     |some o=>have q':h₁.get? (α' k)=none:=q;rw[kp _ _ e] at q';contradiction
   have C':Cst hb [] τ.c α' h':=⟨F'.base,F'.cell,F'.fresh,F'.inj,fun k hk=>by cases hk⟩
   cases f with
   |next=>(subst ig);exact hR (.d .none) τ.c α' .none h' tk' hK C' LE .none
   |brk=>(subst ig);exact hR (.d .none) τ.c α' .none h' tk' hK C' LE .none
   |cont=>(subst ig);exact hR (.d .none) τ.c α' .none h' tk' hK C' LE .none
   |ret v=>obtain⟨g',rfl,ig⟩:=ig;exact hR v τ.c α' g' h' tk' hK C' LE ig)
  exact Jq this (fun _ _ x=>x) (fun _ _ x=>x.elim)
theorem zf {prog:Program}{w:World}{hb:Heap}{d:Nat}{a:Addr}{fd:FuncData}{body:List Stmt}{ps:List Str}(N:FnAt hb a fd body ps){spec:Spec}
  (h:∀(A:Around),Room d A→∀(L:Addr) (vs:List V) (c:aa) (K:V→aa→Prop),spec vs c K→EnvOk (callEnvC fd L a)→vs.length=ps.length∧
   OkS (model prog w) A hb (dom c) (callEnvC fd L a) ⟨ps.zip vs,c⟩ (execs body (callEnvC fd L a))
    (fun f τ=>(∀k∈dom c,k∈dom τ.c)∧K (match f with | .ret v=>v|_=>.d .none) τ.c)) :
  FnOk prog w hb (d+1) a spec:=fun A r vs ws c α s K R hs C iv sp hR=>ss N h A r vs ws c α s K R (.inl hs) C iv sp hR
theorem xG {prog:Program}{w:World}{hb:Heap}{d:Nat}{a:Addr}{fd:FuncData}{body:List Stmt}{n:Str}{r:List Str}(N:FnAt hb a fd body (n::r))(hl:fd.scope.names.lookup n=some .local){spec:Spec}
  (h:∀(A:Around),Room d A→∀(L:Addr) (vs:List V) (c:aa) (K:V→aa→Prop),spec vs c K→EnvOk (callEnvC fd L a)→vs.length=(n::r).length∧
   OkS (model prog w) A hb (dom c) (callEnvC fd L a) ⟨(n::r).zip vs,c⟩ (execs body (callEnvC fd L a))
    (fun f τ=>(∀k∈dom c,k∈dom τ.c)∧K (match f with | .ret v=>v|_=>.d .none) τ.c)) :
  nH prog w hb (d+1) a spec:=fun A r' vs ws c α s K R C iv sp hR=>ss N h A r' vs ws c α s K R (.inr ⟨n,r,rfl,hl⟩) C iv sp hR
theorem aM {α:Type}{M:Model}{A:Around}{t:Sem α}{Q:α→Shared→Prop}{E:Value→Shared→Prop}{s:Shared}(h:wpAny M A t Q no s):wpAny M A t Q E s:=
 Jq h (fun _ _ x=>x) (fun _ _ x=>x.elim)
def vOk (c':aa):V→Prop
 | .obj k=>k∈dom c'
 |_=>True
def vW (c c':aa)(v v':V):Prop:=(v'=v∧vOk c' v)∨∃k xs,v=.obj k∧ae c k=some (.list xs)∧v'=.d (.lst xs)∧k∉dom c'
def mK (l:Loc)(c c':aa):Loc→Prop
 | []=>True
 | (x,v')::r=>(∃v,look l x=some v∧vW c c' v v')∧mK l c c' r
def fsW (c c':aa):List (Str×V)→List (Str×V)→Prop
 | [],[]=>True
 | (x,v)::r,(x',v')::r'=>x'=x∧vW c c' v v'∧fsW c c' r r'
 |_,_=>False
def oW (c c':aa)(o o':O):Prop:=
 match o,o' with
 | .list xs,.list xs'=>xs'=xs
 | .ns fs,.ns fs'=>fsW c c' fs fs'
 | .inst C dk,.inst C' dk'=>C'=C∧dk'=dk∧dk∈dom c'
 | .bound id k,.bound id' k'=>id'=id∧k'=k∧k∈dom c'
 |_,_=>False
def bX (c c':aa):aa→Prop
 | []=>True
 | (k,o')::r=>(∃o,ae c k=some o∧oW c c' o o')∧bX c c' r
structure Weak (pr:List Nat)(σ τ:Sg):Prop where
 l:mK σ.l σ.c τ.c τ.l
 c:bX σ.c τ.c τ.c
 pr:∀k∈pr,k∈dom τ.c
section
variable {hb h:Heap}{pr:List Nat}{env:Env}{α:Al}
theorem cF {c c':aa}:∀{r:aa},bX c c' r→∀k∈dom r,k∈dom c
 | [],_,k,hk=>by cases hk
 | (j,o)::r,h,k,hk=>by
  rcases Qy.mp hk with e|hk
  ·obtain⟨⟨o,ho,_⟩,_⟩:=h;simp only[e];exact ah ho
  ·exact cF h.2 k hk
theorem kU {c c':aa}:∀{r:aa},bX c c' r→∀k o',ae r k=some o'→∃o,ae c k=some o∧oW c c' o o'
 | [],_,k,o',e=>by contradiction
 | (j,u)::r,h,k,o',e=>by
  dsimp only[ae] at e
  by_cases q:j=k
  ·rw[if_pos q] at e;(injection e with e;subst e);rw[←q];exact h.1
  ·rw[if_neg q] at e;exact kU h.2 k o' e
theorem kJ {l:Loc}{c c':aa}:∀{r:Loc},mK l c c' r→∀x v',look r x=some v'→∃v,look l x=some v∧vW c c' v v'
 | [],_,x,v',e=>by contradiction
 | (y,u)::r,h,x,v',e=>by
  dsimp only[look] at e
  by_cases q:y=x
  ·rw[if_pos q] at e;(injection e with e;subst e);rw[←q];exact h.1
  ·rw[if_neg q] at e;exact kJ h.2 x v' e
theorem kR {c c':aa}:∀{fs fs':List (Str×V)},fsW c c' fs fs'→fs'.length=fs.length∧∀x,match look fs' x with
  |some v'=>∃v,look fs x=some v∧vW c c' v v'
  |none=>look fs x=none
 | [],[],_=>⟨rfl,fun x=>rfl⟩
 | (y,v)::r,(y',v')::r',h=>by
  obtain⟨e,hv,hr⟩:=h
  subst e
  obtain⟨h1,h2⟩:=kR hr
  refine⟨by simp[h1],fun x=>?_⟩
  dsimp only[look]
  by_cases q:y'=x
  ·rw[if_pos q,if_pos q];exact⟨v,rfl,hv⟩
  ·rw[if_neg q,if_neg q];exact h2 x
 | [],_::_,h=>h.elim
 |_::_,[],h=>h.elim
theorem jI {c c':aa}(hd:∀k∈dom c',k∈dom c){b:Addr}(o:ay c' α b):ay c α b:=by obtain⟨k,hk,e⟩:=o;exact⟨k,hd k hk,e⟩
theorem mZ (C:Cst hb pr c α h){c':aa}(hd:∀k∈dom c',k∈dom c){v v':V}{g:Value}(w:vW c c' v v')(i:IsV c α h v g):IsV c' α h v' g:=by
 rcases w with ⟨rfl,ok⟩|⟨k,xs,rfl,hk,rfl,hn⟩
 ·cases v' with
  |d x=>exact IsD.step (fun _ _ _ e _=>e) (fun b o=>.inl (jI hd o)) i
  |obj k=>exact⟨i.1,ok⟩
  |val u=>exact i
  |rng p q=>obtain⟨r,t,u,v,e,g,n⟩:=i;exact⟨r,t,u,v,e,g,fun o=>n (jI hd o)⟩
  |bi b=>exact i
  |mt e=>obtain⟨r,e,m⟩:=i;exact⟨r,e,m.step (fun _ _ _ e _=>e) (fun b o=>.inl (jI hd o))⟩
 ·obtain⟨ws,ep,g',r⟩:=C.cell k _ hk
  simp only[i.1]
  refine IsD.lst g' ?_ (r.step (fun _ _ _ e _=>e) (fun b o=>.inl (jI hd o)))
  rintro⟨j,hj,e⟩
  exact hn (C.inj j (hd j hj) k (ah hk) e▸hj)
theorem Weak.fst {σ τ:Sg}(W:Weak pr σ τ)(F:Fst hb pr env σ.l σ.c α h):Fst hb pr env τ.l τ.c α h:=by
 have hd:=cF W.c
 refine⟨⟨F.base,fun k o' e=>?_,fun k hk=>F.fresh k (hd k hk),fun k hk j hj=>F.inj k (hd k hk) j (hd j hj),W.pr⟩,F.ns,F.cel,fun x v' e=>?_,fun b f=>⟨(F.fr b f).1,fun o=>(F.fr b f).2 (jI hd o)⟩⟩
 ·obtain⟨o,ho,w⟩:=kU W.c k o' e
  have i:=F.cell k o ho
  cases o with
  |list xs=>cases o'<;>first|exact w.elim | (have w:_=xs:=w;subst w;obtain⟨ws,ep,g,r⟩:=i;exact⟨ws,ep,g,r.step (fun _ _ _ e _=>e) (fun b o=>.inl (jI hd o))⟩)
  |ns fs=>
   cases o' with
   |ns fs'=>
    refine aG fun G9 back9=>?_;obtain⟨q,es,ep,g,hd',sk,sz,f⟩:=i;refine back9 ?_
    obtain⟨h1,h2⟩:=kR (show fsW σ.c τ.c fs fs' from w)
    refine⟨q,es,ep,g,hd',sk,by simp only[h1];exact sz,fun x=>?_⟩
    have a:=f x
    have b:=h2 x
    cases hl:look fs' x with
    |none=>simp only[hl] at b;rw[b] at a;exact a
    |some v'=>
     simp only[hl] at b
     obtain⟨v,hv,hw⟩:=b
     simp only[hv] at a
     obtain⟨u,hu,iu⟩:=a
     exact⟨u,hu,mZ F.toCst hd hw iu⟩
   |_=>exact w.elim
  |inst C dk=>cases o'<;>first|exact w.elim | (obtain⟨rfl,rfl,w⟩:=(show _=C∧_=dk∧dk∈dom τ.c from w);exact⟨i.1,w⟩)
  |bound id k=>cases o'<;>first|exact w.elim | (obtain⟨rfl,rfl,w⟩:=(show _=id∧_=k∧k∈dom τ.c from w);exact⟨i.1,w⟩)
 ·obtain⟨v,hv,w⟩:=kJ W.l x v' e
  obtain⟨g,H,i⟩:=F.loc x v hv
  exact⟨g,H,mZ F.toCst hd w i⟩
theorem Weak.leS {σ τ:Sg}(W:Weak pr σ τ){c₀:aa}{α₀:Al}{h₀:Heap}(L:LeS pr env c₀ α₀ h₀ σ.c α h):LeS pr env c₀ α₀ h₀ τ.c α h:=
 ⟨L.agree,L.kept,fun k hk=>L.grow k (cF W.c k hk)⟩
end
section
variable {prog:Program}{w:World}{A:Around}{hb:Heap}{pr:List Nat}{env:Env}
theorem LeS.isD {l:Loc}{c c':aa}{α α':Al}{h h':Heap}(F:Fst hb pr env l c α h)(L:LeS pr env c α h c' α' h'){d:D}{g:Value}(i:IsD h (ay c α) d g):IsD h' (ay c' α') d g:=by
 refine i.step (fun b o hz e n=>L.kept b o e (fun f=>aN F f o hz e) n) (fun b ⟨k,hk,e⟩=>e▸L.grow k hk)
theorem sw {σ:Sg}{test:Expr}{body orelse:List Stmt}{pos:Pos}{K:F→Sg→Prop}(I:Nat→Sg→Prop)(k:Nat)(h0:I k σ)
  (turn:∀k τ,I k τ→OkE (model prog w) A hb pr env (fun _ _ _ b g=>g=b) τ.l τ.c (isTrue test env (eval test env)) (fun b c'=>
   (b=true→OkS (model prog w) A hb pr env ⟨τ.l,c'⟩ (execs body env) (fun f υ=>match f with
    | .next | .cont=>∃k' υ',k'<k∧Weak pr υ υ'∧I k' υ'
    | .brk=>K .next υ
    | .ret v=>K (.ret v) υ))∧
   (b=false→OkS (model prog w) A hb pr env ⟨τ.l,c'⟩ (execs orelse env) K))) :
  OkS (model prog w) A hb pr env σ (exec (.While test body orelse pos) env) K:=by
 intro α s Q hs F0 hq
 refine wpAny_While (codeAny_whileLoop (fun k s'=>∃τ α' h' tk,s'={s with heap:=h',toks:=tk}∧1≤tk∧I k τ∧Fst hb pr env τ.l τ.c α' h'∧LeS pr env σ.c α s.heap τ.c α' h') ?_ k ⟨σ,α,s.heap,s.toks,rfl,hs,h0,F0,.refl ..⟩)
 rintro k s' ⟨τ,α',h',tk,rfl,htk,hI,F,L⟩
 refine aM (turn k τ hI α' _ _ htk F fun b c1 α1 g h1 tk1 htk1 hK F1 L1 e=>?_)
 subst e
 have L01:=L.trans (L1.leS F.toCst) (fun b f=>(F1.fr b f).2)
 cases g with
 |true=>
  simp only[if_pos rfl]
  refine aM (hK.1 rfl α1 _ _ htk1 F1 fun f υ α2 g2 h2 tk2 htk2 hK2 F2 L2 ig=>?_)
  have L02:=L01.trans L2 (fun b f=>(F2.fr b f).2)
  cases f with
  |next=>(subst ig);obtain⟨k',υ',hk',W,hI'⟩:=hK2;exact⟨k',hk',υ',α2,h2,tk2,rfl,htk2,hI',W.fst F2,W.leS L02⟩
  |cont=>(subst ig);obtain⟨k',υ',hk',W,hI'⟩:=hK2;exact⟨k',hk',υ',α2,h2,tk2,rfl,htk2,hI',W.fst F2,W.leS L02⟩
  |brk=>(subst ig);exact hq .next υ α2 .next h2 tk2 htk2 hK2 F2 L02 rfl
  |ret v=>obtain⟨u,rfl,iu⟩:=ig;exact hq (.ret v) υ α2 (.ret u) h2 tk2 htk2 hK2 F2 L02 ⟨u,rfl,iu⟩
 |false=>
  rw[if_neg (by decide)]
  refine aM (hK.2 rfl α1 _ _ htk1 F1 fun f υ α2 g2 h2 tk2 htk2 hK2 F2 L2 ig=>?_)
  exact hq f υ α2 g2 h2 tk2 htk2 hK2 F2 (L01.trans L2 (fun b f=>(F2.fr b f).2)) ig
noncomputable def bS (a b:Int):List D:=(List.range (b-a).toNat).map fun i=>D.int (a+(i:Nat))
noncomputable def bw:V→Option (List D)
 | .d (.lst xs)=>some xs
 | .d (.tup xs)=>some xs
 | .rng a b=>some (bS a b)
 |_=>none
def lJ (prog:Program)(w:World)(s:Shared)(c:aa)(α:Al)(xs:List D)(I:Addr)(h1:Heap):Prop:=
 ∃fp P St,(∀A':Around,A'.handled=none→Walks prog w A' I fp [I] xs.length P St)∧St 0 h1∧(∀i h,St i h→(∃o,h.get? I=some o)∧∀o,cv o=true→h.get? I≠some o)∧
  (∀b∈fp,b=I∨∃o,cv o=true∧s.heap.get? b=some o∧¬ay c α b)∧(∀i u,P i u→∀d,xs[i]?=some d→IsD s.heap (ay c α) d u)
def cC:V→Prop
 | .rng a b=>-1048576≤a∧a≤1048576∧-1048576≤b∧b≤1048576
 |_=>True
theorem rW {I a:Addr}{Y:Addr→Prop}(ha:Y a):∀b∈[I,a],b=I∨Y b:=fun b hb=>(Qy.mp hb).imp id fun q=>by rw[List.mem_singleton.mp q];exact ha
theorem q8 {h:Heap}{own:Addr→Prop}{xs:List D}{ws:List Value}(r:IsDs h own xs ws){i:Nat}{u:Value}(hP:ws.toArray[i]?=some u)(d:D)(hd:xs[i]?=some d):IsD h own d u:=by
 obtain⟨w,hw,iw⟩:=r.get i d hd
 have:some w=some u:=by rw[←hw,←hP];simp
 exact Option.some.inj this▸iw
theorem ry {h:Heap}{I:Addr}{o:Obj}{T:String}(hT:(Value.type T==.type "range" || Value.type T==.type "re.Match")=false) (ho:h.get? I=some o) (hc:o.cls=.type T) {fs:Array Value} (hd:o.data=.fields fs):(∃o,h.get? I=some o)∧∀o,cv o=true→h.get? I≠some o:=by
 refine⟨⟨o,ho⟩,fun o' hz e=>?_⟩
 obtain rfl:=Option.some.inj (ho.symm.trans e)
 unfold cv at hz
 rw[hd] at hz
 have hz:(o.cls==.type "range" || o.cls==.type "re.Match")=true:=hz
 rw[hc,hT] at hz;contradiction
section
variable {c:aa}{α:Al}{s:Shared}{Q:Value→Shared→Prop}
theorem qj {a:Addr}{ws:List Value}{ep:Nat}{xs:List D}(g:s.heap.get? a=some (bq "list" ws ep)) (n:¬ay c α a) (r:IsDs s.heap (ay c α) xs ws) (hq:∀o,lJ prog w s c α xs s.heap.objs.size (s.heap.push o)→Q (.ref s.heap.objs.size) {s with heap:=s.heap.push o}):wpAny (model prog w) A (pyIter (.ref a)) Q no s:=by
 have hl:s.heap.IsList a ws.toArray:=⟨_,g,rfl,_,rfl⟩
 have hsz:ws.toArray.size=xs.length:=by rw[Xq,←r.length]
 exact wpAny_pyIter_list hl (hq _ ⟨_,_,_,fun A' hh=>hsz▸Walks.list hh s.heap.objs.size a (Nat.ne_of_lt (Heap.lt_size g)) ws.toArray,⟨⟨_,Xj _ rfl,rfl,rfl⟩,hl.push _⟩,
  fun i h ⟨⟨o,ho,hc,hd⟩,_⟩=>ry (by decide) ho hc hd,rW ⟨_,rfl,g,n⟩,fun i u hP d hd=>q8 r hP d hd⟩)
theorem sj {a:Addr}{ws:List Value}{ep:Nat}{xs:List D}(g:s.heap.get? a=some (bq "tuple" ws ep)) (n:¬ay c α a) (r:IsDs s.heap (ay c α) xs ws) (hq:∀o,lJ prog w s c α xs s.heap.objs.size (s.heap.push o)→Q (.ref s.heap.objs.size) {s with heap:=s.heap.push o}):wpAny (model prog w) A (pyIter (.ref a)) Q no s:=by
 have hl:s.heap.IsTuple a ws.toArray:=⟨_,g,rfl,_,rfl⟩
 have hsz:ws.toArray.size=xs.length:=by rw[Xq,←r.length]
 exact wpAny_pyIter_tuple hl (hq _ ⟨_,_,_,fun A' hh=>hsz▸Walks.tuple hh s.heap.objs.size a (Nat.ne_of_lt (Heap.lt_size g)) ws.toArray,⟨⟨_,Xj _ rfl,rfl,rfl⟩,⟨_,Xz _ g,rfl,_,rfl⟩⟩,
  fun i h ⟨⟨o,ho,hc,hd⟩,_⟩=>ry (by decide) ho hc hd,rW ⟨_,rfl,g,n⟩,fun i u hP d hd=>q8 r hP d hd⟩)
end
theorem jf {c:aa}{α:Al}{s:Shared}(C:Cst hb pr c α s.heap){v:V}{g:Value}{xs:List D}(e:bw v=some xs)(sm:cC v)(i:IsV c α s.heap v g){Q:Value→Shared→Prop}
  (hq:∀o,lJ prog w s c α xs s.heap.objs.size (s.heap.push o)→Q (.ref s.heap.objs.size) {s with heap:=s.heap.push o}):wpAny (model prog w) A (pyIter g) Q no s:=by
 cases v with
 |d x=>
  have i:=IsD.inv i
  cases x with
  |lst ys=>obtain rfl:=Option.some.inj e;obtain⟨ws,a,ep,rfl,g,n,r⟩:=i;exact qj g n r hq
  |tup ys=>obtain rfl:=Option.some.inj e;obtain⟨ws,a,ep,rfl,g,n,r⟩:=i;exact sj g n r hq
  |_=>contradiction
 |rng a b=>
  (injection e with e;subst e)
  obtain⟨r,t,u,v,rfl,g,n⟩:=i
  have hlen:(bS a b).length=(b-a).toNat:=by simp[bS]
  have e1:Builtin.Range.rangeSize a b 1=(((bS a b).length:Nat):Int):=by rw[hlen,rangeSize_one];split<;>omega
  have sm:-1048576≤a∧a≤1048576∧-1048576≤b∧b≤1048576:=sm
  refine wpAny_pyIter_range g (small_one (by omega) (by omega) (by omega) (by omega)) (hq _ ?_)
  refine⟨_,_,_,fun A' hh=>Walks.range hh s.heap.objs.size a 1 (bS a b).length,?_,?_,?_,?_⟩
  ·show (s.heap.push {cls:=.type "range_iterator",data:=.fields #[rawInt a,rawInt (Builtin.Range.rangeSize a b 1),rawInt 1]}).get? s.heap.objs.size=some _
   rw[e1,Xj _ rfl]
   simp
  ·intro i h st
   have st':h.get? s.heap.objs.size=some _:=st
   exact ry (T:="range_iterator") (by decide) st' rfl rfl
  ·intro b hb'
   exact .inl (List.mem_singleton.mp hb')
  ·rintro i u ⟨t,rfl⟩ d hd
   have:d=.int (a+(i:Nat)):=by
    unfold bS at hd
    rw[Xy] at hd
    obtain⟨j,hj,rfl⟩:=Option.map_eq_some_iff.mp hd
    obtain⟨hlt,rfl⟩:=Qw.mp hj
    simp
   simp only[this,Int.mul_one];exact .int _ _
 |_=>contradiction
def lc (env:Env)(x:Str):Prop:=env.kindOf x=some .local∨(env.kindOf x=some .cell∧∃b,env.cells.lookup x=some b)
theorem xH (EO:EnvOk env)(hh:A.handled=none){l:Loc}{c:aa}{x:Str}{px pos:Pos}{iter:Expr}{body:List Stmt}{K:F→Sg→Prop}(hx:lc env x)
  (hfold:∀v,foldedSetIterable iter env v=pure v)
  (hi:OkE (model prog w) A hb pr env IsV l c (eval iter env) (fun v c1=>cC v∧∃xs,bw v=some xs∧∃I:Nat→Sg→Prop,I 0 ⟨l,c1⟩∧
   (∀i d τ,xs[i]?=some d→I i τ→OkS (model prog w) A hb pr env ⟨put τ.l x (.d d),τ.c⟩ (execs body env) (fun f υ=>match f with
    | .next | .cont=>∃υ',Weak pr υ υ'∧I (i+1) υ'
    | .brk=>K .next υ
    | .ret v=>K (.ret v) υ))∧∀τ,I xs.length τ→K .next τ)) :
  OkS (model prog w) A hb pr env ⟨l,c⟩ (exec (.For (.Name x px) iter body [] pos) env) K:=by
 intro α s Q hs F0 hq
 refine wpAny_For (hi α s _ hs F0 fun v c1 α1 g h1 tk1 htk1 hK F1 L1 iv=>?_) hfold
 refine aG fun G9 back9=>?_;obtain⟨sm,xs,hxs,I,hI0,turn,fin⟩:=hK;refine back9 ?_
 refine jf (s:={s with heap:=h1,toks:=tk1}) F1.toCst hxs sm iv (fun o pk=>?_)
 refine aG fun G9 back9=>?_;obtain⟨fp,P,St,W,st0,hns,hfp,hP⟩:=pk;refine back9 ?_
 obtain⟨F2,L2⟩:=F1.push o
 have hI1:h1.get? h1.objs.size=none:=by
  cases e:h1.get? h1.objs.size with
  |none=>rfl
  |some o'=>exact absurd (Heap.lt_size e) (Nat.lt_irrefl _)
 have LS1:=L1.leS (env:=env) F0.toCst
 have LS2:LeS pr env c1 α1 h1 c1 α1 (h1.push o):=L2.leS F1.toCst
 have nfI:¬FrA env h1.objs.size:=fun f=>by
  rcases f with f|⟨y,f⟩
  ·obtain⟨m,hm⟩:=F1.ns;exact absurd hm.lt (by rw[←f];exact Nat.lt_irrefl _)
  ·obtain⟨o,v,ho,_⟩:=F1.cel y _ f;rw[hI1] at ho;contradiction
 have nbI:hb.get? h1.objs.size=none:=by
  cases e:hb.get? h1.objs.size with
  |none=>rfl
  |some o'=>rw[F1.base _ _ e] at hI1;contradiction
 refine codeAny_forLoop (fun k s'=>∃(i:Nat) (τ:Sg) (α':Al) (h':Heap) (tk:Nat),s'={s with heap:=h',toks:=tk}∧1≤tk∧k=xs.length+1-i∧i≤xs.length∧I i τ∧Fst hb pr env τ.l τ.c α' h'∧
   LeS pr env c1 α1 h1 τ.c α' h'∧¬ay τ.c α' h1.objs.size∧St i h') ?_ (xs.length+1) ⟨0,⟨l,c1⟩,α1,h1.push o,tk1,rfl,htk1,rfl,Zj _,hI0,F2,LS2,be F1.toCst,st0⟩
 rintro k s' ⟨i,τ,α',h',tk,rfl,htk,rfl,hle,hI,F,L,noI,st⟩
 obtain⟨⟨oI,hoI⟩,hnz⟩:=hns i h' st
 have L0:∀{c':aa} {α':Al} {h':Heap} {l':Loc},Fst hb pr env l' c' α' h'→LeS pr env c1 α1 h1 c' α' h'→LeS pr env c α s.heap c' α' h':=fun F' L'=>
  LS1.trans L' (fun b f=>(F'.fr b f).2)
 by_cases hlt:i<xs.length
 ·refine aq htk (aM ((W A hh).item i _ _ no hlt st fun v h2 tk2 hPv st2 hk2=>?_))
  intro htk2
  have ks:∀a o,a≠h1.objs.size→h'.get? a=some o→h2.get? a=some o:=fun a o n e=>hk2 a o (by simpa using n) e
  have F3:Fst hb pr env τ.l τ.c α' h2:=Fst.but hnz ks F noI nfI nbI
  have L3:LeS pr env c1 α1 h1 τ.c α' h2:=⟨L.agree,fun b o' e nf n=>ks b o' (fun q=>by rw[q,hI1] at e;contradiction) (L.kept b o' e nf n),L.grow⟩
  have hd:xs[i]?=some xs[i]:=Qk hlt
  have iv:IsV τ.c α' h2 (.d xs[i]) v:=L3.isD F1 (hP i v hPv _ hd)
  refine Jv (aq htk2 (aM (lC (s:={s with heap:=h2,toks:=tk2}) EO F3 hx iv fun h3 tk3 F4 L4=>?_)))
  intro htk3
  refine aM (turn i _ τ hd hI α' _ _ htk3 F4 fun f υ α5 g5 h5 tk5 htk5 hK5 F5 L5 ig=>?_)
  have L05:LeS pr env c1 α1 h1 υ.c α5 h5:=(L3.trans L4 (fun b f=>(F4.fr b f).2)).trans L5 (fun b f=>(F5.fr b f).2)
  obtain⟨⟨o2,ho2⟩,_⟩:=hns (i+1) h2 st2
  have hI4:∀q,h2.get? h1.objs.size=some q→h3.get? h1.objs.size=some q:=fun q e=>L4.kept _ _ e nfI noI
  have noI5:¬ay υ.c α5 h1.objs.size:=by
   rintro⟨j,hj,e⟩
   rcases L5.grow j hj with q|q
   ·simp only[e] at q;exact noI q
   ·rw[e] at q
    have q:h3.get? h1.objs.size=none:=q
    rw[hI4 _ ho2] at q;contradiction
  have st5:St (i+1) h5:=by
   refine (W A hh).frame _ h2 h5 st2 fun b hb' o' e=>?_
   have nf:¬FrA env b:=by
    rcases hfp b hb' with rfl|⟨o₁,hz,g,n⟩
    ·exact nfI
    ·exact fun f=>aN F1 f o₁ hz g
   have nn:¬ay τ.c α' b:=by
    rcases hfp b hb' with rfl|⟨o₁,hz,g,n⟩
    ·exact noI
    ·rintro⟨j,hj,e'⟩
     rcases L.grow j hj with q|q
     ·simp only[e'] at q;exact n q
     ·simp only[e',g] at q;contradiction
   exact L5.kept b o' (L4.kept b o' e nf nn) nf nn
  cases f with
  |next=>
   (subst ig);obtain⟨υ',W',hI'⟩:=hK5
   exact⟨_,by exact R10 hlt,i+1,υ',α5,h5,tk5,rfl,htk5,rfl,hlt,hI',W'.fst F5,W'.leS L05,fun q=>noI5 (jI (cF W'.c) q),st5⟩
  |cont=>
   (subst ig);obtain⟨υ',W',hI'⟩:=hK5
   exact⟨_,by exact R10 hlt,i+1,υ',α5,h5,tk5,rfl,htk5,rfl,hlt,hI',W'.fst F5,W'.leS L05,fun q=>noI5 (jI (cF W'.c) q),st5⟩
  |brk=>(subst ig);exact hq .next υ α5 .next h5 tk5 htk5 hK5 F5 (L0 F5 L05) rfl
  |ret v=>obtain⟨u,rfl,iu⟩:=ig;exact hq (.ret v) υ α5 (.ret u) h5 tk5 htk5 hK5 F5 (L0 F5 L05) ⟨u,rfl,iu⟩
 ·have hin:i=xs.length:=R9 hle hlt
  subst hin
  refine aq htk (aM ((W A hh).done _ _ no st fun h2 tk2 hk2=>?_))
  intro htk2
  have ks:∀a o,a≠h1.objs.size→h'.get? a=some o→h2.get? a=some o:=fun a o n e=>hk2 a o (by simpa using n) e
  have F3:Fst hb pr env τ.l τ.c α' h2:=Fst.but hnz ks F noI nfI nbI
  have L3:LeS pr env c1 α1 h1 τ.c α' h2:=⟨L.agree,fun b o' e nf n=>ks b o' (fun q=>by simp only[q,hI1] at e;contradiction) (L.kept b o' e nf n),L.grow⟩
  exact wpAny_execs_nil (hq .next τ α' .next h2 tk2 htk2 (fin τ hI) F3 (L0 F3 L3) rfl)
end
theorem me {env:Env}(names:List (Str×NameKind)):∀(acc:List (Str×Addr)),(∀y,(y,NameKind.free)∈names→∃b,env.cells.lookup y=some b)→(∀y b,acc.lookup y=some b→env.cells.lookup y=some b)→
  ∃cl,(forIn names acc (fun (x:Str×NameKind) r=>if (x.2==NameKind.free)=true then cellOf env x.1>>=fun a=>pure (ForInStep.yield ((x.1,a)::r)) else pure (ForInStep.yield r)):Sem (List (Str×Addr)))=pure cl∧
   (∀y b,cl.lookup y=some b→env.cells.lookup y=some b)∧(∀y,(y,NameKind.free)∈names∨(acc.lookup y).isSome=true→(cl.lookup y).isSome=true):=by
 induction names with
 |nil=>exact fun acc _ h=>⟨acc,rfl,h,fun y q=>q.elim (fun q=>(List.not_mem_nil q).elim) id⟩
 |cons p r ih=>
  obtain⟨n,k⟩:=p
  intro acc hf h
  rw[List.forIn_cons]
  by_cases hk:(k==NameKind.free)=true
  ·obtain rfl:=beq_iff_eq.mp hk
   obtain⟨b,hb⟩:=hf n (.head _)
   have e:cellOf env n=pure b:=by unfold cellOf;rw[hb]
   obtain⟨cl,h1,h2,h3⟩:=ih ((n,b)::acc) (fun y hy=>hf y (.tail _ hy)) (fun y b' q=>by
    rw[Zq] at q
    cases hy:y==n with
    |true=>rw[hy] at q;rw[beq_iff_eq.mp hy,hb];exact q
    |false=>rw[hy] at q;exact h y b' q)
   refine⟨cl,?_,h2,fun y q=>h3 y ?_⟩
   ·simp only[e]
    exact h1
   ·rcases q with q|q
    ·rcases Qy.mp q with q|q
     ·injection q with q _;subst q;right;simp
     ·exact .inl q
    ·right
     rw[Zq]
     cases hy:y==n with
     |true=>rfl
     |false=>exact q
  ·obtain⟨cl,h1,h2,h3⟩:=ih acc (fun y hy=>hf y (.tail _ hy)) h
   refine⟨cl,by dsimp only;rw[if_neg hk];exact h1,h2,fun y q=>h3 y (q.imp (fun q=>?_) id)⟩
   rcases Qy.mp q with q|q
   ·injection q with _ q;subst q;exact absurd rfl hk
   ·exact q
theorem lK {scope:Scope}{env:Env}(hf:∀y,(y,NameKind.free)∈scope.names→∃b,env.cells.lookup y=some b) :
  ∃cl,closureFor scope env=pure cl∧(∀y b,cl.lookup y=some b→env.cells.lookup y=some b)∧(∀y,(y,NameKind.free)∈scope.names→(cl.lookup y).isSome=true):=by
 obtain⟨cl,h1,h2,h3⟩:=me scope.names [] hf (fun y b q=>by contradiction)
 refine⟨cl,?_,h2,fun y hy=>h3 y (.inl hy)⟩
 unfold closureFor
 refine Eq.trans ?_ (congrArg (fun (t:Sem (List (Str×Addr)))=>t>>=pure) h1)
 rfl
noncomputable def ba (scope:Scope)(l:Loc):Loc:=l.filter fun p=>scope.names.lookup p.1==some .free
theorem dD {β:Type}{q:Str×β→Bool}(hq:∀x u v,q (x,u)=q (x,v)):∀(l:List (Str×β)) (x:Str) (v:β),look (l.filter q) x=some v→look l x=some v∧q (x,v)=true
 | [],_,_,h=>by cases h
 | (y,u)::r,x,v,h=>by
  rw[List.filter_cons] at h
  by_cases hy:q (y,u)=true
  ·rw[if_pos hy] at h
   simp only[look] at h ⊢
   by_cases e:y=x
   ·rw[if_pos e] at h ⊢;cases h;exact⟨rfl,by rw[←e];exact hy⟩
   ·rw[if_neg e] at h ⊢;exact dD hq r x v h
  ·rw[if_neg hy] at h
   obtain⟨h1,h2⟩:=dD hq r x v h
   dsimp only[look]
   have:y≠x:=fun e=>hy (by rw[e,hq x u v];exact h2)
   rw[if_neg this];exact⟨h1,h2⟩
theorem cw {scope:Scope}{l:Loc}{x:Str}{v:V}(h:look (ba scope l) x=some v):look l x=some v∧scope.names.lookup x=some .free:=by
 obtain⟨h1,h2⟩:=dD (fun _ _ _=>rfl) l x v h
 exact⟨h1,beq_iff_eq.mp h2⟩
theorem cs {env:Env}(hk:env.scope.kind=.function):∀{names:List (Str×NameKind)} {x:Str},names.lookup x=some .free→env.kindOf x=some .cell→
  (names.map fun (n,k)=>if (k==NameKind.free&&env.scope.kind==.function&&env.kindOf n==some .cell) then (n,NameKind.cell) else (n,k)).lookup x=some .cell
 | [],_,h,_=>by simp at h
 | (n,k)::r,x,h,he=>by
  have ih:=@cs env hk r x
  show List.lookup x ((if (k==NameKind.free&&env.scope.kind==.function&&env.kindOf n==some .cell)=true then (n,NameKind.cell) else (n,k))::_)=_
  cases hx:x==n with
  |true=>
   simp only[Zq,hx] at h
   (injection h with h;subst h)
   have:x=n:=beq_iff_eq.mp hx
   subst this
   rw[if_pos (by rw[hk,he];rfl)]
   simp
  |false=>
   simp only[Zq,hx] at h
   by_cases hc:(k==NameKind.free&&env.scope.kind==.function&&env.kindOf n==some .cell)=true
   ·rw[if_pos hc];simp only[Zq,hx];exact ih h he
   ·rw[if_neg hc];simp only[Zq,hx];exact ih h he
structure ScopeOk (scope:Scope)(x:Str)(env:Env):Prop where
 cell:∀y∈scope.names,y.2≠.cell
 kind:scope.kind=.function
 names:∀y∈scope.names,y.2=.local→scope.names.lookup y.1=some .local
 x:scope.names.lookup x=some .local
 free:∀y,(y,NameKind.free)∈scope.names→env.kindOf y=some .cell∧∃b,env.cells.lookup y=some b
theorem d0 {c:aa}{k:Nat}{o:O}(hk:k∉dom c)(o':O):cset (c++[(k,o)]) k o'=c++[(k,o')]:=by
 induction c with
 |nil=>show (if k=k then _ else _)=_;rw[if_pos rfl];rfl
 |cons p r ih=>
  obtain⟨j,u⟩:=p
  have h1:j≠k:=fun e=>hk (e▸.head _)
  have h2:k∉dom r:=fun e=>hk (.tail _ e)
  show (if j=k then _ else (j,u)::cset (r++[(k,o)]) k _)=_
  rw[if_neg h1,ih h2];rfl
section
variable {prog:Program}{w:World}{A:Around}{hb:Heap}{pr:List Nat}{env:Env}
abbrev okB:aa→Al→Heap→Bool→Bool→Prop:=fun _ _ _ b g=>g=b
theorem rc (EO:EnvOk env){scope:Scope}{x:Str}(SO:ScopeOk scope x env){cl:List (Str×Addr)}{C:Addr}(h2:∀y b,cl.lookup y=some b→env.cells.lookup y=some b)(hC:∀y b,env.cells.lookup y=some b→b≠C):EnvOk (compEnvC scope cl C env):=
 ⟨SO.kind,fun y b e=>hC y b (h2 y b e),fun y z b e1 e2=>EO.one y z b (h2 y b e1) (h2 z b e2),by show (scope.kind==.module&&_)=false;rw[SO.kind];rfl⟩
def CompI (prog:Program)(w:World)(A:Around)(hb:Heap)(pr:List Nat)(env:Env)(l:Loc)(x:Str)(elt:Expr)(ifs:List Expr)(scope:Scope)(kk:Nat)(v:V)(c1:aa)(K:V→aa→Prop):Prop:=
 cC v∧∃xs,bw v=some xs∧xs.length≤big∧kk∉dom c1∧∃I:Nat→List D→aa→Prop,I 0 [] c1∧
  (∀i d acc c',xs[i]?=some d→I i acc c'→kk∉dom c'∧∀cl C,EnvOk (compEnvC scope cl C env)→
   OkE (model prog w) A hb pr (compEnvC scope cl C env) okB (put (ba scope l) x (.d d)) (c'++[(kk,.list acc)])
    (forIn ifs true fun c r=>if r=true then do let ok ←isTrue c (compEnvC scope cl C env) (eval c (compEnvC scope cl C env));pure (ForInStep.yield ok) else pure (ForInStep.yield r)) (fun b c2=>
     (b=true→OkE (model prog w) A hb pr (compEnvC scope cl C env) IsV (put (ba scope l) x (.d d)) c2 (eval elt (compEnvC scope cl C env)) (fun v c3=>∃d' c4,v=.d d'∧c3=c4++[(kk,.list acc)]∧kk∉dom c4∧I (i+1) (acc++[d']) c4))∧
     (b=false→∃c4,c2=c4++[(kk,.list acc)]∧kk∉dom c4∧I (i+1) acc c4)))∧
  (∀acc c',I xs.length acc c'→kk∉dom c'∧bX (c'++[(kk,.list acc)]) c' c'∧K (.d (.lst acc)) c')
theorem gM (h:Heap):h.get? h.objs.size=none:=by
 cases e:h.get? h.objs.size with
 |none=>rfl
 |some o'=>exact absurd (Heap.lt_size e) (Nat.lt_irrefl _)
theorem jP {h h':Heap}{b:Addr}(k:∀o,h.get? b=some o→h'.get? b=some o)(q:h'.get? b=none):h.get? b=none:=by
 cases e:h.get? b with
 |none=>rfl
 |some o=>exact (nos q (k o e)).elim
theorem cZ {l:Loc}{c:aa}{α:Al}{h:Heap}(F:Fst hb pr env l c α h){b:Addr}(q:h.get? b=none):¬FrA env b∧¬ay c α b:=by
 refine⟨fun f=>?_,fun ⟨j,hj,e⟩=>?_⟩
 ·rcases f with f|⟨y,f⟩
  ·obtain⟨m,o,es,ep,e,_⟩:=F.ns;rw[←f] at e;exact nos q e
  ·obtain⟨o,v,ho,_⟩:=F.cel y _ f;exact nos q ho
 ·obtain⟨o,ho⟩:=F.toCst.ex hj;rw[e] at ho;exact nos q ho
structure CQ (hb:Heap)(pr:List Nat)(env:Env)(l:Loc)(c1:aa)(α1:Al)(h1:Heap)(kk:Nat)(C J:Addr)(c':aa)(acc:List D)(α':Al)(h':Heap):Prop where
 F:Fst hb pr env l (c'++[(kk,.list acc)]) α' h'
 L:Le c1 α1 h1 (c'++[(kk,.list acc)]) α' h'
 nC:¬ay (c'++[(kk,.list acc)]) α' C
 ns:∃m,h'.Ns C m
 at_:α' kk=J
 no:kk∉dom c'
structure CP (hb:Heap)(pr:List Nat)(env:Env)(l:Loc)(c1:aa)(α1:Al)(h1:Heap)(kk:Nat)(C J I:Addr)(St:Nat→Heap→Prop)(i:Nat)(c':aa)(acc:List D)(α':Al)(h':Heap):Prop where
 q:CQ hb pr env l c1 α1 h1 kk C J c' acc α' h'
 nI:¬ay (c'++[(kk,.list acc)]) α' I
 st:St i h'
structure CF (prog:Program)(w:World)(A:Around)(hb:Heap)(env:Env)(c1:aa)(α1:Al)(h1:Heap)(C I:Addr)(fp:List Addr)(n:Nat)(P:Nat→Value→Prop)(St:Nat→Heap→Prop):Prop where
 W:Walks prog w A I fp [I] n P St
 ex:∀i h,St i h→(∃o,h.get? I=some o)∧∀o,cv o=true→h.get? I≠some o
 fp_:∀b∈fp,b=I∨∃o,cv o=true∧h1.get? b=some o∧¬ay c1 α1 b
 C1:h1.get? C=none
 I1:h1.get? I=none
 fC:¬FrA env C
 fI:¬FrA env I
 bC:hb.get? C=none
 bI:hb.get? I=none
 IC:I≠C
section
variable {l:Loc}{c1:aa}{α1:Al}{h1:Heap}{kk:Nat}{C J I:Addr}{fp:List Addr}{nn i j:Nat}{P:Nat→Value→Prop}{St:Nat→Heap→Prop}{c':aa}{acc:List D}{α':Al}{h' h2:Heap}
theorem gW (c':aa)(kk:Nat)(o:O):kk∈dom (c'++[(kk,o)]):=by rw[af];simp
theorem CQ.kept (L:Le c1 α1 h1 (c'++[(kk,.list acc)]) α' h'){b0:Addr}(n0:h1.get? b0=none)(ks:∀a o,a≠b0→h'.get? a=some o→h2.get? a=some o):Le c1 α1 h1 (c'++[(kk,.list acc)]) α' h2:=
 ⟨L.dom,L.agree,fun b o e n=>ks b o (fun q=>nos ((congrArg h1.get? q).trans n0) e) (L.kept b o e n),L.grow⟩
section
variable (X:CF prog w A hb env c1 α1 h1 C I fp nn P St)(p:CP hb pr env l c1 α1 h1 kk C J I St i c' acc α' h')
include X p
theorem CP.butI (ks:∀a o,a≠I→h'.get? a=some o→h2.get? a=some o):CQ hb pr env l c1 α1 h1 kk C J c' acc α' h2:=
 ⟨Fst.but (X.ex i h' p.st).2 ks p.q.F p.nI X.fI X.bI,CQ.kept p.q.L X.I1 ks,p.q.nC,let ⟨m,o,es,ep,e,r⟩:=p.q.ns;⟨m,o,es,ep,ks C o (Ne.symm X.IC) e,r⟩,p.q.at_,p.q.no⟩
theorem CP.fpC {b:Addr}(hb':b∈fp):b≠C:=fun q=>by
 rcases X.fp_ b hb' with rfl|⟨o₁,hz,g,n⟩
 ·exact X.IC q
 ·exact nos ((congrArg h1.get? q).trans X.C1) g
theorem CP.butC (nz:∀o,cv o=true→h'.get? C≠some o)(hs:Heap.SameBut C h' h2)(ns:∃m,h2.Ns C m):CP hb pr env l c1 α1 h1 kk C J I St i c' acc α' h2:=
 ⟨⟨Fst.but nz (bc hs) p.q.F p.q.nC X.fC X.bC,CQ.kept p.q.L X.C1 (bc hs),p.q.nC,ns,p.q.at_,p.q.no⟩,p.nI,X.W.frame i h' h2 p.st fun b hb' o e=>bc hs b o (CP.fpC X p hb') e⟩
theorem CP.fpO {c2:aa}{acc2:List D}{α2:Al}(n:¬ay (c2++[(kk,.list acc2)]) α2 I)(L:Le c1 α1 h1 (c2++[(kk,.list acc2)]) α2 h2){b:Addr}(hb':b∈fp):¬ay (c2++[(kk,.list acc2)]) α2 b:=by
 rcases X.fp_ b hb' with rfl|⟨o₁,hz,g,n'⟩
 ·exact n
 ·exact L.not_own g n'
theorem CP.le {c2:aa}{acc2:List D}{α2:Al}(no:kk∉dom c2)(L6:Le (c'++[(kk,.list acc)]) α' h' (c2++[(kk,.list acc2)]) α2 h2)(C6:Cst hb pr (c2++[(kk,.list acc2)]) α2 h2):CP hb pr env l c1 α1 h1 kk C J I St i c2 acc2 α2 h2:=by
 obtain⟨m,o,es,ep,e,r⟩:=p.q.ns
 obtain⟨⟨oI,eI⟩,_⟩:=X.ex i h' p.st
 exact⟨⟨p.q.F.le L6 C6,p.q.L.trans L6,L6.not_own e p.q.nC,⟨m,o,es,ep,L6.kept _ _ e p.q.nC,r⟩,(L6.agree kk (gW ..)).trans p.q.at_,no⟩,L6.not_own eI p.nI,
  X.W.frame i h' h2 p.st fun b hb' o e=>L6.kept b o e (CP.fpO X p p.nI p.q.L hb')⟩
theorem CP.push {ws:List Value}{g7:Value}{d':D}(rk:IsDs h' (ay (c'++[(kk,.list acc)]) α') acc ws)(i7:IsD h' (ay (c'++[(kk,.list acc)]) α') d' g7)(hl8:∃ep,h2.get? J=some (bq "list" (ws++[g7]) ep)) (hs8:Heap.SameBut J h' h2):CP hb pr env l c1 α1 h1 kk C J I St i c' (acc++[d']) α' h2:=by
 obtain⟨ep8,g8⟩:=hl8
 have ecs:=d0 (o:=.list acc) p.q.no (.list (acc++[d']))
 obtain⟨F8,L8⟩:=p.q.F.set (gW c' kk (.list acc)) (o:=.list (acc++[d'])) (by rw[p.q.at_];exact hs8) (fun L=>⟨ws++[g7],ep8,by rw[p.q.at_];exact g8,IsDs.append (.cons (L.isD i7) .nil) (L.isDs rk)⟩)
 rw[ecs] at F8 L8
 exact CP.le X p p.q.no L8 F8.toCst
end
theorem rO (EO:EnvOk env){scope:Scope}{x:Str}(SO:ScopeOk scope x env){cl:List (Str×Addr)}(h2:∀y b,cl.lookup y=some b→env.cells.lookup y=some b)(h3:∀y,(y,NameKind.free)∈scope.names→(cl.lookup y).isSome=true)(bC:hb.get? C=none)
  {m:Str→Option Value} (F:Fst hb pr env l c' α' h') (hm:h'.Ns C m) (hn:¬ay c' α' C):Fst hb pr (compEnvC scope cl C env) (ba scope l) c' α' h':=by
 refine⟨F.toCst,⟨m,hm⟩,fun y b e=>F.cel y b (h2 y b e),fun y v e=>?_,fun b f=>?_⟩
 ·obtain⟨e1,e2⟩:=cw e
  obtain⟨g,H,i⟩:=F.loc y v e1
  obtain⟨k1,b,hbb⟩:=SO.free y (mem_of_lookup e2)
  have hk:(compEnvC scope cl C env).kindOf y=some .cell:=cs EO.kind e2 k1
  have hlk:cl.lookup y=some b:=by
   obtain⟨b',hb'⟩:=Option.isSome_iff_exists.mp (h3 y (mem_of_lookup e2))
   rw[hb',←hbb];exact (h2 y b' hb').symm
  cases H with
  |loc m' a _ _=>rw[k1] at a;contradiction
  |cel b' o' a q1 q2 q3=>obtain rfl:=Option.some.inj (hbb.symm.trans q1);exact⟨g,.cel b o' hk hlk q2 q3,i⟩
  |free b' o' a _ _ _=>rw[k1] at a;contradiction
 ·rcases f with f|⟨y,f⟩
  ·obtain rfl:b=C:=f;exact⟨bC,hn⟩
  ·exact F.fr b (.inr ⟨y,h2 y b f⟩)
theorem oX (X:CF prog w A hb env c1 α1 h1 C I fp nn P St){xs:List D}(hn:nn=xs.length){scope:Scope}{cl:List (Str×Addr)}(EC:EnvOk (compEnvC scope cl C env))(FI:∀{c':aa} {α':Al} {h':Heap} {m:Str→Option Value},Fst hb pr env l c' α' h'→h'.Ns C m→¬ay c' α' C→Fst hb pr (compEnvC scope cl C env) (ba scope l) c' α' h')
  {x:Str} {px pos:Pos} (SO:ScopeOk scope x env) (hlen:xs.length≤big) (hP:∀i u,P i u→∀d,xs[i]?=some d→IsD h1 (ay c1 α1) d u) {elt iter:Expr} {ifs:List Expr} {Y:Nat→List D→aa→Prop}
  (turn:∀i d acc c',xs[i]?=some d→Y i acc c'→kk∉dom c'∧∀cl C,EnvOk (compEnvC scope cl C env)→
   OkE (model prog w) A hb pr (compEnvC scope cl C env) okB (put (ba scope l) x (.d d)) (c'++[(kk,.list acc)])
    (forIn ifs true fun c r=>if r=true then do let ok ←isTrue c (compEnvC scope cl C env) (eval c (compEnvC scope cl C env));pure (ForInStep.yield ok) else pure (ForInStep.yield r)) (fun b c2=>
     (b=true→OkE (model prog w) A hb pr (compEnvC scope cl C env) IsV (put (ba scope l) x (.d d)) c2 (eval elt (compEnvC scope cl C env)) (fun v c3=>∃d' c4,v=.d d'∧c3=c4++[(kk,.list acc)]∧kk∉dom c4∧Y (i+1) (acc++[d']) c4))∧
     (b=false→∃c4,c2=c4++[(kk,.list acc)]∧kk∉dom c4∧Y (i+1) acc c4)))
  {R:Result→Shared→Prop} {s:Shared} (fin:∀acc c' α' h' tk,1≤tk→Y xs.length acc c'→CQ hb pr env l c1 α1 h1 kk C J c' acc α' h'→R (.ok .next) {s with heap:=h',toks:=tk})
  {α3:Al} {h3:Heap} {tk3:Nat} (ht3:1≤tk3) (Y0:Y 0 [] c1) (p0:CP hb pr env l c1 α1 h1 kk C J I St 0 c1 [] α3 h3) :
  codeAny (model prog w) A (.compLoop (.ListComp elt [⟨.Name x px,iter,ifs,0⟩] scope pos) 0 (.ref I) (.ref J) (compEnvC scope cl C env)) R {s with heap:=h3,toks:=tk3}:=by
 subst hn
 refine codeAny_compLoop_tests (fun k s'=>∃(i:Nat) (acc:List D) (c':aa) (α':Al) (h':Heap) (tk:Nat),s'={s with heap:=h',toks:=tk}∧1≤tk∧k=xs.length+1-i∧i≤xs.length∧acc.length≤i∧Y i acc c'∧CP hb pr env l c1 α1 h1 kk C J I St i c' acc α' h') ?_ (xs.length+1)
  ⟨0,[],c1,α3,h3,tk3,rfl,ht3,rfl,Zj _,Zv _,Y0,p0⟩
 intro k s' h9
 refine aG fun G9 back9=>?_
 obtain⟨i,acc,c',α',h',tk,rfl,htk,rfl,hle,hacc,hI,p⟩:=h9
 refine back9 ?_
 by_cases hlt:i<xs.length
 ·refine aq htk (aM (X.W.item i _ _ no hlt p.st fun v h2 tk2 hPv st2 hk2 htk2=>?_))
  have p2:CP hb pr env l c1 α1 h1 kk C J I St (i+1) c' acc α' h2:=⟨CP.butI X p fun a o n e=>hk2 a o (by simpa using n) e,p.nI,st2⟩
  have hd:xs[i]?=some xs[i]:=Qk hlt
  obtain⟨m,hm⟩:=p2.q.ns
  have FC:=FI p2.q.F hm p.q.nC
  refine Jv (aq htk2 (aM (bZ (s:={s with heap:=h2,toks:=tk2}) EC FC (lookup_relabel_local SO.x) (v:=.d xs[i]) (p2.q.L.isD (hP i v hPv _ hd)) fun h5 tk5 F5 hs5 htk5=>?_)))
  have p5:=CP.butC X p2 (aN FC (.inl rfl)) hs5 F5.ns
  refine aM ((turn i _ acc c' hd hI).2 cl C EC α' _ _ htk5 F5 fun b c2 α2 gb h6 tk6 htk6 hK6 F6 L6 eb=>?_)
  subst eb
  cases gb with
  |false=>
   rw[if_neg (by decide)]
   obtain⟨c4,rfl,hk4,hI4⟩:=hK6.2 rfl
   exact⟨_,by exact R10 hlt,i+1,acc,c4,α2,h6,tk6,rfl,htk6,rfl,hlt,by exact R13 hacc,hI4,CP.le X p5 hk4 L6 F6.toCst⟩
  |true=>
   rw[if_pos rfl]
   refine aM (hK6.1 rfl α2 _ _ htk6 F6 fun v7 c3 α3' g7 h7 tk7 htk7 hK7 F7 L7 i7=>?_)
   refine aG fun G9 back9=>?_
   obtain⟨d',c4,rfl,rfl,hk4,hI4⟩:=hK7
   refine back9 ?_
   have p7:=CP.le X p5 hk4 (L6.trans L7) F7.toCst
   obtain⟨ws,ep,gk,rk⟩:=F7.toCst.cell kk (.list acc) (by rw[aD hk4,if_pos rfl])
   rw[p7.q.at_] at gk
   refine wpAny_list_append_plain (items:=ws.toArray) ⟨ep,gk⟩ (fun h8 hl8 hs8=>?_) (by rw[Xq,←rk.length];exact aH (R12 hlen hacc hlt))
   exact⟨_,by exact R10 hlt,i+1,acc++[d'],c4,α3',h8,tk7,rfl,htk7,rfl,hlt,by rw[Qj,List.length_singleton];exact R11 hacc,hI4,CP.push X p7 rk i7 (let ⟨ep8,g8⟩:=hl8;⟨ep8,by rw[g8];simp⟩) hs8⟩
 ·have hin:i=xs.length:=R9 hle hlt
  subst hin
  exact aq htk (aM (X.W.done _ _ no p.st fun h2 tk2 hk2 htk2=>fin acc c' α' h2 tk2 htk2 hI (CP.butI X p fun a o n e=>hk2 a o (by simpa using n) e)))
theorem CQ.fin (X:CQ hb pr env l c1 α1 h1 kk C J c' acc α' h')(F1:Fst hb pr env l c1 α1 h1)(hk:kk∉dom c1)(hcel:bX (c'++[(kk,.list acc)]) c' c') :
  Fst hb pr env l c' α' h'∧Le c1 α1 h1 c' α' h'∧IsV c' α' h' (.d (.lst acc)) (.ref J)∧¬ay c' α' C:=by
 have hsub:∀k∈dom c',k∈dom (c'++[(kk,.list acc)]):=cF hcel
 have dm:∀k∈dom c1,k∈dom c':=fun k hk1=>by
  have h1:=X.L.dom k hk1
  rw[af] at h1
  rcases Qu.mp h1 with h1|h1
  ·exact h1
  ·obtain rfl:k=kk:=by simpa using h1
   exact absurd hk1 hk
 have W':Weak pr ⟨l,c'++[(kk,.list acc)]⟩ ⟨[],c'⟩:=⟨trivial,hcel,fun k hk=>dm k (F1.prs k hk)⟩
 have LL:Le c1 α1 h1 c' α' h':=⟨dm,X.L.agree,X.L.kept,fun k hk=>X.L.grow k (hsub k hk)⟩
 refine⟨F1.le LL (W'.fst X.F).toCst,LL,?_,fun q=>X.nC (jI hsub q)⟩
 have:=mZ (c':=c') X.F.toCst hsub (v:=.obj kk) (v':=.d (.lst acc)) (g:=.ref (α' kk)) (.inr ⟨kk,acc,rfl,by rw[aD X.no,if_pos rfl],rfl,X.no⟩) ⟨rfl,gW ..⟩
 rw[X.at_] at this;exact this
end
noncomputable abbrev cc (c1:aa) (kk:Nat):aa:=c1++[(kk,.list [])]
def vQ (prog:Program)(w:World)(A:Around)(hb:Heap)(pr:List Nat)(env:Env)(l:Loc)(e:Expr)(scope:Scope)(kk:Nat)(c1:aa)(xs:List D)(Y:Nat→List D→aa→Prop):Prop:=
 ∀(α1:Al) (h1:Heap) (C J I:Addr) (fp:List Addr) (P:Nat→Value→Prop) (St:Nat→Heap→Prop) (cl:List (Str×Addr)),CF prog w A hb env c1 α1 h1 C I fp xs.length P St→EnvOk (compEnvC scope cl C env)→
  (∀{c':aa} {α':Al} {h':Heap} {m:Str→Option Value},Fst hb pr env l c' α' h'→h'.Ns C m→¬ay c' α' C→Fst hb pr (compEnvC scope cl C env) (ba scope l) c' α' h')→
  (∀i u,P i u→∀d,xs[i]?=some d→IsD h1 (ay c1 α1) d u)→∀(R:Result→Shared→Prop) (s:Shared),
  (∀acc c' α' h' tk,1≤tk→Y xs.length acc c'→CQ hb pr env l c1 α1 h1 kk C J c' acc α' h'→R (.ok .next) {s with heap:=h',toks:=tk})→∀(α3:Al) (h3:Heap) (tk3:Nat),1≤tk3→
  CP hb pr env l c1 α1 h1 kk C J I St 0 c1 [] α3 h3→codeAny (model prog w) A (.compLoop e 0 (.ref I) (.ref J) (compEnvC scope cl C env)) R {s with heap:=h3,toks:=tk3}
def rm (prog:Program)(w:World)(A:Around)(hb:Heap)(pr:List Nat)(env:Env)(l:Loc)(e:Expr)(scope:Scope)(kk:Nat)(v:V)(c1:aa)(K:V→aa→Prop):Prop:=
 cC v∧∃xs,bw v=some xs∧kk∉dom c1∧∃Y,vQ prog w A hb pr env l e scope kk c1 xs Y∧∀acc c',Y xs.length acc c'→kk∉dom c'∧bX (c'++[(kk,.list acc)]) c' c'∧K (.d (.lst acc)) c'
theorem CompI.g {l:Loc}{x:Str}{px pos:Pos}{elt iter:Expr}{ifs:List Expr}{scope:Scope}{kk:Nat}{v:V}{c1:aa}{K:V→aa→Prop}(SO:ScopeOk scope x env)(h:CompI prog w A hb pr env l x elt ifs scope kk v c1 K) :
  rm prog w A hb pr env l (.ListComp elt [⟨.Name x px,iter,ifs,0⟩] scope pos) scope kk v c1 K:=by
 obtain⟨sm,xs,hxs,hlen,hkk,Y,hI0,turn,fin⟩:=h
 exact⟨sm,xs,hxs,hkk,Y,fun α1 h1 C J I fp P St cl X EC FI hP R s fin α3 h3 tk3 ht p0=>oX X rfl EC FI SO hlen hP turn (R:=R) (s:=s) fin ht hI0 p0,fin⟩
theorem iS (EO:EnvOk env)(hh:A.handled=none){l:Loc}{c:aa}{α:Al}{s:Shared}{x:Str}{px pos cpos:Pos}{elt iter:Expr}{ifs:List Expr}{rest:List Comprehension}{scope:Scope}{kk:Nat}(SO:ScopeOk scope x env){use:Option (Value→Sem Unit)}
  {Q':Value→Shared→Prop} {K:V→aa→Prop} (hs:1≤s.toks) (F0:Fst hb pr env l c α s.heap) (hfold:∀v,foldedSetIterable iter env v=pure v)
  (hi:OkE (model prog w) A hb pr env IsV l c (eval iter env) (fun v c1=>rm prog w A hb pr env l (.ListComp elt (⟨.Name x px,iter,ifs,0⟩::rest) scope pos) scope kk v c1 K))
  (hend:∀v c' α' g h' tk C,1≤tk→K v c'→Fst hb pr env l c' α' h'→Le c α s.heap c' α' h'→IsV c' α' h' v g→¬FrA env C→¬ay c' α' C→hb.get? C=none→s.heap.get? C=none→(∃m,h'.Ns C m)→
   compPost (model prog w) A no use Q' g C (.ok .next) {s with heap:=h',toks:=tk}) :
  wpAny (model prog w) A (comprehension (.ListComp elt (⟨.Name x px,iter,ifs,0⟩::rest) scope pos) scope env cpos (newList []) false (eval iter env) use) Q' no s:=by
 obtain⟨cl,hcl,hcl2,hcl3⟩:=lK (scope:=scope) (env:=env) (fun y hy=>(SO.free y hy).2)
 refine wpAny_comprehension_free rfl hfold hcl SO.kind SO.names (hi α s _ hs F0 fun v c1 α1 g h1 tk1 htk1 hK F1 L1 iv=>?_)
 refine aG fun G9 back9=>?_
 obtain⟨sm,xs,hxs,hkk,Y,lp,fin⟩:=hK
 refine back9 ?_
 refine jf (s:={s with heap:=h1,toks:=tk1}) F1.toCst hxs sm iv (fun o pk=>?_)
 refine aG fun G9 back9=>?_
 obtain⟨fp,P,St,W,st0,hns,hfp,hP⟩:=pk
 refine back9 ?_
 obtain⟨F2,L2⟩:=F1.push o
 refine wpAny_newObj_type (wpAny_newFunctionEnv SO.cell (by intro y hy;simp at hy) (fun h3 hns3 hsb3=>?_) SO.kind)
 obtain⟨F3,L3⟩:=F2.new (k:=kk) hkk (bq "list" [] 0) (o:=.list []) (fun L=>⟨[],0,Xj _ rfl,.nil⟩)
 have hD:upd α1 kk (h1.push o).objs.size kk=(h1.push o).objs.size:=if_pos rfl
 generalize upd α1 kk (h1.push o).objs.size=α3 at F3 L3 hD
 have C3:((h1.push o).push (bq "list" [] 0)).get? ((h1.push o).push (bq "list" [] 0)).objs.size=none:=gM _
 have szI:h1.objs.size<((h1.push o).push (bq "list" [] 0)).objs.size:=by rw[Heap.size_push,Heap.size_push];exact Nat.lt_of_lt_of_le (Nat.lt_succ_self _) (Nat.le_succ _)
 have n1:∀b,((h1.push o).push (bq "list" [] 0)).get? b=none→h1.get? b=none:=fun b q=>jP (fun o' e=>Xz _ (Xz _ e)) q
 have k3:∀b o',((h1.push o).push (bq "list" [] 0)).get? b=some o'→h3.get? b=some o':=fun b o' e=>by
  rw[hsb3.2 b (fun q=>nos (q▸C3) e)]
  exact Xz _ e
 obtain⟨F4,L4⟩:=F3.keeps k3
 have I1:=gM h1
 have nb:∀b,h1.get? b=none→hb.get? b=none:=fun b q=>jP (F1.base b) q
 have noC:¬ay (c1++[(kk,.list [])]) α3 ((h1.push o).push (bq "list" [] 0)).objs.size:=(cZ F3 C3).2
 have nfC:=(cZ F3 C3).1
 have X:CF prog w A hb env c1 α1 h1 ((h1.push o).push (bq "list" [] 0)).objs.size h1.objs.size fp xs.length P St:=⟨W A hh,hns,hfp,n1 _ C3,I1,nfC,(cZ F1 I1).1,nb _ (n1 _ C3),nb _ I1,Nat.ne_of_lt szI⟩
 have EC:=rc EO SO hcl2 (C:=((h1.push o).push (bq "list" [] 0)).objs.size) fun y b e q=>nfC (.inr ⟨y,q▸e⟩)
 have p0:CP hb pr env l c1 α1 h1 kk ((h1.push o).push (bq "list" [] 0)).objs.size (h1.push o).objs.size h1.objs.size St 0 c1 [] α3 h3:=by
  refine⟨⟨F4,L2.trans (L3.trans L4),noC,⟨_,hns3⟩,hD,hkk⟩,?_,X.W.frame 0 _ _ st0 fun b _ o' e=>k3 b o' (Xz _ e)⟩
  rintro⟨j,hj,e⟩
  rcases L3.grow j hj with q|q
  ·rw[e] at q;exact (cZ F1 I1).2 q
  ·obtain⟨⟨o',e'⟩,_⟩:=hns 0 _ st0
   rw[e] at q;exact nos q e'
 have loop:=lp _ _ _ _ _ _ _ _ _ X EC (rO EO SO hcl2 hcl3 X.bC) hP (compPost (model prog w) A no use Q' (.ref (h1.push o).objs.size) ((h1.push o).push (bq "list" [] 0)).objs.size) s (fun acc c' α' h' tk ht hY q=>by
  obtain⟨_,hcel,hK⟩:=fin acc c' hY
  obtain⟨F',L',iv,nC⟩:=q.fin F1 hkk hcel
  exact hend _ c' α' _ h' tk _ ht hK F' (L1.trans L') iv nfC nC X.bC (by
   cases e:s.heap.get? ((h1.push o).push (bq "list" [] 0)).objs.size with
   |none=>rfl
   |some o'=>
    by_cases q:ay c α ((h1.push o).push (bq "list" [] 0)).objs.size
    ·obtain⟨j,hj,e'⟩:=q
     obtain⟨q',hq'⟩:=F1.toCst.ex (L1.dom j hj)
     rw[L1.agree j hj,e'] at hq';exact (nos X.C1 hq').elim
    ·exact (nos X.C1 (L1.kept _ _ e q)).elim) q.ns) α3 h3 (tk1+([]:List (Str×Value)).length) htk1 p0
 exact codeAny_compStart_list loop (X.W.self 0 _ _ (notedBy (model prog w) A (compEnvC scope cl ((h1.push o).push (bq "list" [] 0)).objs.size env) fun x s'=>compPost (model prog w) A no use Q' (.ref (h1.push o).objs.size) ((h1.push o).push (bq "list" [] 0)).objs.size (.error x) s') p0.st loop)
end
theorem oa {e:Expr}(h:cI e=false)(r:List Expr)(env:Env):starEach (e::r) env=(false,eval e env)::starEach r env:=by
 cases e<;>first|rfl|contradiction
theorem cA (env:Env)(pos:Pos){args:List Expr}:args.all (fun e=>!cI e)=true→backTo pos (starEach args env)=args.map fun e=>(false,eval e env):=by
 induction args with
 |nil=>exact fun _=>rfl
 |cons e r ih=>
  intro h
  have h:=(Xv _ _).mp h
  rw[oa (by simpa using h.1)]
  exact congrArg ((false,eval e env)::·) (ih h.2)
theorem dt {M:Model}{A:Around}{pos:Pos}{f:Value}{first:List Value}{args:List (Bool×Sem Value)}{Q:Value→Shared→Prop}{E:Value→Shared→Prop}{s:Shared}(hplain:args.any (·.1)=false)
  (h:wpAny M A (evalArgs f true args []) (fun a s₁=>(∃k,Looks M s₁.heap (keeperOf f) k)∧wpAny M A (call f (first++a.pos) a.kw) Q E s₁) E s):wpAny M A (callWith pos f first args []) Q E s:=by
 unfold callWith
 refine Zb (Jx (Jq h (fun x s₁ h₁=>Zb (Jj ?_)) fun _ _ x=>x))
 obtain⟨⟨k,hk⟩,hc⟩:=h₁
 have tail:∀{t:Sem Value},wpAny M A t Q E s₁→wpAny M A (t>>=fun r=>holding [r] point>>=fun _=>pure r) Q E s₁:=
  fun ht=>Zb (Jq ht (fun r s₂ hr=>Zb (Jx (wpAny_point (Zp hr)))) fun _ _ x=>x)
 have mk:∀v (p:Prop) [Decidable p],wpAny M A (if p then (call f (first++x.pos) x.kw>>=fun r=>holding [r] point>>=fun _=>pure r) else (callMarked v f (first++x.pos) x.kw>>=fun r=>holding [r] point>>=fun _=>pure r)) Q E s₁:=fun v p _=>by
  by_cases q:p
  ·rw[if_pos q];exact tail hc
  ·rw[if_neg q];unfold callMarked;exact tail (Calls.wpAny_keep hc)
 rw[hplain]
 refine Zb (hk.here ?_)
 cases k
 ·exact mk _ _
 ·exact mk _ _
 ·exact tail hc
 ·exact tail (wpAny_operating hc)
noncomputable def bn (e:Expr):Bool:=if h:e.ctorIdx=16 then @Expr.Call.elim (fun _=>Bool) e h fun f as _ _=>f.ctorIdx==23&&!as.isEmpty else true
theorem pj {f:Expr}{as:List Expr}{ks:List Keyword}{p:Pos}{nm:Str}{env:Env}{t:Sem Value}(h:(f.ctorIdx==23&&!as.isEmpty)=true):attributeBase (.Call f as ks p) nm env t=t:=by
 obtain⟨h1,h2⟩:=(Xv _ _).mp h
 obtain⟨x,q,rfl⟩:=kD (eq_of_beq h1)
 cases as with
 |nil=>contradiction
 |cons a r=>rfl
theorem nY {M:Model}{A:Around}{Q:Value→Shared→Prop}{E:Value→Shared→Prop}{s:Shared}{o:Expr}{nm:Str}{env:Env}{t:Sem Value}(h:bn o=true)(ht:wpAny M A t Q E s):wpAny M A (attributeBase o nm env t) Q E s:=by
 cases o with
 |Call f as ks p=>rw[pj h];exact ht
 |_=>exact ht
theorem dR {M:Model}{A:Around}{Q:Value→Shared→Prop}{E:Value→Shared→Prop}{s:Shared}{o:Expr}{nm:Str}{apos pos:Pos}{args:List Expr}{env:Env}(hsup:bn o=true)(hst:args.all (fun e=>!cI e)=true)
  (hfew:args.length<30) (hline:(apos.endLine==pos.line)=true)
  (h:wpAny M A (eval o env) (fun ov s₁=>wpAny M A (getMethod ov nm (do return (←importBound o env).getD true)) (fun fx s₂=>wpAny M A (callWith pos fx.1 fx.2 (args.map fun e=>(false,eval e env)) []) Q E s₂) E s₁) E s) :
  wpAny M A (eval (.Call (.Attribute o nm apos) args [] pos) env) Q E s:=by
 rw[arm_eval_Call,cA env pos hst]
 refine Zb (nY hsup (Jq h (fun ov s₁ h₁=>Zb (Jj ?_)) fun _ _ e=>e))
 have hform:methodCallForm (args.length+([]:List Keyword).length) (args.map fun e=>(false,eval e env)) (backToKw pos (keywordEach [] env))=true:=by
  unfold methodCallForm
  have h1:(args.map fun e=>(false,eval e env)).all (fun x=>!x.1)=true:=by simp
  rw[h1]
  exact decide_eq_true hfew
 have hpos:methodCallPos true o env apos pos=pure pos:=by unfold methodCallPos;simp[hline]
 unfold methodCall
 rw[hform]
 refine Zb (Jx (Jq h₁ (fun fx s₂ h₂=>?_) fun _ _ e=>e))
 exact Zb (Jz hpos h₂)
section
variable {prog:Program}{w:World}{A:Around}{hb:Heap}{pr:List Nat}{env:Env}
def OkArgs (prog:Program)(w:World)(A:Around)(hb:Heap)(pr:List Nat)(env:Env)(l:Loc):List Expr→aa→(List V→aa→Prop)→Prop
 | [],c,K=>K [] c
 |e::r,c,K=>OkE (model prog w) A hb pr env IsV l c (eval e env) (fun v c'=>OkArgs prog w A hb pr env l r c' (fun vs c''=>K (v::vs) c''))
theorem gc {l:Loc}:∀{args:List Expr} {c:aa} {K:List V→aa→Prop},OkArgs prog w A hb pr env l args c K→OkE (model prog w) A hb pr env IsVs l c (spliced (args.map fun e=>(false,eval e env))) K
 | [],c,K,h=>fun α s Q hs F hq=>Calls.spliced_nil (hq [] c α [] s.heap s.toks hs h F (.refl ..) .nil)
 |e::r,c,K,h=>fun α s Q hs F hq=>by
  refine Calls.spliced_cons (h α s _ hs F fun v c1 α1 g h1 tk1 htk1 hK F1 L1 i1=>?_)
  refine gc hK α1 _ _ htk1 F1 fun vs c2 α2 gs h2 tk2 htk2 hK2 F2 L2 i2=>?_
  exact hq _ _ _ _ _ _ htk2 hK2 F2 (L1.trans L2) (.cons (L2.isV i1) i2)
theorem bW {l:Loc}{c:aa}{f:Value}{first:List Value}{fs:List V}{args:List Expr}{pos:Pos}{K:V→aa→Prop}{α:Al}{s:Shared}{Q:Value→Shared→Prop}(hs:1≤s.toks)(F:Fst hb pr env l c α s.heap)(hfs:IsVs c α s.heap fs first)
  (hargs:OkArgs prog w A hb pr env l args c (fun vs c'=>∀α' (s':Shared) ws,1≤s'.toks→Fst hb pr env l c' α' s'.heap→Le c α s.heap c' α' s'.heap→IsVs c' α' s'.heap (fs++vs) ws→
   (∃k,Looks (model prog w) s'.heap (keeperOf f) k)∧∀(Q:Value→Shared→Prop),
   (∀v c'' α'' g h'' tk,1≤tk→K v c''→Fst hb pr env l c'' α'' h''→Le c' α' s'.heap c'' α'' h''→IsV c'' α'' h'' v g→Q g {s' with heap:=h'',toks:=tk})→wpAny (model prog w) A (call f ws) Q no s'))
  (hq:∀b c' α' g h' tk,1≤tk→K b c'→Fst hb pr env l c' α' h'→Le c α s.heap c' α' h'→IsV c' α' h' b g→Q g {s with heap:=h',toks:=tk}) :
  wpAny (model prog w) A (callWith pos f first (args.map fun e=>(false,eval e env)) []) Q no s:=by
 have app:∀{c:aa} {α:Al} {h:Heap} {fs vs:List V} {first ws:List Value},IsVs c α h fs first→IsVs c α h vs ws→IsVs c α h (fs++vs) (first++ws):=by
  intro c α h fs vs first ws a b
  induction a with
  |nil=>exact b
  |cons x _ ih=>exact .cons x ih
 refine dt (by simp) ?_
 have fin:wpAny (model prog w) A (spliced (args.map fun e=>(false,eval e env))) (fun ws s₁=>(∃k,Looks (model prog w) s₁.heap (keeperOf f) k)∧wpAny (model prog w) A (call f (first++ws)) Q no s₁) no s:=by
  refine gc hargs α s _ hs F fun vs c1 α1 ws h1 tk1 htk1 hK F1 L1 i1=>?_
  obtain⟨hk,hc⟩:=hK α1 {s with heap:=h1,toks:=tk1} _ htk1 F1 L1 (app (L1.isVs hfs) i1)
  exact⟨hk,hc Q fun v c2 α2 g h2 tk2 htk2 hK2 F2 L2 i2=>hq v c2 α2 g h2 tk2 htk2 hK2 F2 (L1.trans L2) i2⟩
 cases args with
 |nil=>
  obtain⟨hk,hc⟩:=hargs α s _ hs F (.refl ..) (app hfs .nil)
  exact PySem.evalArgs_none ⟨hk,hc Q fun v c2 α2 g h2 tk2 htk2 hK2 F2 L2 i2=>hq v c2 α2 g h2 tk2 htk2 hK2 F2 L2 i2⟩
 |cons e r=>exact Calls.evalArgs_plain fin
end
noncomputable def tS (d:D)(b:Bi):Option Bool:=match d,b with
 | .int _,.bool=>some false
 | .int _,.int=>some true
 | .bool _,.bool=>some true
 | .bool _,.int=>some true
 | .str _,.bool=>some false
 | .str _,.int=>some false
 |_,_=>none
def dj (c:aa)(k:Option Nat)(xs:List D)(K:V→aa→Prop):Prop:=match k with
 |none=>K (.d (.lst xs)) c
 |some k=>k∉dom c∧K (.obj k) (c++[(k,.list xs)])
def v1 (vs:List V)(f:V→Prop):Prop:=match vs with
 | []=>False
 |v::r=>(match r with
  | []=>f v
  |_::_=>False)
def v2 (vs:List V)(f:V→V→Prop):Prop:=match vs with
 | []=>False
 |u::r=>v1 r fun v=>f u v
theorem gH {vs:List V}{f:V→Prop}(h:v1 vs f):∃v,vs=[v]∧f v:=by
 cases vs with
 |nil=>exact h.elim
 |cons v r=>cases r with
  |nil=>exact⟨v,rfl,h⟩
  |cons _ _=>exact h.elim
theorem m8 {vs:List V}{f:V→V→Prop}(h:v2 vs f):∃u v,vs=[u,v]∧f u v:=by
 cases vs with
 |nil=>exact h.elim
 |cons u r=>obtain⟨v,rfl,h⟩:=gH h;exact⟨u,v,rfl,h⟩
def u7 (c:aa)(v:V)(K:V→aa→Prop):Prop:=match gt v with
 |some x=>x.length≤big∧K (.d (.int x.length)) c
 |none=>aw (b8 c v) fun p=>p.2.length≤big∧K (.d (.int p.2.length)) c
def ze (u:V)(f:Bi→Prop):Prop:=match u with
 | .bi b=>f b
 |_=>False
theorem rV {u:V}{f:Bi→Prop}(h:ze u f):∃x,u=.bi x∧f x:=by
 cases u with
 |bi x=>exact⟨x,rfl,h⟩
 |_=>exact h.elim
def wQ (c:aa)(u v:V)(K:V→aa→Prop):Prop:=onD u fun d=>ze v fun b=>aw (tS d b) fun r=>K (.d (.bool r)) c
theorem sR {c:aa}{u v:V}{K:V→aa→Prop}(h:wQ c u v K):∃d b r,u=.d d∧v=.bi b∧tS d b=some r∧K (.d (.bool r)) c:=by
 obtain⟨d,e1,h⟩:=cR h
 obtain⟨b,e2,h⟩:=rV h
 obtain⟨r,e3,h⟩:=ax h
 exact⟨d,b,r,e1,e2,e3,h⟩
def pW (c:aa)(vs:List V)(K:V→aa→Prop):Prop:=match vs with
 | []=>False
 |u::r=>(match r with
  | []=>ea u u fun b _=>K (.rng 0 b) c
  |_::_=>v2 vs fun u v=>ea u v fun a b=>K (.rng a b) c)
def biK (c:aa)(k:Option Nat)(b:Bi)(vs:List V)(K:V→aa→Prop):Prop:=match b with
 | .len=>v1 vs fun v=>u7 c v K
 | .isinstance=>v2 vs fun u v=>wQ c u v K
 | .max=>v2 vs fun u v=>ea u v fun a b=>K (.d (.int (if b > a then b else a))) c
 | .min=>v2 vs fun u v=>ea u v fun a b=>K (.d (.int (if b<a then b else a))) c
 | .list=>v1 vs fun v=>aw (b8 c v) fun p=>p.2.length≤big∧dj c k p.2 K
 | .tuple=>v1 vs fun v=>aw (b8 c v) fun p=>p.1=false∧p.2.length≤big∧K (.d (.tup p.2)) c
 | .range=>pW c vs K
 |_=>False
section
variable {prog:Program}{w:World}{A:Around}{hb:Heap}{pr:List Nat}{env:Env}{l:Loc}{c:aa}{α:Al}{s:Shared}
theorem Fst.new' {h h':Heap}(F:Fst hb pr env l c α h){k:Nat}(hk:k∉dom c){a:Addr}(ha:h.get? a=none)(hkeep:∀b o,h.get? b=some o→h'.get? b=some o){o:O}
  (hq:Le c α h (c++[(k,o)]) (upd α k a) h'→IsO (c++[(k,o)]) (upd α k a) h' a o) :
  Fst hb pr env l (c++[(k,o)]) (upd α k a) h'∧Le c α h (c++[(k,o)]) (upd α k a) h':=by
 have ag:∀j∈dom c,upd α k a j=α j:=fun j hj=>by
  show (if j=k then _ else _)=_
  rw[if_neg (fun (e:j=k)=>hk (e▸hj))]
 have ak:upd α k a k=a:=if_pos rfl
 have L:Le c α h (c++[(k,o)]) (upd α k a) h':=by
  refine⟨fun j hj=>by rw[af];exact List.mem_append_left _ hj,ag,fun b o e _=>hkeep b o e,fun j hj=>?_⟩
  rw[af] at hj
  rcases Qu.mp hj with hj|hj
  ·rw[ag j hj];exact .inl ⟨j,hj,rfl⟩
  ·have:j=k:=by simpa using hj
   rw[this,ak];exact .inr ha
 have C:Cst hb pr (c++[(k,o)]) (upd α k a) h':=by
  refine⟨fun b o e=>hkeep _ _ (F.base b o e),fun j u e=>?_,fun j hj=>?_,fun i hi j hj e=>?_,fun j hj=>L.dom j (F.prs j hj)⟩
  ·rw[aD hk] at e
   by_cases hj:j=k
   ·rw[if_pos hj] at e;(injection e with e;subst e);rw[hj,ak];exact hq L
   ·rw[if_neg hj] at e
    rw[ag j (ah e)]
    exact L.isO (fun q e=>hkeep _ _ e) (F.cell j u e)
  ·rw[af] at hj
   rcases Qu.mp hj with hj|hj
   ·rw[ag j hj];exact F.fresh j hj
   ·have:j=k:=by simpa using hj
    rw[this,ak]
    cases e:hb.get? a with
    |none=>rfl
    |some o'=>rw[F.base _ _ e] at ha;contradiction
  ·rw[af] at hi hj
   have ne:∀j∈dom c,α j≠a:=fun j hj e=>by obtain⟨q,hq⟩:=F.toCst.ex hj;rw[e,ha] at hq;contradiction
   rcases Qu.mp hi with hi|hi<;>rcases Qu.mp hj with hj|hj
   ·rw[ag i hi,ag j hj] at e;exact F.inj i hi j hj e
   ·have:j=k:=by simpa using hj
    rw[this,ak,ag i hi] at e;exact absurd e (ne i hi)
   ·have:i=k:=by simpa using hi
    rw[this,ak,ag j hj] at e;exact absurd e.symm (ne j hj)
   ·have h1:i=k:=by simpa using hi
    have h2:j=k:=by simpa using hj
    rw[h1,h2]
 exact⟨F.le L C,L⟩
theorem tt (h:Heap):h.get? h.objs.size=none:=by
 cases e:h.get? h.objs.size with
 |none=>rfl
 |some o'=>exact absurd (Heap.lt_size e) (Nat.lt_irrefl _)
theorem gQ (F:Fst hb pr env l c α s.heap){k:Option Nat}{xs:List D}{ws:List Value}{ep:Nat}{h':Heap}{K:V→aa→Prop}(h:dj c k xs K)(r:IsDs s.heap (ay c α) xs ws)
  (hkeep:∀b o,s.heap.get? b=some o→h'.get? b=some o) (hg:h'.get? s.heap.objs.size=some (bq "list" ws ep)) {Q:Value→Shared→Prop}
  (hq:∀v c' α' g h' tk,K v c'→Fst hb pr env l c' α' h'→Le c α s.heap c' α' h'→IsV c' α' h' v g→Q g {s with heap:=h',toks:=tk}) (tk:Nat):Q (.ref s.heap.objs.size) {s with heap:=h',toks:=tk}:=by
 cases k with
 |none=>
  obtain⟨F',L'⟩:=F.keeps hkeep
  exact hq _ c α _ h' tk h F' L' (.lst hg (be F.toCst) (L'.isDs r))
 |some k=>
  obtain⟨F',L'⟩:=F.new' h.1 (tt s.heap) hkeep (o:=.list xs) (fun L=>⟨ws,ep,hg,L.isDs r⟩)
  exact hq _ _ _ _ h' tk h.2 F' L' ⟨by rw[show upd α k s.heap.objs.size k=s.heap.objs.size from if_pos rfl],by rw[af];simp⟩
section
variable (F:Fst hb pr env l c α s.heap){K:V→aa→Prop}{Q:Value→Shared→Prop}(hq:∀v c' α' g h' tk,K v c'→Fst hb pr env l c' α' h'→Le c α s.heap c' α' h'→IsV c' α' h' v g→Q g {s with heap:=h',toks:=tk})
include F hq
theorem wL {v:V}{g:Value}(h:u7 c v K)(i:IsV c α s.heap v g):wpAny (model prog w) A (call (.builtin "len") [g]) Q no s:=by
 have rf:=Le.refl c α s.heap
 unfold u7 at h
 cases q:gt v with
 |some x=>
  rw[q] at h
  obtain rfl:=gm q
  obtain⟨_,rfl⟩:=IsD.inv i
  exact PySem.P.len_str (Int.not_le.mpr (uy h.1)) (hq _ c α _ s.heap _ h.2 F rf (.int _ _))
 |none=>
  rw[q] at h
  obtain⟨⟨b,xs⟩,e,h1,h⟩:=ax h
  obtain⟨a,ws,ep,rfl,g',r⟩:=dh F.toCst e i
  have hl:ws.toArray.size=xs.length:=by rw[Xq,←r.length]
  have hz:(ws.toArray.size:Int)<2 ^ 63:=hl▸uy h1
  cases b with
  |true=>exact len_tuple ⟨_,g',rfl,_,rfl⟩ hz (by rw[hl];exact hq _ c α _ s.heap _ h F rf (.int _ _))
  |false=>exact len_list ⟨_,g',rfl,_,rfl⟩ hz (by rw[hl];exact hq _ c α _ s.heap _ h F rf (.int _ _))
theorem v9 {u v:V}{g g':Value}(h:wQ c u v K)(i:IsV c α s.heap u g)(j:IsV c α s.heap v g'):wpAny (model prog w) A (call (.builtin "isinstance") [g,g']) Q no s:=by
 have rf:=Le.refl c α s.heap
 obtain⟨d,b,r,rfl,rfl,e,h⟩:=sR h
 (subst j)
 have i:=IsD.inv i
 cases d with
 |int n=>
  obtain⟨_,rfl⟩:=i
  cases b<;>first|contradiction|skip
  ·exact IsiPair.int_bool (hq _ c α _ s.heap _ h F rf (.bool _))
  ·exact IsiPair.int_int (hq _ c α _ s.heap s.toks h F rf (.bool _))
 |bool n=>
  obtain rfl:g=_:=i
  cases b<;>first|contradiction|skip
  ·exact IsiPair.bool_bool (hq _ c α _ s.heap s.toks h F rf (.bool _))
  ·exact IsiPair.bool_int (hq _ c α _ s.heap s.toks h F rf (.bool _))
 |str x=>
  obtain⟨_,rfl⟩:=i
  cases b<;>first|contradiction|skip
  ·exact IsiPair.str_bool (hq _ c α _ s.heap _ h F rf (.bool _))
  ·exact IsiPair.str_int (hq _ c α _ s.heap _ h F rf (.bool _))
 |_=>contradiction
theorem vh {k:Option Nat}{v:V}{g:Value}(h:aw (b8 c v) fun p=>p.2.length≤big∧dj c k p.2 K)(i:IsV c α s.heap v g):wpAny (model prog w) A (call (.type "list") [g]) Q no s:=by
 obtain⟨⟨b,xs⟩,e,h1,h⟩:=ax h
 obtain⟨a,ws,ep,rfl,g',r⟩:=dh F.toCst e i
 exact call_list_seq a (T:=if b then "tuple" else "list") (by cases b<;>simp) g' rfl rfl (fun h' c' hk hD=>gQ F h r hk hD hq s.toks) (by rw[Xq,←r.length];exact aH h1)
theorem rj {v:V}{g:Value}(h:aw (b8 c v) fun p=>p.1=false∧p.2.length≤big∧K (.d (.tup p.2)) c)(i:IsV c α s.heap v g):wpAny (model prog w) A (call (.type "tuple") [g]) Q no s:=by
 obtain⟨⟨b,xs⟩,e,e',h1,h2⟩:=ax h
 have e':b=false:=e'
 subst e'
 obtain⟨a,ws,ep,rfl,g',r⟩:=dh F.toCst e i
 refine call_tuple_list ⟨_,g',rfl,_,rfl⟩ (fun h' hk=>?_) (by rw[Xq,←r.length];exact aH h1)
 obtain⟨F',L'⟩:=F.keeps hk
 obtain⟨F2,L2⟩:=F'.push (bq "tuple" ws 0)
 exact hq _ c α _ _ s.toks h2 F2 (L'.trans L2) (.tup (Xj _ rfl) (be F'.toCst) ((L'.trans L2).isDs r))
theorem rL {vs:List V}{ws:List Value}(h:pW c vs K)(iv:IsVs c α s.heap vs ws):wpAny (model prog w) A (call (.type "range") ws) Q no s:=by
 cases vs with
 |nil=>exact h.elim
 |cons u r=>
  cases r with
  |nil=>
   obtain⟨b,_,rfl,_,h⟩:=n8 h
   obtain⟨w,rfl,i⟩:=iv.one
   obtain⟨_,rfl⟩:=IsD.inv i
   refine call_range_1 ?_
   obtain⟨F',L'⟩:=F.push (xF 0 _ s.toks _ (s.toks+1))
   exact hq _ c α _ _ _ h F' L' ⟨_,_,_,_,rfl,Xj _ rfl,be F.toCst⟩
  |cons v r=>
   obtain⟨u',v',e,h⟩:=m8 (vs:=u::v::r) (f:=fun u v=>ea u v fun a b=>K (.rng a b) c) h
   rw[e] at iv
   obtain⟨w,w',rfl,i,j⟩:=iv.two
   obtain⟨a,_,b,_,rfl,rfl,h⟩:=cX h i j
   refine call_range_2 ?_
   obtain⟨F',L'⟩:=F.push (xF _ _ _ _ s.toks)
   exact hq _ c α _ _ _ h F' L' ⟨_,_,_,_,rfl,Xj _ rfl,be F.toCst⟩
theorem xM (hh:A.handled=none){vs:List V}{ws:List Value}(h:v2 vs fun u v=>ea u v fun a b=>K (.d (.int (if b > a then b else a))) c)(iv:IsVs c α s.heap vs ws):wpAny (model prog w) A (call (.builtin "max") ws) Q no s:=by
 obtain⟨u,v,rfl,h⟩:=m8 h
 obtain⟨w,w',rfl,i,j⟩:=iv.two
 obtain⟨a,_,b,_,rfl,rfl,h⟩:=cX h i j
 refine max_two_ints hh fun h' tk hk=>?_
 obtain⟨F',L'⟩:=F.keeps hk
 refine hq _ c α _ h' tk h F' L' ?_
 by_cases q:b > a
 ·rw[if_pos q,if_pos q];exact .int _ _
 ·rw[if_neg q,if_neg q];exact .int _ _
theorem vY (hh:A.handled=none){vs:List V}{ws:List Value}(h:v2 vs fun u v=>ea u v fun a b=>K (.d (.int (if b<a then b else a))) c)(iv:IsVs c α s.heap vs ws):wpAny (model prog w) A (call (.builtin "min") ws) Q no s:=by
 obtain⟨u,v,rfl,h⟩:=m8 h
 obtain⟨w,w',rfl,i,j⟩:=iv.two
 obtain⟨a,_,b,_,rfl,rfl,h⟩:=cX h i j
 refine min_two_ints hh fun h' tk hk=>?_
 obtain⟨F',L'⟩:=F.keeps hk
 refine hq _ c α _ h' tk h F' L' ?_
 by_cases q:b<a
 ·rw[if_pos q,if_pos q];exact .int _ _
 ·rw[if_neg q,if_neg q];exact .int _ _
end
theorem y4 (hh:A.handled=none)(F:Fst hb pr env l c α s.heap){k:Option Nat}{b:Bi}{vs:List V}{ws:List Value}{K:V→aa→Prop}(h:biK c k b vs K)(iv:IsVs c α s.heap vs ws){Q:Value→Shared→Prop}
  (hq:∀v c' α' g h' tk,K v c'→Fst hb pr env l c' α' h'→Le c α s.heap c' α' h'→IsV c' α' h' v g→Q g {s with heap:=h',toks:=tk}):wpAny (model prog w) A (call b.val ws) Q no s:=by
 cases b with
 |len=>obtain⟨v,rfl,h⟩:=gH h;obtain⟨w,rfl,i⟩:=iv.one;exact wL F hq h i
 |isinstance=>obtain⟨u,v,rfl,h⟩:=m8 h;obtain⟨w,w',rfl,i,j⟩:=iv.two;exact v9 F hq h i j
 |max=>exact xM F hq hh h iv
 |min=>exact vY F hq hh h iv
 |list=>obtain⟨v,rfl,h⟩:=gH h;obtain⟨w,rfl,i⟩:=iv.one;exact vh F hq h i
 |tuple=>obtain⟨v,rfl,h⟩:=gH h;obtain⟨w,rfl,i⟩:=iv.one;exact rj F hq h i
 |range=>exact rL F hq h iv
 |_=>exact h.elim
end
end Mine
end
section
namespace Mine
open PySem PyProof.Rows PySem.W PySem.Builtin PySem.Builtin.ObjectAttr
theorem kG:typeLookup (.type "list") "append"=pure (some (.builtin "list.append")):=PySem.slot_list_append.lookup
theorem dN:typeOf (.builtin "list.append")=pure (.type "method_descriptor"):=by show builtinType _=_;rw[builtinType_eq_fast];kernel_rfl
theorem slot_mdget:Slot "method_descriptor" "__get__" "method_descriptor.__get__":=
 .of (owner:="method_descriptor") (n:="__get__") (by rw[typeLookup_type,builtinLookup_eq_fast];kernel_rfl) (by decide +kernel) (by decide +kernel) (by decide +kernel)
  (by first|exact .inl (by decide +kernel)|exact .inr (by decide +kernel)) (by rw[isSubtype_type];kernel_rfl)
theorem kL:entryFor table "method_descriptor.__get__"=some Builtin.«method_descriptor.__get__»:=entryFor_of_tree (by kernel_rfl)
theorem lI (a b c:Value):argsOk "method_descriptor.__get__" ⟨[a,b,c],[]⟩:=by unfold argsOk;kernel_rfl
theorem wq:typeLookup (.type "method_descriptor") "__set__"=pure none:=by rw[typeLookup_type,builtinLookup_eq_fast];kernel_rfl
theorem pq:typeLookup (.type "method_descriptor") "__delete__"=pure none:=by rw[typeLookup_type,builtinLookup_eq_fast];kernel_rfl
theorem pg:isSubtype (.type "list") (.type "list")=pure true:=by rw[isSubtype_type];kernel_rfl
theorem kS:isSubtype (.type "list") (.type "module")=pure false:=by rw[isSubtype_type];kernel_rfl
theorem pN:isSubtype (.type "list") (.type "type")=pure false:=by rw[isSubtype_type];kernel_rfl
theorem jQ:takesStores (.builtin "list.append")=pure false:=by
 unfold takesStores specialOf
 rw[dN]
 show (typeLookup (.type "method_descriptor") "__set__" >>= _)=_
 rw[wq]
 show (typeLookup (.type "method_descriptor") "__delete__" >>= _)=_
 rw[pq];rfl
theorem mn:specialOf (.builtin "list.append") "__get__"=pure (some (.builtin "method_descriptor.__get__")):=by
 unfold specialOf
 rw[dN]
 exact slot_mdget.lookup
section
variable {prog:Program}{w:World}{A:Around}{E:Value→Shared→Prop}{s:Shared}{G:Addr}{xs:Array Value}{ep:Nat}
theorem j6 {T:String}{b:Bool}(hG:s.heap.get? G=some {cls:=.type "list",data:=.seq xs ep}) (hT:isSubtype (.type "list") (.type T)=pure b) {Q:Bool→Shared→Prop} (h:Q b s):wpAny (model prog w) A (isInstance (.ref G) (.type T)) Q E s:=
 wpAny_isInstance (T:="list") (U:=T) (b:=b) ⟨_,hG,rfl⟩ hT h
theorem pt {P:Fin→Shared→Prop}(hG:s.heap.get? G=some {cls:=.type "list",data:=.seq xs ep}) (h:P (.done (.ret (.ref s.heap.objs.size))) {s with heap:=s.heap.push (kf "list.append" G)}) :
  wpAny (model prog w) A (Builtin.«method_descriptor.__get__» ⟨[.builtin "list.append",.ref G,.type "list"],[]⟩) P E s:=by
 unfold Builtin.«method_descriptor.__get__»
 refine Zb (Jz (a:=(.builtin "list.append",some (.ref G),some (.type "list"))) (by first|rfl|kernel_rfl) ?_)
 have hT:s.TypeIs (.ref G) "list":=⟨_,hG,rfl⟩
 have l1:=pg
 repeat (any_goals (first|assumption|wp_step))
 rw[show (".".intercalate ("list.append".cutAt '.').dropLast)="list" from by decide +kernel]
 refine Jz (a:=true) l1 ?_
 repeat (any_goals (first|assumption|wp_step))
theorem jU {t:Tok}{R:Fin→Shared→Prop}(hG:s.heap.get? G=some {cls:=.type "list",data:=.seq xs ep}) (h:R (.done (.ret (.ref s.heap.objs.size))) {s with heap:=s.heap.push (kf "list.append" G)}) :
  wpAny (model prog w) A (Builtin.«object.__getattribute__» ⟨[.ref G,.str "append" t],[]⟩) R E s:=by
 have hT:s.TypeIs (.ref G) "list":=⟨_,hG,rfl⟩
 have f1:=kG
 have f2:=mn
 have f3:=jQ
 unfold Builtin.«object.__getattribute__»
 repeat (any_goals (first|assumption | ((with_reducible show wpAny _ _ (call (Value.builtin "method_descriptor.__get__") _ _) _ _ _);refine wpAny_call_entry slot_mdget dN kL (pt hG ⟨_,rfl,?_⟩) (lI _ _ _))|wp_step))
theorem jV (hG:s.heap.get? G=some {cls:=.type "list",data:=.seq xs ep}) {Q:Value→Shared→Prop} (h:Q (.ref s.heap.objs.size) {s with heap:=s.heap.push (kf "list.append" G),toks:=s.toks+1}) :
  wpAny (model prog w) A (getAttr (.ref G) "append" true) Q E s:=by
 obtain⟨hp,g,d,tk,os⟩:=s
 have hT:∀tk',(⟨hp,g,d,tk',os⟩:Shared).TypeIs (.ref G) "list":=fun _=>⟨_,hG,rfl⟩
 have f3:=F.slot_list_getattribute.lookup
 have f4:=F.slot_list_getattribute.bind (.ref G)
 unfold getAttr getAttrBy
 repeat (any_goals (first|assumption|exact hT _ | ((with_reducible show wpAny _ _ (call (Value.builtin "list.__getattribute__") _ _) _ _ _);refine wpAny_call_entry F.slot_list_getattribute (hT _) am_entry_list_getattribute (jU hG ⟨_,rfl,?_⟩) (F.args_list_getattribute_2 _ _))|wp_step))
theorem l9 (a b:Value):(match Manifest.signature? "list.append" with|some sig=>Bind.checkArgs "list.append" {sig with full:=toString (Bind.lastOf "list")++toString "."++toString (Bind.lastOf "list.append")} ⟨[a,b],[]⟩|none=>pure ())=pure ():=by kernel_rfl
theorem lr:builtinKind "list.append"=some .method:=by decide +kernel
theorem kI (hG:s.heap.get? G=some {cls:=.type "list",data:=.seq xs ep}) {Q:Bool→Shared→Prop} (h:Q false s):wpAny (model prog w) A (isType (.ref G)) Q E s:=by
 have hT:s.TypeIs (.ref G) "list":=⟨_,hG,rfl⟩
 have l2:=pN
 unfold isType
 repeat (any_goals (first|assumption|wp_step))
theorem jB {v:Value}(hG:s.heap.get? G=some {cls:=.type "list",data:=.seq xs ep}) {Q:Unit→Shared→Prop} (h:Q () s):wpAny (model prog w) A (checkBoundCall "list.append" ⟨[.ref G,v],[]⟩) Q E s:=by
 have hT:s.TypeIs (.ref G) "list":=⟨_,hG,rfl⟩
 have ht:=l9 (.ref G) v
 unfold checkBoundCall
 cases hsig:Manifest.signature? "list.append" with
 |none=>exact Zp h
 |some sig=>
  rw[hsig] at ht
  rw[lr]
  dsimp only
  rw[if_neg (by decide)]
  refine Zb (j6 hG kS ?_)
  rw[if_neg (by decide +kernel)]
  refine Zb (kI hG ?_)
  rw[if_neg (by decide)]
  refine Zb (wpAny_typeOf hT ?_)
  exact Jz ht h
theorem jm {M:Model}{h:Heap}{p:Addr}(hp:h.get? p=some (kf "list.append" G)):Looks M h (keeperOf (.ref p)) .machine:=by
 intro A Q E s k q
 unfold keeperOf
 refine Zb (wpAny_load (k _ _ hp) ?_)
 exact Zp q
theorem lE {p:Addr}{v:Value}(hp:s.heap.get? p=some (kf "list.append" G)) (hG:s.heap.get? G=some {cls:=.type "list",data:=.seq xs ep}) (hsz:xs.size≤sizeLine) {Q:Value→Shared→Prop}
  (h:∀h',h'.PlainList G (xs.push v)→Heap.SameBut G s.heap h'→Q .none {s with heap:=h'}):wpAny (model prog w) A (call (.ref p) [v]) Q E s:=by
 refine wpAny_call (codeAny_of_tree ?_)
 show wpAny _ A.in1 (callAny (.ref p) ⟨[v],[]⟩) _ _ s
 refine Zb (wpAny_load hp ?_)
 show wpAny _ A.in1 (if (Value.type "builtin_function_or_method" != Value.type "method")=true then (do checkBoundCall "list.append" ⟨[.ref G,v],[]⟩;again (.builtin "list.append" ⟨[.ref G,v],[]⟩)) else _) _ _ _
 rw[if_pos (by decide)]
 refine Zb (jB hG (Zp ?_))
 refine⟨Code.quiet_builtin _ (by decide +kernel),?_⟩
 refine codeAny_builtin PySem.entry_list_append ?_
 show wpAny _ _ (updateSeq G (·.push v)>>=fun _=>ret .none) _ _ s
 refine Zb ?_
 refine wpAny_updateSeq hG rfl (Zp (h _ ⟨ep+1,?_⟩ (Heap.SameBut.update ..)))
 rw[Heap.get?_update_self _ hG (by rw[Obj.mapSeq_push_plain];rfl),Obj.mapSeq_push_plain]
end
end Mine
end
section
namespace Mine
open PySem PyProof.Rows PySem.W PySem.Builtin
structure TabOk (K:Frag)(d C:Addr)(tr:Nat→Nat):Prop where
 at_:∃dd es ep sl,K.lookup d=some ⟨.ref C,dd,.dict es ep,sl⟩∧IntKeys es∧∀c:Nat,c<128→∃t,findBy Value.isInt es (c:Int)=some (.int (tr c:Nat) t)∧tr c<128
 seq:noSeq K C=true
 item:findIn K (.ref C) "__getitem__"=some (some (.builtin "dict.__getitem__"))
 sub:mroIn K C (.type "dict")=some true
section
variable {prog:Program}{w:World}{A:Around}{s:Shared}{K:Frag}{d C:Addr}{tr:Nat→Nat}
theorem rP:builtinKind "dict.__getitem__"=some .method:=by decide +kernel
theorem pF:splitId "dict.__getitem__"=some ("dict","__getitem__"):=by decide +kernel
theorem mI {M:Model}{E:Value→Shared→Prop}{i owner n:String}{self:Value}{rest:List Value}{kw:List (Str×Value)}{Q:Unit→Shared→Prop}
  (hk:builtinKind i=some .method) (hs:splitId i=some (owner,n)) (hi:Looks M s.heap (isInstance self (.type owner)) true) (ha:argsOk i ⟨self::rest,kw⟩) (q:Q () s) :
  wpAny M A (checkBuiltinCall i ⟨self::rest,kw⟩) Q E s:=by
 simp only[checkBuiltinCall,hk,hs]
 refine Zb (hi.here ?_)
 simp only[Bool.not_true,Bool.false_eq_true,if_false]
 cases hsig:Manifest.signature? i with
 |none=>exact Zp q
 |some sig=>
  simp only[argsOk,hsig] at ha
  have h2:Bind.checkArgs i sig ⟨self::rest,kw⟩=pure ():=ha
  show wpAny M A (Bind.checkArgs i sig ⟨self::rest,kw⟩) Q E s
  rw[h2];exact Zp q
theorem sT {E:Value→Shared→Prop}{k:Int}{t:Tok}{o:Obj}{es:Array DictEntry}{ep:Nat}{v:Value}{R:PySem.Fin→Shared→Prop}(ho:s.heap.get? d=some o)(hd:o.data=.dict es ep)(hk:PySem.IntKeys es)(hf:findBy Value.isInt es k=some v)
  (h:R (.done (.ret v)) {s with toks:=s.toks+1}):wpAny (model prog w) A (Builtin.«dict.__getitem__» ⟨[.ref d,.int k t],[]⟩) R E s:=by
 show wpAny _ _ (dictGet d (.int k t)>>=_) _ _ s
 refine Zb ?_
 unfold dictGet
 refine Jx (Zb (wpAny_pyHash_int (Zb (wpAny_dictFind_int (s:={s with toks:=s.toks+1}) ho hd hk ?_))))
 rw[findBy_of_findIdx?] at hf
 cases hi:es.findIdx? fun e=>Value.isInt k e.key with
 |none=>rw[hi] at hf;contradiction
 |some i=>
  rw[hi] at hf
  refine Zb (wpAny_dictEntries (s:={s with toks:=s.toks+1}) ho hd (Zp ?_))
  dsimp only at hf
  rw[hf]
  exact Zp h
theorem qr (T:TabOk K d C tr)(X:K.In s.heap){c:Nat}(hc:c<128){Q:Str.Mapped→Shared→Prop}(hq:∀tk,Q (.char (tr c)) {s with toks:=tk}):wpAny (model prog w) A (Str.tableLookup (.ref d) c) Q no s:=by
 refine aG fun G9 back9=>?_;obtain⟨dd,es,ep,sl,hl,hk,hes⟩:=T.at_;refine back9 ?_
 obtain⟨t,hf,htr⟩:=hes c hc
 have ho:=X _ _ hl
 have ty:∀{M:Model},Looks M s.heap (typeOf (.ref d)) (.ref C):=(Looks.ld ho).andThen .now
 have inst:∀{M:Model},Looks M s.heap (isInstance (.ref d) (.type "dict")) true:=ty.andThen (looks_mroIn X T.sub)
 unfold Str.tableLookup
 refine Zb (wpAny_attempt (Zb (wpAny_mkInt ?_)))
 unfold getItem sequenceKey
 refine Jx (Zb (Zb (Looks.here (s:={s with toks:=s.toks+1}) ty ?_)))
 refine Zb (Looks.here (s:={s with toks:=s.toks+1}) (anyM_none X T.seq) ?_)
 rw[if_pos (show (!false)=true from rfl)]
 refine Zp (Zb ?_)
 unfold callSpecial? specialOf
 refine Zb (Zb (Looks.here (s:={s with toks:=s.toks+1}) ty (Looks.here (s:={s with toks:=s.toks+1}) (looks_findIn X T.item) ?_)))
 refine Jx ?_
 rw[slot_dict_getitem.bind]
 refine Zb (Zp (Zb (wpAny_call ?_)))
 refine codeAny_call_builtin slot_dict_getitem.plain entry_dict_getitem ?_
 refine mI (s:={s with toks:=s.toks+1}) (i:="dict.__getitem__") (owner:="dict") (n:="__getitem__") (self:=.ref d) (rest:=[.int (c:Int) s.toks]) (kw:=[]) rP pF inst (args_dict_getitem _ _) ?_
 refine sT (s:={s with toks:=s.toks+1}) ho rfl hk hf ?_
 refine Zp (Zp ?_)
 have h1:¬((tr c:Nat):Int)<0:=R17
 have h2:¬((tr c:Nat):Int) > 1114111:=R16 htr
 refine Zb (Jz (a:=some ((tr c:Nat):Int)) rfl ?_)
 show wpAny _ _ (if (decide (((tr c:Nat):Int)<0)||decide (((tr c:Nat):Int) > 1114111))=true then _ else pure (Str.Mapped.char ((tr c:Nat):Int).toNat)) _ _ _
 simp only[decide_eq_false h1,decide_eq_false h2]
 exact Zp (hq _)
theorem jR (T:TabOk K d C tr)(X:K.In s.heap){x:PySem.Str}{t:Tok}(hx:∀c∈x.cps.toList,c<128)(hl:x.length≤big){Q:Value→Shared→Prop}(hq:∀t' tk,Q (.str ⟨x.cps.map tr⟩ t') {s with toks:=tk}) :
  wpAny (model prog w) A (call (.builtin "str.translate") [.str x t,.ref d]) Q no s:=by
 refine wpAny_call_entry PySem.F.slot_str_translate (typeIs_str _ _ _) PySem.F.entry_str_translate ?_ (PySem.F.args_str_translate_2 _ _)
 unfold Builtin.«str.translate»
 refine Zb (Jz (a:=(.str x t,x,.ref d)) rfl ?_)
 dsimp only
 have hsz:∀n,n≤x.length→Str.tooLong n=false:=fun n hn=>by
  unfold Str.tooLong sizeLine
  unfold big at hl
  exact decide_eq_false (by omega)
 by_cases h0:x.length=0
 ·rw[if_pos (by simpa using h0)]
  have hx0:x.cps=#[]:=Array.eq_empty_of_size_eq_zero h0
  refine Zb (wpAny_rule (Zb ?_))
  have e:(⟨x.cps.map tr⟩:PySem.Str)=x:=by
   cases x with|mk cps=>simp only at hx0;subst hx0;simp
  refine Jz (a:=.str x t) rfl (Zp ⟨_,rfl,?_⟩)
  have:=hq t s.toks
  rw[e] at this;exact this
 ·rw[if_neg (by simpa using h0)]
  have hall:(x.cps.all fun c=>decide (c<128))=true:=by
   rw[←Array.all_toList,Xu]
   intro c hc;exact decide_eq_true (hx c hc)
  simp only[hall]
  refine Zb ?_
  rw[←Array.forIn_toList]
  refine wpAny_forIn_list _ (fun rest b s'=>∃done tk,x.cps.toList=done++rest∧s'={s with toks:=tk}∧b.1=(done.map fun c=>(⟨#[tr c]⟩:PySem.Str)).reverse∧b.2.1=done.length∧b.2.2.1=true∧
   (∀c a,List.lookup c b.2.2.2.1=some a→a=some (tr c))∧b.2.2.2.2=false) _ ?_ ?_ _ _ ⟨[],s.toks,rfl,rfl,rfl,rfl,rfl,(fun c a e=>by simp at e),rfl⟩
  ·intro c rest b s' h
   refine aG fun G9 back9=>?_
   obtain⟨done,tk,hsp,hs',hp,ht,hf,hk,hd⟩:=h
   obtain⟨pieces,e1⟩:∃p,p=b.1:=⟨_,rfl⟩
   obtain⟨known,e2⟩:∃p,p=b.2.2.2.1:=⟨_,rfl⟩
   rw[←e1] at hp
   rw[←e2] at hk
   have hbe:b=(pieces,done.length,true,known,false):=by rw[e1,e2,←ht,←hf,←hd]
   clear e1 e2 ht hf hd
   refine back9 ?_
   clear back9
   rw[hbe,hs']
   clear hbe hs'
   have hc:c<128:=hx c (by rw[hsp];simp)
   have hlen:done.length≤x.length:=by
    have:x.cps.toList.length=(done++c::rest).length:=by rw[hsp]
    simp only[Qj] at this
    simp only[Array.length_toList] at this
    exact R15 this
   dsimp only
   rw[hsz _ hlen]
   simp only[Bool.false_eq_true,if_false,if_true]
   have fin:∀tk' kn,(∀c' a,List.lookup c' kn=some a→a=some (tr c'))→∃done' tk'',x.cps.toList=done'++rest∧({s with toks:=tk'}:Shared)={s with toks:=tk''}∧
     (⟨#[tr c]⟩:PySem.Str)::pieces=(done'.map fun c=>(⟨#[tr c]⟩:PySem.Str)).reverse∧done.length+1=done'.length∧true=true∧(∀c' a,List.lookup c' kn=some a→a=some (tr c'))∧false=false:=by
    intro tk' kn hkn
    exact⟨done++[c],tk',by rw[hsp];simp,rfl,by rw[hp];simp,by simp,rfl,hkn,rfl⟩
   cases hlk:List.lookup c known with
   |some a=>
    have ha:=hk c a hlk
    subst ha
    exact Zb (Zp (Zp (fin tk known hk)))
   |none=>
    refine aG fun G9 back9=>?_;obtain⟨_,_,_,_,_,_,hes⟩:=T.at_;refine back9 ?_
    obtain⟨_,_,htr⟩:=hes c hc
    refine Zb (qr (s:={s with toks:=tk}) T X hc fun tk'=>?_)
    simp only[htr,if_true]
    refine Zb (Zp (Zp (fin tk' _ fun c' a e=>?_)))
    simp only[Zq] at e
    cases hcc:c'==c with
    |true=>rw[hcc] at e;(injection e with e;subst e);rw[beq_iff_eq.mp hcc]
    |false=>rw[hcc] at e;exact hk c' a e
  ·intro b s' h
   refine aG fun G9 back9=>?_
   obtain⟨done,tk,hsp,hs',hp,ht,hf,hk,hd⟩:=h
   have hbe:b=((done.map fun c=>(⟨#[tr c]⟩:PySem.Str)).reverse,done.length,true,b.2.2.2.1,false):=by rw[←hp,←ht,←hf,←hd]
   simp only[Zg] at hsp
   have hlen:done.length=x.length:=by rw[←hsp];rfl
   clear hp ht hf hd
   refine back9 ?_
   clear back9
   rw[hbe,hs']
   rw[hsz _ (R14 hlen)]
   dsimp only[Bool.false_eq_true,if_false]
   have e:((done.map fun c=>(⟨#[tr c]⟩:PySem.Str)).reverse.reverse.foldl (fun acc p=>acc++p.cps) #[])=x.cps.map tr:=by
    rw[List.reverse_reverse]
    have g:∀(l:List Nat) (acc:Array Nat),(l.map fun c=>(⟨#[tr c]⟩:PySem.Str)).foldl (fun acc p=>acc++p.cps) acc=acc++(l.map tr).toArray:=by
     intro l
     induction l with
     |nil=>intro acc;simp
     |cons c r ih=>intro acc;simp only[List.map_cons,List.foldl_cons,ih];apply Array.ext';simp
    simp only[g,←hsp];apply Array.ext';simp
   rw[e]
   unfold retStr
   refine Zb (wpAny_mkStr (Zp ⟨_,rfl,hq _ _⟩) ?_)
   show (x.cps.map tr).size≤sizeLine
   rw[Array.size_map];exact aH hl
end
end Mine
end
section
namespace Mine
open PySem PyProof.Rows PySem.W PySem.Builtin PySem.Builtin.Str
set_option genCtorIdx true in
inductive Mn where
 |find|rfind|end_|append|pop
noncomputable def Mn.nm:Mn→PySem.Str
 | .find=>"find"
 | .rfind=>"rfind"
 | .end_=>"end"
 | .append=>"append"
 | .pop=>"pop"
noncomputable def eF (x y:PySem.Str)(i j:Nat):Int:=match occurrences x y i j 1 with
 |k::_=>(k:Int)
 | []=>-1
noncomputable def cS (x y:PySem.Str)(i j:Nat):Int:=match lastOccurrence x y i j with
 |some k=>(k:Int)
 |none=>-1
def vq (vs:List V)(f:PySem.Str→Int→Option Int→Prop):Prop:=match vs with
 | []=>False
 |u::r=>fU u fun y=>(match r with
  | []=>False
  |v::r=>fK v fun i=>(match r with
   | []=>f y i none
   |t::r=>fK t fun j=>(match r with
    | []=>f y i (some j)
    |_::_=>False)))
def m9 (m:Mn)(x:PySem.Str)(vs:List V)(c:aa)(K:V→aa→Prop):Prop:=vq vs fun y i o=>match o with
 |none=>(match m with
  | .find=>K (.d (.int (Txt.find3 x y i))) c
  |_=>False)
 |some j=>(0≤i∧0≤j∧j≤x.length)∧(match m with
  | .find=>K (.d (.int (eF x y i.toNat j.toNat))) c
  | .rfind=>K (.d (.int (cS x y i.toNat j.toNat))) c
  |_=>False)
def n4 (m:Mn)(k:Nat)(xs:List D)(vs:List V)(c:aa)(K:V→aa→Prop):Prop:=match m with
 | .append=>v1 vs fun v=>onD v fun d=>xs.length≤big∧K (.d .none) (cset c k (.list (xs++[d])))
 | .pop=>v1 vs fun v=>fK v fun i=>i=0∧xs.length≤big∧∃d r,xs=d::r∧K (.d d) (cset c k (.list r))
 |_=>False
section
variable {prog:Program}{w:World}{A:Around}{hb:Heap}{pr:List Nat}{env:Env}{l:Loc}{c:aa}{α:Al}{s:Shared}
theorem ic (x y:PySem.Str)(i j:Int)(t u v z:Tok)(hi:0≤i)(hj:0≤j)(hl:j≤x.length):Gives («str.find» ⟨[.str x t,.str y u,.int i v,.int j z],[]⟩) (.int (eF x y i.toNat j.toNat)):=by
 show Gives (match occurrences x y (max 0 (if i<0 then i+x.length else i)).toNat (min (max 0 (if j<0 then j+x.length else j)).toNat x.length) 1 with|k::_=>retInt k | []=>(do rule "str.find.not-found";retInt (-1))) _
 rw[if_neg (R20 hi),if_neg (R20 hj),show max 0 i=i by exact R19 hi,show max 0 j=j by exact R19 hj,show min j.toNat x.length=j.toNat by exact R18 hl]
 unfold eF
 cases occurrences x y i.toNat j.toNat 1 with
 |nil=>exact .rule (.of_eq rfl)
 |cons k _=>exact .of_eq rfl
theorem gA (x y:PySem.Str)(i j:Int)(t u v z:Tok)(hi:0≤i)(hj:0≤j)(hl:j≤x.length):Gives («str.rfind» ⟨[.str x t,.str y u,.int i v,.int j z],[]⟩) (.int (cS x y i.toNat j.toNat)):=by
 show Gives (match lastOccurrence x y (max 0 (if i<0 then i+x.length else i)).toNat (min (max 0 (if j<0 then j+x.length else j)).toNat x.length) with|some k=>retInt k|none=>(do rule "str.rfind.not-found";retInt (-1))) _
 rw[if_neg (R20 hi),if_neg (R20 hj),show max 0 i=i by exact R19 hi,show max 0 j=j by exact R19 hj,show min j.toNat x.length=j.toNat by exact R18 hl]
 unfold cS
 cases lastOccurrence x y i.toNat j.toNat with
 |none=>exact .rule (.of_eq rfl)
 |some k=>exact .of_eq rfl
theorem qT {vs:List V}{f:PySem.Str→Int→Option Int→Prop}(h:vq vs f):∃y i,(∃j,f y i (some j)∧vs=[.d (.str y),.d (.int i),.d (.int j)])∨(f y i none∧vs=[.d (.str y),.d (.int i)]):=by
 cases vs with
 |nil=>exact h.elim
 |cons u r=>
  obtain⟨y,rfl,h1⟩:=cy h
  cases r with
  |nil=>exact h1.elim
  |cons v r=>
   obtain⟨i,rfl,h2⟩:=cj h1
   cases r with
   |nil=>exact⟨y,i,.inr ⟨h2,rfl⟩⟩
   |cons t r=>
    obtain⟨j,rfl,h3⟩:=cj h2
    cases r with
    |nil=>exact⟨y,i,.inl ⟨j,h3,rfl⟩⟩
    |cons _ _=>exact h3.elim
noncomputable def Mn.sid:Mn→String
 | .find=>"str.find"
 | .rfind=>"str.rfind"
 |_=>""
noncomputable def Mn.isS:Mn→Bool
 | .find | .rfind=>true
 |_=>false
theorem qk {m:Mn}(hm:m.isS=true){x:PySem.Str}{t:Tok}{pl:Sem Bool}{Q:Value×List Value→Shared→Prop}{E:Value→Shared→Prop}(h:Q (.builtin m.sid,[.str x t]) s):wpAny (model prog w) A (getMethod (.str x t) m.nm pl) Q E s:=by
 cases m with
 |find=>exact GM.find h
 |rfind=>exact GM.rfind h
 |_=>contradiction
theorem IsVs.uncons {h:Heap}{v:V}{vs:List V}{ws:List Value}(i:IsVs c α h (v::vs) ws):∃w ws',ws=w::ws'∧IsV c α h v w∧IsVs c α h vs ws':=i.inv
theorem mG (F:Fst hb pr env l c α s.heap){m:Mn}{x:PySem.Str}{t:Tok}{vs:List V}{ws:List Value}{K:V→aa→Prop}(h:m9 m x vs c K)(iv:IsVs c α s.heap vs ws){Q:Value→Shared→Prop}
  (hq:∀v c' α' g h' tk,K v c'→Fst hb pr env l c' α' h'→Le c α s.heap c' α' h'→IsV c' α' h' v g→Q g {s with heap:=h',toks:=tk}):wpAny (model prog w) A (call (.builtin m.sid) (.str x t::ws)) Q no s:=by
 have rf:=Le.refl c α s.heap
 obtain⟨y,i,⟨j,h,rfl⟩|⟨h,rfl⟩⟩:=qT h
 ·obtain⟨⟨h1,h2,h3⟩,h⟩:=h
  obtain⟨u,us,rfl,i1,ir⟩:=iv.uncons
  obtain⟨v,v',rfl,i2,i3⟩:=ir.two
  obtain⟨_,rfl⟩:=IsD.inv i1
  obtain⟨_,rfl⟩:=IsD.inv i2
  obtain⟨_,rfl⟩:=IsD.inv i3
  cases m with
  |find=>exact call_gives PySem.F.slot_str_find (typeIs_str _ _ _) PySem.F.entry_str_find (PySem.F.args_str_find_4 _ _ _ _) (ic x y i j t _ _ _ h1 h2 h3) (hq _ c α _ s.heap _ h F rf (.int _ _))
  |rfind=>exact call_gives PySem.F.slot_str_rfind (typeIs_str _ _ _) PySem.F.entry_str_rfind (PySem.F.args_str_rfind_4 _ _ _ _) (gA x y i j t _ _ _ h1 h2 h3) (hq _ c α _ s.heap _ h F rf (.int _ _))
  |_=>exact h.elim
 ·obtain⟨w,w',rfl,i1,i2⟩:=iv.two
  obtain⟨_,rfl⟩:=IsD.inv i1
  obtain⟨_,rfl⟩:=IsD.inv i2
  cases m with
  |find=>exact SC.find3 (hq _ c α _ s.heap _ h F rf (.int _ _))
  |_=>exact h.elim
noncomputable def Mn.lid:Mn→String
 | .append=>"list.append"
 | .pop=>"list.pop"
 |_=>""
noncomputable def Mn.isLi:Mn→Bool
 | .append | .pop=>true
 |_=>false
theorem kB {M:Model}{v:Value}{pl:Sem Bool}{Q:Value×List Value→Shared→Prop}{E:Value→Shared→Prop}(hT:s.TypeIs v "list") (hd:∀a,v=.ref a→∃o,s.heap.get? a=some o∧o.dict=none) (h:Q (.builtin "list.append",[v]) s) :
  wpAny M A (getMethod v "append" pl) Q E s:=by
 with_reducible exact getMethod_builtin hT PySem.F.plainAttrs_list PySem.F.slot_list_append PySem.F.type_list_append hd h
theorem qy {M:Model}{v:Value}{pl:Sem Bool}{Q:Value×List Value→Shared→Prop}{E:Value→Shared→Prop}(hT:s.TypeIs v "list") (hd:∀a,v=.ref a→∃o,s.heap.get? a=some o∧o.dict=none) (h:Q (.builtin "list.pop",[v]) s) :
  wpAny M A (getMethod v "pop" pl) Q E s:=by
 with_reducible exact getMethod_builtin hT PySem.F.plainAttrs_list PySem.F.slot_list_pop PySem.F.type_list_pop hd h
theorem sC {m:Mn}(hm:m.isLi=true){a:Addr}{ws:List Value}{ep:Nat}(ha:s.heap.get? a=some (bq "list" ws ep)) {pl:Sem Bool} {Q:Value×List Value→Shared→Prop} {E:Value→Shared→Prop} (h:Q (.builtin m.lid,[.ref a]) s) :
  wpAny (model prog w) A (getMethod (.ref a) m.nm pl) Q E s:=by
 have hT:s.TypeIs (.ref a) "list":=⟨_,ha,rfl⟩
 cases m with
 |append=>exact kB hT (fun _ e=>by (injection e with e;subst e);exact⟨_,ha,rfl⟩) h
 |pop=>exact qy hT (fun _ e=>by (injection e with e;subst e);exact⟨_,ha,rfl⟩) h
 |_=>contradiction
theorem wS (F:Fst hb pr env l c α s.heap){k:Nat}(hkm:k∈dom c){d:D}{r:List D}{u0:Value}{us':List Value}{ep:Nat}(gk:s.heap.get? (α k)=some (bq "list" (u0::us') ep)) (hlen:(d::r).length≤big) (i0:IsD s.heap (ay c α) d u0) (r0:IsDs s.heap (ay c α) r us') {t:Tok} {Q:Value→Shared→Prop}
  (hq:∀{h'},Fst hb pr env l (cset c k (.list r)) α h'→Le c α s.heap (cset c k (.list r)) α h'→IsD h' (ay (cset c k (.list r)) α) d u0→Q u0 {s with heap:=h'}):wpAny (model prog w) A (call (.builtin "list.pop") [.ref (α k),.int 0 t]) Q no s:=by
 have hsz:(u0::us').toArray.size≤sizeLine:=aH (Zk (Nat.le_of_eq (congrArg Nat.succ r0.length.symm)) hlen)
 refine call_meets PySem.F.slot_list_pop ⟨_,gk,rfl⟩ PySem.F.entry_list_pop (PySem.F.args_list_pop_2 _ _) (PySem.MeetsSeq.list_pop_at (α k) (u0::us').toArray ep 0 _ 0 u0 (by decide) (by rw[Xq];simp[seqIndex?]) (by simp) hsz) ⟨gk,?_⟩
 have g8:(s.heap.update (α k) (Obj.mapSeq fun xs=>xs.eraseIdxIfInBounds 0)).get? (α k)=some (bq "list" us' (ep+1)):=by
  rw[Heap.get?_update_self _ gk (by rfl)]
  simp[Obj.mapSeq]
 obtain⟨F8,L8⟩:=F.set hkm (o:=.list r) (Heap.SameBut.update s.heap (α k) (Obj.mapSeq fun xs=>xs.eraseIdxIfInBounds 0)) (fun L=>⟨us',ep+1,g8,L.isDs r0⟩)
 exact hq F8 L8 (L8.isD i0)
theorem lY (F:Fst hb pr env l c α s.heap){m:Mn}{k:Nat}{xs:List D}(hk:ae c k=some (.list xs)){vs:List V}{ws:List Value}{K:V→aa→Prop}(h:n4 m k xs vs c K)(iv:IsVs c α s.heap vs ws){Q:Value→Shared→Prop}
  (hq:∀v c' α' g h' tk,K v c'→Fst hb pr env l c' α' h'→Le c α s.heap c' α' h'→IsV c' α' h' v g→Q g {s with heap:=h',toks:=tk}):wpAny (model prog w) A (call (.builtin m.lid) (.ref (α k)::ws)) Q no s:=by
 obtain⟨us,ep,gk,rk⟩:=F.toCst.cell k _ hk
 have hkm:=ah hk
 cases m with
 |append=>
  obtain⟨v,rfl,h1⟩:=gH h
  obtain⟨d,rfl,h2⟩:=cR h1
  obtain⟨w,rfl,i⟩:=iv.one
  refine wpAny_list_append_plain (items:=us.toArray) ⟨ep,gk⟩ (fun h8 hl8 hs8=>?_) (by rw[Xq,←rk.length];exact aH h2.1)
  obtain⟨F8,L8⟩:=F.set hkm (o:=.list _) hs8 (fun L=>by
   obtain⟨ep8,g8⟩:=hl8
   refine⟨us++[w],ep8,by rw[g8];simp,(IsDs.append (.cons (L.isD i) .nil) (L.isDs rk))⟩)
  exact hq _ _ _ _ _ s.toks h2.2 F8 L8 .none
 |pop=>
  obtain⟨v,rfl,h1⟩:=gH h
  obtain⟨n,rfl,rfl,hlen,d,r,rfl,hK⟩:=cj h1
  obtain⟨w,rfl,i⟩:=iv.one
  obtain⟨t,rfl⟩:=IsD.inv i
  obtain⟨u0,us',rfl,i0,r0⟩:=rk.inv
  exact wS F hkm gk hlen i0 r0 fun F8 L8 i=>hq _ _ _ _ _ s.toks hK F8 L8 i
 |_=>exact h.elim
theorem i6:Slot "re.Match" "end" "re.Match.end":=
 .of (owner:="re.Match") (n:="end") (by rw[typeLookup_type,builtinLookup_eq_fast];kernel_rfl) (by decide +kernel) (by decide +kernel) (by decide +kernel)
  (by first|exact .inl (by decide +kernel)|exact .inr (by decide +kernel)) (by rw[isSubtype_type];kernel_rfl)
theorem og:typeOf (.builtin "re.Match.end")=pure (.type "method_descriptor"):=by show builtinType _=_;rw[builtinType_eq_fast];kernel_rfl
theorem lR:entryFor table "re.Match.end"=some Builtin.«re.Match.end»:=entryFor_of_tree (by kernel_rfl)
theorem pG (a:Value):argsOk "re.Match.end" ⟨[a],[]⟩:=by unfold argsOk;kernel_rfl
theorem ly:PlainAttrs "re.Match":=⟨⟨"object.__getattribute__",by rw[typeLookup_type,builtinLookup_eq_fast];kernel_rfl,by decide +kernel⟩,by rw[typeLookup_type,builtinLookup_eq_fast];kernel_rfl⟩
theorem rq {M:Model}{r:Addr}{e:Int}{own:Addr→Prop}(m:IsM s.heap own r e){pl:Sem Bool}{Q:Value×List Value→Shared→Prop}{E:Value→Shared→Prop}(h:Q (.builtin "re.Match.end",[.ref r]) s) :
  wpAny M A (getMethod (.ref r) "end" pl) Q E s:=by
 obtain⟨fs,tup,i,ep,g1,_⟩:=m.ob
 have hT:s.TypeIs (.ref r) "re.Match":=⟨_,g1,rfl⟩
 with_reducible exact getMethod_builtin hT ly i6 og (fun a q=>by (injection q with q;subst q);exact⟨_,g1,rfl⟩) h
theorem xQ {r:Addr}{e:Int}{own:Addr→Prop}(m:IsM s.heap own r e){Q:Value→Shared→Prop}{E:Value→Shared→Prop}(h:∀t tk,Q (.int e t) {s with toks:=tk}):wpAny (model prog w) A (call (.builtin "re.Match.end") [.ref r]) Q E s:=by
 obtain⟨fs,tup,i,ep,g1,g2,g3,_⟩:=m.ob
 refine wpAny_call_entry i6 ⟨_,g1,rfl⟩ lR ?_ (pG _)
 unfold Builtin.«re.Match.end» Re.reOneGroup
 refine Zb (Zb (Jz (a:=(.ref r,[])) rfl ?_))
 unfold Re.reFound
 refine Zb (Zb (wpAny_fieldsOf g1 rfl ?_))
 rw[g2]
 refine Zb ?_
 show wpAny _ _ (seqItems? (.ref tup)>>=fun o=>pure ((o.getD #[]).map Re.reRawOf)) _ _ _
 refine Zb (wpAny_seqItems g3 rfl (Zp (Zp (Zp ?_))))
 have e1:(#[Value.int i 0,Value.int e 0].map Re.reRawOf).getD 1 (-1)=e:=by simp[Re.reRawOf]
 refine Zb (wpAny_mkInt (Zp ⟨_,rfl,?_⟩))
 show Q (.int ((#[Value.int i 0,Value.int e 0].map Re.reRawOf).getD 1 (-1)) s.toks) _
 rw[e1];exact h s.toks (s.toks+1)
end
end Mine
end
section
namespace Mine
open PySem PyProof.Rows PySem.W
inductive IE where
 |c (d:D)|v (i:Nat)|g (u:V)
 |bin (op:Operator) (a b:IE)
 |cmp (op:CmpOp) (a b:IE)
 |not (a:IE)
 |and (a b:IE)|or (a b:IE)
 |ite (t a b:IE)
 |item (a i:IE)
 |slice (a lo hi:IE)
 |attr (a:IE) (nm:Str)
 |bnd (a:IE) (k:Nat)
 |tup (es:List IE)|lst (es:List IE) (k:Option Nat)
 |call (f:IE) (es:List IE) (k:Option Nat)
 |meth (o:IE) (m:Mn) (es:List IE)
 |umeth (o:IE) (f:Addr) (nm:Str) (es:List IE)
 |make (C:Addr) (es:List IE) (k dk:Nat)
 |repl (o:IE) (y z:Str)
 |trans (o:IE) (d:Addr)
 |comp (elt iter:IE) (test:Option IE) (frees:List Nat) (kk:Nat)
 |comp2 (i1 i2 test:IE) (kk:Nat)
inductive IS where
 |asg (i:Nat) (e:IE)
 |asg2 (i j:Nat) (e:IE)
 |asgA2 (o:IE) (nm:Str) (j:Nat) (e:IE)
 |asgA (o:IE) (nm:Str) (e:IE)
 |asgC (i:Nat) (e:IE)
 |unp2 (i j:Nat) (a b:IE)
 |unpT (i j:Nat) (e:IE)
 |unpA (o1:IE) (n1:Str) (o2:IE) (n2:Str) (a b:IE)
 |del_ (a:IE) (i:IE)
 |if_ (t:IE) (a b:List IS)
 |while_ (t:IE) (a b:List IS)
 |for_ (i:Nat) (it:IE) (a:List IS)
 |ret (e:Option IE)
 |assert (t:IE)
 |expr (e:IE)
 |cont|brk
structure Tb where
 names:List Str
 kinds:List (Str×NameKind)
 G:Str→Option V
 cell:Pos→Option Nat
 mak:Str→Pos→Option (Addr×Nat×Nat)
 meth:Str→Option Addr
noncomputable def aJ:List Str→Str→Option Nat
 | [],_=>none
 |y::r,x=>if y=x then some 0 else (aJ r x).map (·+1)
noncomputable def gS (x:Str):Bool:=!(x==("__debug__":Str))&&!(x==("__classdict__":Str))
noncomputable def hH (T:Tb)(x:Str):Option IE:=
 if gS x then (match aJ T.names x with
  |some i=>some (.v i)
  |none=>if T.kinds.lookup x=some .globalImplicit then (T.G x).map .g else none) else none
noncomputable def xn (nm:Str):Option Mn:=[Mn.find,.rfind,.end_,.append,.pop].find? fun m=>nm==m.nm
noncomputable def bK (es:List Expr):Bool:=es.all fun e=>!cI e
noncomputable def eR (T:Tb)(x:Str)(scope:Scope):Option (List Str×List Nat):=
 let fs:=(scope.names.filter fun p=>p.2==.free).map (·.1)
 (fs.mapM (aJ T.names)).map fun is=>(fs,is)
noncomputable def cU (T:Tb)(x:Str)(scope:Scope):Bool:=
 (scope.names.all fun p=>p.2 != .cell)&&scope.kind==.function&&(scope.names.all fun p=>p.2 != .local||scope.names.lookup p.1==some .local)&&scope.names.lookup x==some .local &&
 (scope.names.all fun p=>p.2 != .free||(T.kinds.lookup p.1==some .cell&&scope.names.lookup p.1==some .free)) &&
 decide ((x::(scope.names.filter fun p=>p.2==.free).map (·.1)).Nodup)
noncomputable def cK (e:Expr):Bool:=fm e
noncomputable def rR:Const→Option IE
 | .int i=>some (.c (.int i))
 | .str x=>some (.c (.str x))
 | .bool b=>some (.c (.bool b))
 | .none=>some (.c .none)
 |_=>none
noncomputable def wC (a:Expr):Option IE:=match gT a with
 |some (.int i)=>some (.c (.int (-i)))
 |_=>none
noncomputable def unE (f:Expr→Option IE)(op:UnaryOp)(a:Expr):Option IE:=match op with
 | .Not=>do return .not (←f a)
 | .USub=>wC a
 |_=>none
noncomputable def nu (f:Expr→Option IE)(op:BoolOp):List Expr→Option IE
 | []=>none
 |a::r=>match r with
  | []=>f a
  |_::_=>match op with
   | .And=>do return .and (←f a) (←nu f op r)
   | .Or=>do return .or (←f a) (←nu f op r)
noncomputable def vP (f:Expr→Option IE)(op:BoolOp)(es:List Expr):Option IE:=match es with
 |_::_::_=>nu f op es
 |_=>none
noncomputable def x9 (f:Expr→Option IE)(T:Tb)(a:Expr)(ops:List CmpOp)(bs:List Expr):Option IE:=match ops,bs with
 | [op],[b]=>if fm b then do return .cmp op (←f a) (←f b) else none
 |_,_=>none
noncomputable def wb (f:Expr→Option IE):Option Expr→Option IE
 |none=>some (.c .none)
 |some e=>f e
noncomputable def wR (f:Expr→Option IE)(T:Tb)(a i:Expr):Option IE:=
 if de i then (do return .item (←f a) (←f i))
 else match mB i with
  |some (lo,hi,none)=>do return .slice (←f a) (←wb f lo) (←wb f hi)
  |_=>none
noncomputable def rX (f:Expr→Option IE)(T:Tb)(a:Expr)(nm:Str)(pos:Pos):Option IE:=
 if bn a then (if nm=Mn.append.nm then do return .bnd (←f a) (←T.cell pos) else do return .attr (←f a) nm) else none
noncomputable def ej (f:Expr→Option IE):List Expr→Option (List IE)
 | []=>some []
 |e::r=>do return (←f e)::(←ej f r)
noncomputable def two (args:List Expr):Option (Expr×Expr):=match args with
 | [a,b]=>some (a,b)
 |_=>none
noncomputable def one (args:List Expr):Option Expr:=match args with
 | [a]=>some a
 |_=>none
noncomputable def pK (a:Expr):Option Str:=match gT a with
 |some (.str x)=>some x
 |_=>none
noncomputable def zq (e:IE):Option Value:=match e with
 | .g u=>(match u with
  | .val w=>some w
  |_=>none)
 |_=>none
noncomputable def xu (e:IE):Option Addr:=zq e>>=wt
theorem ny {e:IE}{a:Addr}(h:xu e=some a):e=.g (.val (.ref a)):=by
 cases e with
 |g u=>cases u with
  |val w=>exact congrArg (fun w=>IE.g (.val w)) (jz h)
  |_=>contradiction
 |_=>contradiction
noncomputable def qH (f:Expr→Option IE)(T:Tb)(o:Expr)(nm:Str)(args:List Expr):Option IE:=
 if nm=Qq "replace" then (do
  let (a,b) ←two args
  let y ←pK a
  let z ←pK b
  return .repl (←f o) y z)
 else if nm=Qq "translate" then (do
  let (t,_) ←bV (←one args)
  let n ←hH T t
  let d ←xu n
  return .trans (←f o) d)
 else match xn nm with
  |some m=>do return .meth (←f o) m (←ej f args)
  |none=>do return .umeth (←f o) (←T.meth nm) nm (←ej f args)
noncomputable def fnE (f:Expr→Option IE)(T:Tb)(x:Str)(args:List Expr)(pos:Pos):Option IE:=match T.mak x pos with
 |some (C,k,dk)=>(do
  let n ←hH T x
  let C' ←xu n
  if C'=C then do return .make C (←ej f args) k dk else none)
 |none=>do return .call (←hH T x) (←ej f args) (T.cell pos)
noncomputable def rZ (f:Expr→Option IE)(T:Tb)(g:Expr)(args:List Expr)(kws:List Keyword)(pos:Pos):Option IE:=
 if kws.isEmpty&&bK args then (match eu g with
  |some (o,nm,apos)=>if bn o&&decide (args.length<30)&&(apos.endLine==pos.line) then qH f T o nm args else none
  |none=>match bV g with
   |some (x,_)=>fnE f T x args pos
   |none=>none)
 else none
noncomputable def ee (T:Tb)(x:Str)(fs:List Str)(scope:Scope):Tb:={T with names:=x::fs,kinds:=scope.names}
noncomputable def yZ (f:Tb→Expr→Option IE)(T:Tb)(gs:List Comprehension)(scope:Scope)(pos:Pos):Option IE:=match gs with
 | [g1,g2]=>do
  let (x1,_) ←bV g1.target
  let (x2,_) ←bV g2.target
  if g1.is_async==0&&g2.is_async==0&&g1.ifs.isEmpty&&cU T x1 scope&&scope.names.lookup x2==some .local&&cK g1.iter&&cK g2.iter&&!(x1==x2)&&(scope.names.all fun p=>p.2 != .free) then do
   let k ←T.cell pos
   let i1 ←f T g1.iter
   let i2 ←f (ee T x1 [x2] scope) g2.iter
   let t ←one g2.ifs
   let t' ←f (ee T x1 [x2] scope) t
   return .comp2 i1 i2 t' k
  else none
 |_=>none
noncomputable def qJ (e:IE):Option IE:=match e with
 | .comp2 ..=>none
 |e=>some e
noncomputable def lcE (f:Tb→Expr→Option IE)(T:Tb)(elt:Expr)(gs:List Comprehension)(scope:Scope)(pos:Pos):Option IE:=match gs with
 | [g]=>do
  let (x,_) ←bV g.target
  if g.is_async==0&&cU T x scope&&cK g.iter&&gS x then do
   let (fs,is) ←eR T x scope
   let k ←T.cell pos
   let e ←f (ee T x fs scope) elt
   let it ←f T g.iter
   match g.ifs with
   | []=>some (.comp e it none is k)
   |t::r=>if r.isEmpty then do return .comp e it (some (←f (ee T x fs scope) t)) is k else none
  else none
 |gs=>yZ f T gs scope pos
noncomputable def aC:Nat→Tb→Expr→Option IE
 |0,_,_=>none
 |n+1,T,e=>match e with
  | .Constant k _ _=>rR k
  | .Name x _=>hH T x
  | .BinOp a op b _=>do return .bin op (←aC n T a) (←aC n T b)
  | .UnaryOp op a _=>unE (aC n T) op a
  | .BoolOp op es _=>vP (aC n T) op es
  | .Compare a ops bs _=>x9 (aC n T) T a ops bs
  | .Subscript a i _=>wR (aC n T) T a i
  | .Attribute a nm pos=>rX (aC n T) T a nm pos
  | .Tuple es _ _=>if bK es then do return .tup (←ej (aC n T) es) else none
  | .List es pos=>if bK es then do return .lst (←ej (aC n T) es) (T.cell pos) else none
  | .IfExp t a b _=>do return .ite (←aC n T t) (←aC n T a) (←aC n T b)
  | .Call g args kws pos=>rZ (aC n T) T g args kws pos
  | .ListComp elt gs scope pos=>lcE (aC n) T elt gs scope pos
  |_=>none
noncomputable def n5 (T:Tb)(x:Str):Bool:=T.kinds.lookup x==some .local||T.kinds.lookup x==some .cell
noncomputable def bt (T:Tb)(x:Str):Option Nat:=if n5 T x then aJ T.names x else none
noncomputable def iX (T:Tb)(x:Str)(pos':Pos)(value:Expr):Bool:=match lcP value with
 |some k=>T.kinds.lookup x==some .local&&pos'.line==k.2.line&&!(k.1.names.any fun (n,k)=>n==x&&(k==.local||k==.cell))
 |none=>false
noncomputable def ku (T:Tb)(x:Str)(px:Pos)(y:Str)(py:Pos)(a b:Expr):Bool:=
 T.kinds.lookup x==some .local&&T.kinds.lookup y==some .local&&py.line==px.line&&!(x==y)&&!cI a&&!cI b&&!([a,b].all (foldedForSure 8))&&!([a,b].all (constantsAlone 8))
noncomputable def qY (f:Expr→Option IE)(T:Tb)(x:Str)(px:Pos)(y:Str)(py:Pos)(value:Expr):Option IS:=match oC value with
 |some vs=>two vs>>=fun r=>if ku T x px y py r.1 r.2 then (do return .unp2 (←bt T x) (←bt T y) (←f r.1) (←f r.2)) else none
 |none=>if bB value then none else do return .unpT (←bt T x) (←bt T y) (←f value)
noncomputable def qX (f:Expr→Option IE)(o1:Expr)(n1:Str)(o2:Expr)(n2:Str)(value:Expr):Option IS:=
 oC value>>=fun vs=>two vs>>=fun r=>if bK [r.1,r.2] then (do return .unpA (←f o1) n1 (←f o2) n2 (←f r.1) (←f r.2)) else none
noncomputable def xj (f:Expr→Option IE)(T:Tb)(t value:Expr):Option IS:=
 oC t>>=fun es=>two es>>=fun q=>match bV q.1 with
  |some q1=>bV q.2>>=fun q2=>qY f T q1.1 q1.2 q2.1 q2.2 value
  |none=>eu q.1>>=fun q1=>eu q.2>>=fun q2=>qX f q1.1 q1.2.1 q2.1 q2.2.1 value
noncomputable def xK (f:Expr→Option IE)(T:Tb)(t value:Expr):Option IS:=match bV t with
 |some (x,p')=>if bB value then (if iX T x p' value then do return .asgC (←bt T x) (←(f value>>=qJ)) else none) else do return .asg (←bt T x) (←f value)
 |none=>match eu t with
  |some (o,nm,_)=>if bB value then none else do return .asgA (←f o) nm (←f value)
  |none=>xj f T t value
noncomputable def asg2 (f:Expr→Option IE)(T:Tb)(t1 t2 value:Expr):Option IS:=do
 let (y,_) ←bV t2
 if bB value then none else match bV t1 with
  |some (x,_)=>do return .asg2 (←bt T x) (←bt T y) (←f value)
  |none=>do
   let (o,nm,_) ←eu t1
   return .asgA2 (←f o) nm (←bt T y) (←f value)
noncomputable def xW (f:Expr→Option IE)(T:Tb)(ts:List Expr)(value:Expr):Option IS:=match ts with
 | [t]=>xK f T t value
 | [t1,t2]=>asg2 f T t1 t2 value
 |_=>none
noncomputable def ye (f:Expr→Option IE)(g:List Stmt→Option (List IS))(T:Tb)(t it:Expr)(a b:List Stmt):Option IS:=do
 let (x,_) ←bV t
 if b.isEmpty&&cK it then do return .for_ (←bt T x) (←f it) (←g a) else none
noncomputable def vU (f:Expr→Option IE)(ts:List Expr):Option IS:=
 one ts>>=fun t=>zg t>>=fun q=>do return .del_ (←f q.1) (←f q.2)
noncomputable def yl (f:Expr→Option IE):Option Expr→Option IS
 |none=>some (.ret none)
 |some e=>do return .ret (some (←f e))
mutual
noncomputable def vR:Nat→Tb→Stmt→Option IS
 |0,_,_=>none
 |n+1,T,st=>match st with
  | .Assign ts value _=>xW (aC n T) T ts value
  | .If t a b _=>do return .if_ (←aC n T t) (←bL n T a) (←bL n T b)
  | .While t a b _=>do return .while_ (←aC n T t) (←bL n T a) (←bL n T b)
  | .For t it a b _=>ye (aC n T) (bL n T) T t it a b
  | .Return e _=>yl (aC n T) e
  | .Delete ts _=>vU (aC n T) ts
  | .Assert t m _=>if m.isNone then do return .assert (←aC n T t) else none
  | .Expr e _=>if bB e then none else do return .expr (←aC n T e)
  | .Continue _=>some .cont
  | .Break _=>some .brk
  |_=>none
noncomputable def bL:Nat→Tb→List Stmt→Option (List IS)
 |0,_,_=>none
 |_+1,_,[]=>some []
 |n+1,T,st::r=>do return (←vR n T st)::(←bL n T r)
end
noncomputable abbrev Sl:=List (Option V)
noncomputable def aF (l:Sl)(i:Nat):Option V:=match l[i]? with
 |some o=>o
 |none=>none
structure Pm where
 C:Addr
 attr:Str→Bool
 fn:Addr→Spec
 isFn:Addr→Bool
 init:Addr
 td:Addr
 tr:Nat→Nat
def eJ (c c':aa):Prop:=∀k∈dom c,k∈dom c'
noncomputable def asD:V→Option D
 | .d x=>some x
 |_=>none
noncomputable def lg:List V→Option (List D)
 | []=>some []
 | .d x::r=>(lg r).map (x::·)
 |_::_=>none
def y9 (P:Pm)(c:aa)(a:Addr)(vs:List V)(K:V→aa→Prop):Prop:=P.isFn a=true∧P.fn a vs c (fun v c'=>eJ c c'∧K v c')
def yx (c:aa)(j:Nat)(vs:List V)(K:V→aa→Prop):Prop:=eU (ae c j) fun id g=>id="list.append"∧v1 vs fun v=>onD v fun d=>cG (ae c g) fun xs=>xs.length≤big∧K (.d .none) (cset c g (.list (xs++[d])))
def ek (P:Pm)(c:aa)(k:Option Nat)(u:V)(vs:List V)(K:V→aa→Prop):Prop:=match u with
 | .bi b=>biK c k b vs K
 | .val w=>aw (wt w) fun a=>y9 P c a vs K
 | .obj j=>yx c j vs K
 |_=>False
def nA (c:aa)(u:V)(m:Mn)(vs:List V)(K:V→aa→Prop):Prop:=match u with
 | .d x=>sD x fun x=>m.isS=true∧m9 m x vs c K
 | .obj k=>m.isLi=true∧cG (ae c k) fun xs=>n4 m k xs vs c K
 | .mt e=>m=.end_∧vs=[]∧K (.d (.int e)) c
 |_=>False
noncomputable def yq:Mn→Bool
 | .end_=>true
 |_=>false
def dH (c:aa)(u:V)(m:Mn):Prop:=match u with
 | .d x=>sD x fun _=>m.isS=true
 | .obj k=>m.isLi=true∧cG (ae c k) fun _=>True
 | .mt _=>yq m=true
 |_=>False
def gC (P:Pm)(c:aa)(u:V)(K:List (Str×V)→Prop):Prop:=gy u fun k=>eD (ae c k) fun C dk=>C=P.C∧xO (ae c dk) K
def x7 (rE:IE→Sl→aa→(V→aa→Prop)→Prop)(rT:IE→Sl→aa→(Bool→aa→Prop)→Prop)(elt:IE)(l:Sl)(c:aa)(Y:V→aa→Prop)(N:aa→Prop):Option IE→Prop
 |none=>rE elt l c Y
 |some t=>rT t l c fun r c2=>(r=true→rE elt l c2 Y)∧(r=false→N c2)
def ke (rE:IE→Sl→aa→(V→aa→Prop)→Prop)(rT:IE→Sl→aa→(Bool→aa→Prop)→Prop)(elt:IE)(test:Option IE)(fr:Sl)(kk:Nat)(K:V→aa→Prop)(v:V)(c1:aa):Prop:=
 cC v∧∃xs,bw v=some xs∧xs.length≤big∧kk∉dom c1∧∃I:Nat→List D→aa→Prop,I 0 [] c1∧
  (∀i d acc c',xs[i]?=some d→I i acc c'→kk∉dom c'∧
   x7 rE rT elt (some (.d d)::fr) (c'++[(kk,.list acc)]) (fun v c3=>∃d' c4,v=.d d'∧c3=c4++[(kk,.list acc)]∧kk∉dom c4∧I (i+1) (acc++[d']) c4) (fun c2=>∃c4,c2=c4++[(kk,.list acc)]∧kk∉dom c4∧I (i+1) acc c4) test)∧
  (∀acc c',I xs.length acc c'→kk∉dom c'∧bX (c'++[(kk,.list acc)]) c' c'∧K (.d (.lst acc)) c')
def mu (rE:IE→Sl→aa→(V→aa→Prop)→Prop)(rT:IE→Sl→aa→(Bool→aa→Prop)→Prop)(i2 test:IE)(kk:Nat)(K:V→aa→Prop)(v:V)(c1:aa):Prop:=
 cC v∧∃xs,bw v=some xs∧kk∉dom c1∧(∀(i:Nat) (d:D),xs[i]?=some d→rE i2 [some (.d d),none] (cc c1 kk) fun u c2=>c2=cc c1 kk∧cC u∧∃ys,bw u=some ys∧
  ∀(j:Nat) (e:D),ys[j]?=some e→rT test [some (.d d),some (.d e)] (cc c1 kk) fun b c3=>b=false∧c3=cc c1 kk)∧bX (cc c1 kk) c1 c1∧K (.d (.lst [])) c1
theorem mS {rE:IE→Sl→aa→(V→aa→Prop)→Prop}{rT:IE→Sl→aa→(Bool→aa→Prop)→Prop}{elt:IE}{test:Option IE}{fr:Sl}{kk:Nat}{K K':V→aa→Prop}{v:V}{c1:aa}(h:ke rE rT elt test fr kk K v c1)(hK:∀v c,K v c→K' v c):ke rE rT elt test fr kk K' v c1:=by
 obtain⟨a1,xs,a2,a3,a4,I,a5,a6,a7⟩:=h
 exact⟨a1,xs,a2,a3,a4,I,a5,a6,fun acc c q=>⟨(a7 acc c q).1,(a7 acc c q).2.1,hK _ _ (a7 acc c q).2.2⟩⟩
def wE1 (P:Pm)(rE:IE→Sl→aa→(V→aa→Prop)→Prop)(rT:IE→Sl→aa→(Bool→aa→Prop)→Prop)(rEs:List IE→Sl→aa→(List V→aa→Prop)→Prop)(e:IE)(l:Sl)(c:aa)(K:V→aa→Prop):Prop:=
 match e with
  | .c d=>K (.d d) c
  | .v i=>aw (aF l i) fun v=>K v c
  | .g u=>K u c
  | .bin op a b=>rE a l c fun u c1=>rE b l c1 fun v c2=>ip c2 op u v fun d=>K (.d d) c2
  | .cmp op a b=>rE a l c fun u c1=>rE b l c1 fun v c2=>fA c2 op u v fun r=>K (.d (.bool r)) c2
  | .not a=>rE a l c fun u c1=>bR c1 u fun r=>K (.d (.bool !r)) c1
  | .and a b=>rE a l c fun u c1=>bR c1 u fun r=>(r=false→K u c1)∧(r=true→rE b l c1 K)
  | .or a b=>rE a l c fun u c1=>bR c1 u fun r=>(r=true→K u c1)∧(r=false→rE b l c1 K)
  | .item a i=>rE a l c fun u c1=>rE i l c1 fun v c2=>ef c2 u v fun d=>K (.d d) c2
  | .slice a lo hi=>rE a l c fun u c1=>rE lo l c1 fun v c2=>rE hi l c2 fun w c3=>ju c3 u v w fun d=>K (.d d) c3
  | .attr a nm=>rE a l c fun u c1=>P.attr nm=true∧gC P c1 u fun fs=>aw (look fs nm) fun v=>iM v=true∧K v c1
  | .bnd a k=>rE a l c fun u c1=>gy u fun j=>cG (ae c1 j) fun _=>k∉dom c1∧K (.obj k) (c1++[(k,.bound "list.append" j)])
  | .tup es=>rEs es l c fun vs c1=>aw (lg vs) fun ds=>ds.length≤big∧K (.d (.tup ds)) c1
  | .lst es k=>rEs es l c fun vs c1=>aw (lg vs) fun ds=>ds.length≤big∧dj c1 k ds K
  | .call f es k=>rE f l c fun u c1=>rEs es l c1 fun vs c2=>ek P c2 k u vs K
  | .meth o m es=>rE o l c fun u c1=>dH c1 u m∧rEs es l c1 fun vs c2=>nA c2 u m vs K
  | .umeth o f nm es=>rE o l c fun u c1=>(gC P c1 u fun fs=>look fs nm=none)∧rEs es l c1 fun vs c2=>P.isFn f=true∧P.fn f (u::vs) c2 (fun v c3=>eJ c2 c3∧K v c3)
  | .make C es _ _=>C=P.C∧rEs es l c fun vs c1=>∃k dk,k∉dom c1∧dk∉dom c1∧k≠dk∧P.fn P.init (.obj k::vs) (c1++[(dk,.ns [])]++[(k,.inst C dk)]) (fun v c2=>v=.d .none∧eJ (c1++[(dk,.ns [])]++[(k,.inst C dk)]) c2∧K (.obj k) c2)
  | .repl o y z=>rE o l c fun u c1=>fU u fun x=>x.length≤big∧z.length≤14∧(y==z)=false∧K (.d (.str (Txt.replace x y z))) c1
  | .trans o d=>rE o l c fun u c1=>fU u fun x=>d=P.td∧(∀ch∈x.cps.toList,ch<128)∧x.length≤big∧K (.d (.str ⟨x.cps.map P.tr⟩)) c1
  | .comp elt iter test frees kk=>rE iter l c (ke rE rT elt test (frees.map (aF l)) kk K)
  | .comp2 i1 i2 test kk=>rE i1 l c (mu rE rT i2 test kk K)
  | .ite t a b=>rT t l c fun r c1=>(r=true→rE a l c1 K)∧(r=false→rE b l c1 K)
def wT1 (rE:IE→Sl→aa→(V→aa→Prop)→Prop)(rT:IE→Sl→aa→(Bool→aa→Prop)→Prop)(e:IE)(l:Sl)(c:aa)(K:Bool→aa→Prop):Prop:=
 match e with
  | .cmp op a b=>rE a l c fun u c1=>rE b l c1 fun v c2=>fA c2 op u v fun r=>K r c2
  | .not a=>rT a l c fun r c1=>K (!r) c1
  | .and a b=>rT a l c fun r c1=>(r=false→K false c1)∧(r=true→rT b l c1 K)
  | .or a b=>rT a l c fun r c1=>(r=true→K true c1)∧(r=false→rT b l c1 K)
  | .c ..=>False
  | .ite ..=>False
  |e=>rE e l c fun u c1=>bR c1 u fun r=>K r c1
mutual
def wpE (P:Pm):Nat→IE→Sl→aa→(V→aa→Prop)→Prop
 |0,_,_,_,_=>False
 |n+1,e,l,c,K=>wE1 P (wpE P n) (wpT P n) (gX P n) e l c K
def wpT (P:Pm):Nat→IE→Sl→aa→(Bool→aa→Prop)→Prop
 |0,_,_,_,_=>False
 |n+1,e,l,c,K=>wT1 (wpE P n) (wpT P n) e l c K
def gX (P:Pm):Nat→List IE→Sl→aa→(List V→aa→Prop)→Prop
 |0,_,_,c,K=>False
 |n+1,es,l,c,K=>match es with
  | []=>K [] c
  |e::r=>wpE P n e l c fun v c1=>gX P n r l c1 fun vs c2=>K (v::vs) c2
end
structure Sg' where
 l:Sl
 c:aa
def slW (l:Sl)(c c':aa):Nat→Sl→Prop
 |_,[]=>True
 |i,none::r=>slW l c c' (i+1) r
 |i,some v'::r=>(∃v,aF l i=some v∧vW c c' v v')∧slW l c c' (i+1) r
structure Wk (pr:List Nat)(σ τ:Sg'):Prop where
 l:slW σ.l σ.c τ.c 0 τ.l
 len:τ.l.length=σ.l.length
 c:bX σ.c τ.c τ.c
 pr:∀k∈pr,k∈dom τ.c
def bj (P:Pm)(c:aa)(u:V)(nm:Str)(v:V)(K:aa→Prop):Prop:=gy u fun k=>eD (ae c k) fun C dk=>C=P.C∧P.attr nm=true∧xO (ae c dk) fun fs=>fs.length≤1000∧K (cset c dk (.ns (put fs nm v)))
def l2 {α:Type}(xs:List α)(K:α→α→Prop):Prop:=match xs with
 | []=>False
 |x::r=>(match r with
  | []=>False
  |y::r=>(match r with
   | []=>K x y
   |_::_=>False))
theorem wc {α:Type}{xs:List α}{K:α→α→Prop}(h:l2 xs K):∃x y,xs=[x,y]∧K x y:=by
 cases xs with
 |nil=>exact h.elim
 |cons x r=>cases r with
  |nil=>exact h.elim
  |cons y r=>cases r with
   |nil=>exact⟨x,y,rfl,h⟩
   |cons _ _=>exact h.elim
def xc (u:V)(K:D→D→Prop):Prop:=onD u fun x=>match x with
 | .tup xs=>l2 xs K
 |_=>False
def uw (c:aa)(u v:V)(K:aa→Prop):Prop:=gy u fun k=>fK v fun i=>i=-1∧cG (ae c k) fun xs=>xs≠[]∧xs.length≤big∧K (cset c k (.list xs.dropLast))
def wS1 (P:Pm)(pr:List Nat)(rE:IE→Sl→aa→(V→aa→Prop)→Prop)(rT:IE→Sl→aa→(Bool→aa→Prop)→Prop)(rB:List IS→Sg'→(F→Sg'→Prop)→Prop)(st:IS)(σ:Sg')(K:F→Sg'→Prop):Prop:=
 match st with
  | .asg i e=>rE e σ.l σ.c fun v c1=>K .next ⟨σ.l.set i (some v),c1⟩
  | .asgC i e=>rE e σ.l σ.c fun v c1=>K .next ⟨σ.l.set i (some v),c1⟩
  | .asg2 i j e=>rE e σ.l σ.c fun v c1=>K .next ⟨(σ.l.set i (some v)).set j (some v),c1⟩
  | .asgA o nm e=>rE e σ.l σ.c fun v c1=>rE o σ.l c1 fun u c2=>bj P c2 u nm v fun c3=>K .next ⟨σ.l,c3⟩
  | .asgA2 o nm j e=>rE e σ.l σ.c fun v c1=>rE o σ.l c1 fun u c2=>bj P c2 u nm v fun c3=>K .next ⟨σ.l.set j (some v),c3⟩
  | .unp2 i j a b=>rE a σ.l σ.c fun u c1=>rE b σ.l c1 fun v c2=>(∃x y,u=.d x∧v=.d y)∧K .next ⟨(σ.l.set j (some v)).set i (some u),c2⟩
  | .unpT i j e=>rE e σ.l σ.c fun u c1=>xc u fun x y=>K .next ⟨(σ.l.set i (some (.d x))).set j (some (.d y)),c1⟩
  | .unpA o1 n1 o2 n2 a b=>rE a σ.l σ.c fun u c1=>rE b σ.l c1 fun v c2=>dd u v fun x y=>rE o1 σ.l c2 fun u1 c3=>bj P c3 u1 n1 (.d x) fun c4=>rE o2 σ.l c4 fun u2 c5=>bj P c5 u2 n2 (.d y) fun c6=>K .next ⟨σ.l,c6⟩
  | .del_ a i=>rE a σ.l σ.c fun u c1=>rE i σ.l c1 fun v c2=>uw c2 u v fun c3=>K .next ⟨σ.l,c3⟩
  | .if_ t a b=>rT t σ.l σ.c fun r c1=>(r=true→rB a ⟨σ.l,c1⟩ K)∧(r=false→rB b ⟨σ.l,c1⟩ K)
  | .while_ t a b=>∃(I:Nat→Sg'→Prop) (k:Nat),I k σ∧∀k τ,I k τ→rT t τ.l τ.c fun r c1=>
    (r=true→rB a ⟨τ.l,c1⟩ fun f υ=>match f with
     | .next | .cont=>∃k' υ',k'<k∧Wk pr υ υ'∧I k' υ'
     | .brk=>K .next υ
     | .ret v=>K (.ret v) υ)∧(r=false→rB b ⟨τ.l,c1⟩ K)
  | .for_ i it a=>rE it σ.l σ.c fun v c1=>cC v∧∃xs,bw v=some xs∧∃I:Nat→Sg'→Prop,I 0 ⟨σ.l,c1⟩∧
    (∀j d τ,xs[j]?=some d→I j τ→i<τ.l.length∧rB a ⟨τ.l.set i (some (.d d)),τ.c⟩ fun f υ=>match f with
     | .next | .cont=>∃υ',Wk pr υ υ'∧I (j+1) υ'
     | .brk=>K .next υ
     | .ret v=>K (.ret v) υ)∧∀τ,I xs.length τ→K .next τ
  | .ret none=>K (.ret (.d .none)) σ
  | .ret (some e)=>rE e σ.l σ.c fun v c1=>K (.ret v) ⟨σ.l,c1⟩
  | .assert t=>rT t σ.l σ.c fun r c1=>r=true∧K .next ⟨σ.l,c1⟩
  | .expr e=>rE e σ.l σ.c fun v c1=>K .next ⟨σ.l,c1⟩
  | .cont=>K .cont σ
  | .brk=>K .brk σ
mutual
def wpS (P:Pm)(pr:List Nat):Nat→IS→Sg'→(F→Sg'→Prop)→Prop
 |0,_,_,_=>False
 |n+1,st,σ,K=>wS1 P pr (wpE P n) (wpT P n) (wpB P pr n) st σ K
def wpB (P:Pm)(pr:List Nat):Nat→List IS→Sg'→(F→Sg'→Prop)→Prop
 |0,_,_,_=>False
 |n+1,b,σ,K=>match b with
  | []=>K .next σ
  |st::r=>wpS P pr n st σ fun f τ=>match f with | .next=>wpB P pr n r τ K|f=>K f τ
end
noncomputable def ad:List Str→Sl→Loc
 |x::xs,some v::l=>(x,v)::ad xs l
 |_::xs,none::l=>ad xs l
 |_,_=>[]
theorem d8 {names:List Str}:∀(l:Sl) (x:Str),x∉names→look (ad names l) x=none:=by
 induction names with
 |nil=>intro l x _;cases l<;>rfl
 |cons y ys ih=>
  intro l x h
  have h1:y≠x:=fun e=>h (e▸.head _)
  have h2:x∉ys:=fun e=>h (.tail _ e)
  cases l with
  |nil=>rfl
  |cons o l=>
   cases o with
   |none=>exact ih l x h2
   |some v=>show (if y=x then _ else _)=_;rw[if_neg h1];exact ih l x h2
theorem mT {names:List Str}:∀{x:Str} {i:Nat},aJ names x=some i→x∈names∧i<names.length:=by
 induction names with
 |nil=>intro x i h;contradiction
 |cons y ys ih=>
  intro x i h
  dsimp only[aJ] at h
  by_cases e:y=x
  ·rw[if_pos e] at h;(injection h with h;subst h);exact⟨e▸.head _,by simp⟩
  ·rw[if_neg e] at h
   obtain⟨j,hj,rfl⟩:=Option.map_eq_some_iff.mp h
   obtain⟨h1,h2⟩:=ih hj
   exact⟨.tail _ h1,by simp;exact h2⟩
theorem fS {names:List Str}:∀{x:Str},aJ names x=none→x∉names:=by
 induction names with
 |nil=>intro x _ h;simp at h
 |cons y ys ih=>
  intro x h hm
  dsimp only[aJ] at h
  by_cases e:y=x
  ·rw[if_pos e] at h;contradiction
  ·rw[if_neg e] at h
   rcases Qy.mp hm with q|q
   ·exact e q.symm
   ·exact ih (Option.map_eq_none_iff.mp h) q
theorem cz {names:List Str}(nd:names.Nodup):∀(l:Sl) {x:Str} {i:Nat},aJ names x=some i→look (ad names l) x=aF l i:=by
 induction names with
 |nil=>intro l x i h;contradiction
 |cons y ys ih=>
  intro l x i h
  obtain⟨hn,nd'⟩:=List.nodup_cons.mp nd
  dsimp only[aJ] at h
  by_cases e:y=x
  ·rw[if_pos e] at h;(injection h with h;subst h)
   cases l with
   |nil=>rfl
   |cons o l=>
    cases o with
    |none=>show look (ad ys l) x=none;exact d8 l x (e▸hn)
    |some v=>show (if y=x then _ else _)=_;rw[if_pos e];rfl
  ·rw[if_neg e] at h
   obtain⟨j,hj,rfl⟩:=Option.map_eq_some_iff.mp h
   cases l with
   |nil=>rfl
   |cons o l=>
    have:=ih nd' l hj
    cases o with
    |none=>exact this
    |some v=>show (if y=x then _ else _)=_;rw[if_neg e];exact this
theorem rD (l:Sl)(i j:Nat)(v:Option V)(h:i<l.length):aF (l.set i v) j=if j=i then v else aF l j:=by
 unfold aF
 rw[List.getElem?_set]
 by_cases e:i=j
 ·subst e;simp[h]
 ·rw[if_neg e,if_neg (fun q=>e q.symm)]
theorem mF {names:List Str}:∀{x y:Str} {i:Nat},aJ names x=some i→aJ names y=some i→x=y:=by
 induction names with
 |nil=>intro x y i h;contradiction
 |cons z zs ih=>
  intro x y i h1 h2
  dsimp only[aJ] at h1 h2
  by_cases e1:z=x<;>by_cases e2:z=y
  ·exact e1.symm.trans e2
  ·rw[if_pos e1] at h1;rw[if_neg e2] at h2;(injection h1 with h1;subst h1)
   obtain⟨j,_,q⟩:=Option.map_eq_some_iff.mp h2;contradiction
  ·rw[if_neg e1] at h1;rw[if_pos e2] at h2;(injection h2 with h2;subst h2)
   obtain⟨j,_,q⟩:=Option.map_eq_some_iff.mp h1;contradiction
  ·rw[if_neg e1] at h1;rw[if_neg e2] at h2
   obtain⟨j,hj,rfl⟩:=Option.map_eq_some_iff.mp h1
   obtain⟨j',hj',q⟩:=Option.map_eq_some_iff.mp h2
   (injection q with q;subst q);exact ih hj hj'
theorem gY {names:List Str}(nd:names.Nodup){l:Sl}(hl:l.length=names.length){x:Str}{i:Nat}(h:aJ names x=some i)(v:V)(y:Str) :
  look (ad names (l.set i (some v))) y=look (put (ad names l) x v) y:=by
 rw[am]
 obtain⟨hx,hi⟩:=mT h
 cases hy:aJ names y with
 |none=>
  have hn:=fS hy
  rw[d8 _ _ hn,d8 _ _ hn,if_neg (fun (e:y=x)=>hn (e▸hx))]
 |some j=>
  rw[cz nd _ hy,cz nd _ hy,rD _ _ _ _ (by rw[hl];exact hi)]
  by_cases e:y=x
  ·subst e;rw[hy] at h;(injection h with h;subst h);rw[if_pos rfl,if_pos rfl]
  ·rw[if_neg e,if_neg (fun (q:j=i)=>e (mF (q▸hy) h))]
theorem Fst.look {hb h:Heap}{pr:List Nat}{env:Env}{l l':Loc}{c:aa}{α:Al}(F:Fst hb pr env l c α h)(e:∀x v,look l' x=some v→Mine.look l x=some v):Fst hb pr env l' c α h:=
 ⟨F.toCst,F.ns,F.cel,fun x v q=>F.loc x v (e x v q),F.fr⟩
theorem OkE.look {M:Model}{A:Around}{hb:Heap}{pr:List Nat}{env:Env}{l l':Loc}{c:aa}{β γ:Type}{I:aa→Al→Heap→β→γ→Prop}{t:Sem γ}{K:β→aa→Prop}(e:∀x,Mine.look l' x=Mine.look l x)
  (h:OkE M A hb pr env I l c t K):OkE M A hb pr env I l' c t K:=
 fun α s Q hs F hq=>h α s Q hs (F.look fun x v q=>by rw[e];exact q) fun b c' α' g h' tk ht k f le i=>hq b c' α' g h' tk ht k (f.look fun x v q=>by rw[←e];exact q) le i
theorem OkE.mono {M:Model}{A:Around}{hb:Heap}{pr:List Nat}{env:Env}{l:Loc}{c:aa}{β γ:Type}{I:aa→Al→Heap→β→γ→Prop}{t:Sem γ}{K K':β→aa→Prop}
  (h:OkE M A hb pr env I l c t K) (hK:∀b c',K b c'→K' b c'):OkE M A hb pr env I l c t K':=
 fun α s Q hs F hq=>h α s Q hs F fun b c' α' g h' tk ht k f le i=>hq b c' α' g h' tk ht (hK b c' k) f le i
def dO (prog:Program)(w:World)(hb:Heap)(x:Str)(v:V):Prop:=
 ∃g,(∀c α h,IsV c α h v g)∧∀(env:Env) (A:Around) (s:Shared) (Q:Value→Shared→Prop),EnvOk env→env.globals=mainGlobals→env.builtins=builtinsNs→env.kindOf x=some .globalImplicit→
  (∀b o,hb.get? b=some o→s.heap.get? b=some o)→Q g s→wpAny (model prog w) A (loadName env x) Q no s
structure Cx0 (prog:Program)(w:World)(hb:Heap)(K:Frag)(T:Tb)(P:Pm)(dep:Nat):Prop where
 kin:K.In hb
 glob:∀x v,T.G x=some v→dO prog w hb x v
 cls:ClsOk K P.C
 attr:∀nm,P.attr nm=true→findIn K (.ref P.C) nm=some none
 meth:∀nm f,T.meth nm=some f→findIn K (.ref P.C) nm=some (some (.ref f))∧typeIn K (.ref f)=some (.type "function")
 fn:∀a,P.isFn a=true→(∃k,Looks (model prog w) hb (keeperOf (.ref a)) k)∧FnOk prog w hb dep a (P.fn a)
 makes:makesIn K P.C=true
 ini:findIn K (.ref P.C) "__init__"=some (some (.ref P.init))∧typeIn K (.ref P.init)=some (.type "function")
 inif:FnOk prog w hb dep P.init (P.fn P.init)
 keep:keepIn K (.ref P.C)=true
 tab:∃C',TabOk K P.td C' P.tr
structure CxE (env:Env)(T:Tb):Prop where
 eo:EnvOk env
 gl:env.globals=mainGlobals
 bl:env.builtins=builtinsNs
 kg:∀x,T.kinds.lookup x=some .globalImplicit→env.kindOf x=some .globalImplicit
 kl:∀x,T.kinds.lookup x=some .local→env.kindOf x=some .local
 kc:∀x,T.kinds.lookup x=some .cell→env.kindOf x=some .cell∧∃b,env.cells.lookup x=some b
 nd:T.names.Nodup
section
variable {prog:Program}{w:World}{A:Around}{hb:Heap}{pr:List Nat}{env:Env}{T:Tb}{P:Pm}{K₀:Frag}{dep:Nat}
theorem jd {x:Str}(h:gS x=true):(x==("__debug__":Str))=false∧(x==("__classdict__":Str))=false:=by
 unfold gS at h
 simp only[Xv,Bool.not_eq_true'] at h
 exact h
theorem iP {T:Tb}{x:Str}{e:IE}(h:hH T x=some e):gS x=true∧((∃i,aJ T.names x=some i∧e=.v i)∨∃v,T.kinds.lookup x=some .globalImplicit∧T.G x=some v∧e=.g v):=by
 obtain⟨hn,h⟩:=ifO h
 refine⟨hn,?_⟩
 cases q:aJ T.names x with
 |some i=>rw[q] at h;exact .inl ⟨i,rfl,(Option.some.inj h).symm⟩
 |none=>
  rw[q] at h
  obtain⟨hk,h⟩:=ifO h
  obtain⟨v,hv,e⟩:=Option.map_eq_some_iff.mp h
  exact .inr ⟨v,hk,hv,e.symm⟩
theorem gh (X:Cx0 prog w hb K₀ T P dep)(E:CxE env T){x:Str}{p:Pos}{e:IE}(h:hH T x=some e){n:Nat}{l:Sl}{c:aa}{K:V→aa→Prop}(hw:wpE P n e l c K) :
  OkE (model prog w) A hb pr env IsV (ad T.names l) c (eval (.Name x p) env) K:=by
 obtain⟨hn,h⟩:=iP h
 obtain⟨n1,n2⟩:=jd hn
 cases n with
 |zero=>exact False.elim hw
 |succ n=>
  rcases h with ⟨i,hi,rfl⟩|⟨v,hk,hv,rfl⟩
  ·obtain⟨v,hv,hw⟩:=ax (f:=fun v=>K v c) (o:=aF l i) hw
   exact fun α s Q hs F hq=>wpAny_Name (u3 E.eo F (by rw[cz E.nd _ hi];exact hv) n2 fun g i=>hq v c α g s.heap s.toks hs hw F (.refl ..) i) n1
  ·obtain⟨g,ig,ld⟩:=X.glob x v hv
   exact fun α s Q hs F hq=>wpAny_Name (ld env A s Q E.eo E.gl E.bl (E.kg x hk) F.base (hq v c α g s.heap s.toks hs hw F (.refl ..) (ig _ _ _))) n1
theorem ni {c:aa}{α:Al}{h:Heap}{vs:List V}{ds:List D}{ws:List Value}(e:lg vs=some ds)(i:IsVs c α h vs ws):IsDs h (ay c α) ds ws:=by
 induction i generalizing ds with
 |nil=>exact Option.some.inj e▸.nil
 | @cons v w vs ws i r ih=>
  cases v with
  |d x=>
   obtain⟨ds',h1,rfl⟩:=Option.map_eq_some_iff.mp e
   exact .cons i (ih h1)
  |_=>contradiction
theorem cO {α β γ:Type}{a:Option α}{b:Option β}{f:α→β→γ}{r:γ}(h:(do return f (←a) (←b))=some r):∃x y,a=some x∧b=some y∧r=f x y:=by
 cases a with
 |none=>contradiction
 |some x=>cases b with
  |none=>contradiction
  |some y=>(injection h with h;subst h);exact⟨x,y,rfl,rfl,rfl⟩
theorem dJ {α γ:Type}{a:Option α}{f:α→γ}{r:γ}(h:(do return f (←a))=some r):∃x,a=some x∧r=f x:=by
 cases a with
 |none=>contradiction
 |some x=>(injection h with h;subst h);exact⟨x,rfl,rfl⟩
theorem eK {α β δ γ:Type}{a:Option α}{b:Option β}{d:Option δ}{f:α→β→δ→γ}{r:γ}(h:(do return f (←a) (←b) (←d))=some r):∃x y z,a=some x∧b=some y∧d=some z∧r=f x y z:=by
 cases a with
 |none=>contradiction
 |some x=>cases b with
  |none=>contradiction
  |some y=>cases d with
   |none=>contradiction
   |some z=>(injection h with h;subst h);exact⟨x,y,z,rfl,rfl,rfl,rfl⟩
end
section
variable {prog:Program}{w:World}{A:Around}{hb:Heap}{pr:List Nat}{env:Env}{T:Tb}{P:Pm}{K₀:Frag}{dep:Nat}
theorem sH {l:Loc}{c:aa}{K:V→aa→Prop}{d:D}{k:Const}{n:Nat}{p:Pos}(hd:(match k with | .int i=>d=.int i | .str x=>d=.str x | .bool b=>d=.bool b | .none=>d=.none|_=>False))(h:K (.d d) c) :
  OkE (model prog w) A hb pr env IsV l c (eval (.Constant k n p) env) K:=by
 refine OkE.mk fun α s Q hs F hq=>?_
 cases k with
 |int i=>(subst hd);exact wpAny_Constant_int (hq _ c α _ s.heap _ h F (.refl ..) (.int _ _))
 |str x=>(subst hd);exact wpAny_Constant_str (hq _ c α _ s.heap _ h F (.refl ..) (.str _ _))
 |bool b=>(subst hd);exact Zp (hq _ c α _ s.heap s.toks h F (.refl ..) (.bool _))
 |none=>(subst hd);exact Zp (hq _ c α _ s.heap s.toks h F (.refl ..) .none)
 |_=>exact hd.elim
theorem kr (X:Cx0 prog w hb K₀ T P dep)(R:Room (dep+1) A){l:Loc}{c:aa}{k:Option Nat}{u:V}{vs:List V}{K:V→aa→Prop}(h:ek P c k u vs K){f:Value}{ws:List Value}{α:Al}{s:Shared}(hs:1≤s.toks)
  (F:Fst hb pr env l c α s.heap) (hf:IsV c α s.heap u f) (iv:IsVs c α s.heap vs ws) {Q:Value→Shared→Prop}
  (hq:∀v c'' α'' g h'' tk,1≤tk→K v c''→Fst hb pr env l c'' α'' h''→Le c α s.heap c'' α'' h''→IsV c'' α'' h'' v g→Q g {s with heap:=h'',toks:=tk}):wpAny (model prog w) A (call f ws) Q no s:=by
 refine aq hs ?_
 cases u with
 |bi b=>
  obtain rfl:f=_:=hf
  exact y4 R.handled F h iv fun v c' α' g h' tk hK F' L' i ht=>hq v c' α' g h' tk ht hK F' L' i
 |val w'=>
  obtain⟨a,ha,hfn,hP⟩:=ax h
  obtain rfl:=jz ha
  obtain rfl:f=_:=hf
  obtain⟨_,FO⟩:=X.fn a hfn
  refine wpAny_call ?_
  refine FO A (R.less (Nat.le_succ _)) vs ws c α s _ _ hs ⟨F.base,F.cell,F.fresh,F.inj,fun _ hk=>by cases hk⟩ iv hP fun v c' α' g h' tk hK C' L' i=>?_
  intro ht
  have C'':Cst hb pr c' α' h':=⟨C'.base,C'.cell,C'.fresh,C'.inj,fun k hk=>hK.1 k (F.prs k hk)⟩
  exact hq v c' α' g h' tk ht hK.2 (F.le L' C'') L' i
 |obj j=>
  obtain⟨id,g,hj,rfl,p1⟩:=fJ h
  obtain⟨v,rfl,p2⟩:=gH p1
  obtain⟨d,rfl,p3⟩:=cR p2
  obtain⟨xs,hg,h1,h2⟩:=cH p3
  obtain⟨w',rfl,i⟩:=iv.one
  obtain⟨rfl,hjm⟩:=hf
  obtain⟨hb',hgm⟩:=F.toCst.cell j _ hj
  obtain⟨us,ep,gk,rk⟩:=F.toCst.cell g _ hg
  refine lE (xs:=us.toArray) hb' gk (by rw[Xq,←rk.length];exact aH h1) fun h8 hl8 hs8=>?_
  intro ht
  obtain⟨F8,L8⟩:=F.set hgm (o:=.list (xs++[d])) hs8 (fun L=>by
   obtain⟨ep8,g8⟩:=hl8
   exact⟨us++[w'],ep8,by rw[g8];simp,(IsDs.append (.cons (L.isD i) .nil) (L.isDs rk))⟩)
  exact hq _ _ _ _ _ s.toks ht h2 F8 L8 .none
 |_=>exact h.elim
theorem iT (X:Cx0 prog w hb K₀ T P dep){c:aa}{u:V}{f:Value}{α:Al}{h:Heap}(C:Cst hb pr c α h)(hf:IsV c α h u f)(hu:(∃b,u=.bi b)∨(∃a,u=.val (.ref a)∧P.isFn a=true)∨∃j g,u=.obj j∧ae c j=some (.bound "list.append" g)) :
  ∃k,Looks (model prog w) h (keeperOf f) k:=by
 rcases hu with ⟨b,rfl⟩|⟨a,rfl,ha⟩|⟨j,g,rfl,hj⟩
 ·(subst hf);exact⟨.machine,by cases b<;>exact Looks.of_pure rfl⟩
 ·(subst hf)
  obtain⟨⟨k,hk⟩,_⟩:=X.fn a ha
  exact⟨k,hk.keeps C.base⟩
 ·obtain⟨rfl,_⟩:=hf
  obtain⟨hb',_⟩:=C.cell j _ hj
  exact⟨.machine,jm hb'⟩
def qM (P:Pm)(c:aa)(u:V):Prop:=(∃b,u=.bi b)∨(∃a,u=.val (.ref a)∧P.isFn a=true)∨∃j g,u=.obj j∧ae c j=some (.bound "list.append" g)
theorem gL {c:aa}{k:Option Nat}{u:V}{vs:List V}{K:V→aa→Prop}(h:ek P c k u vs K):qM P c u:=by
 cases u with
 |bi b=>exact .inl ⟨_,rfl⟩
 |val w=>
  obtain⟨a,ha,h⟩:=ax h
  exact .inr (.inl ⟨a,congrArg V.val (jz ha),h.1⟩)
 |obj j=>
  obtain⟨id,g,hj,rfl,h⟩:=fJ h
  exact .inr (.inr ⟨_,_,rfl,hj⟩)
 |_=>exact h.elim
end
section
variable {prog:Program}{w:World}{A:Around}{hb:Heap}{pr:List Nat}{env:Env}{T:Tb}{P:Pm}{K₀:Frag}{dep:Nat}{l:Loc}{c:aa}
abbrev Ev (prog:Program) (w:World) (A:Around) (hb:Heap) (pr:List Nat) (env:Env) (l:Loc) (c:aa) (e:Expr) (K:V→aa→Prop):Prop:=OkE (model prog w) A hb pr env IsV l c (eval e env) K
abbrev Tst (prog:Program) (w:World) (A:Around) (hb:Heap) (pr:List Nat) (env:Env) (l:Loc) (c:aa) (e:Expr) (K:Bool→aa→Prop):Prop:=OkE (model prog w) A hb pr env okB l c (isTrue e env (eval e env)) K
theorem yH {a b:Expr}{op:Operator}{p:Pos}{K:V→aa→Prop}(h:Ev prog w A hb pr env l c a fun u c1=>Ev prog w A hb pr env l c1 b fun v c2=>ip c2 op u v fun d=>K (.d d) c2):Ev prog w A hb pr env l c (.BinOp a op b p) K:=by
 intro α s Q hs F hq
 refine wpAny_BinOp (h α s _ hs F fun u c1 α1 g1 h1 t1 ht1 k1 F1 L1 i1=>?_)
 refine k1 α1 _ _ ht1 F1 fun v c2 α2 g2 h2 t2 ht2 k2 F2 L2 i2=>?_
 refine aq (s:={s with heap:=h2,toks:=t2}) ht2 (xk (s:={s with heap:=h2,toks:=t2}) F2 k2 (L2.isV i1) i2 fun d g h' tk hK F' L' i ht=>?_)
 exact hq _ c2 α2 g h' tk ht hK F' ((L1.trans L2).trans L') i
theorem eY {op:CmpOp}{e:Expr}(h:fm e=true):behindInMarks op e=false:=by
 cases e<;>first|rfl|exact absurd h Bool.false_ne_true
theorem yk (R:Room (dep+1) A){a b:Expr}{op:CmpOp}{p:Pos}(hb':fm b=true){K:V→aa→Prop}(h:Ev prog w A hb pr env l c a fun u c1=>Ev prog w A hb pr env l c1 b fun v c2=>fA c2 op u v fun r=>K (.d (.bool r)) c2) :
  Ev prog w A hb pr env l c (.Compare a [op] [b] p) K:=by
 intro α s Q hs F hq
 refine wpAny_Compare1 (h α s _ hs F fun u c1 α1 g1 h1 t1 ht1 k1 F1 L1 i1=>?_) (eY hb')
 refine k1 α1 _ _ ht1 F1 fun v c2 α2 g2 h2 t2 ht2 k2 F2 L2 i2=>?_
 exact pX (s:={s with heap:=h2,toks:=t2}) F2.toCst R.hu k2 (L2.isV i1) i2 fun r hK=>hq _ c2 α2 _ h2 t2 ht2 hK F2 (L1.trans L2) (.bool _)
theorem wG (R:Room (dep+1) A){a b:Expr}{op:CmpOp}{p:Pos}(hb':fm b=true){K:Bool→aa→Prop}(h:Ev prog w A hb pr env l c a fun u c1=>Ev prog w A hb pr env l c1 b fun v c2=>fA c2 op u v fun r=>K r c2) :
  Tst prog w A hb pr env l c (.Compare a [op] [b] p) K:=by
 intro α s Q hs F hq
 refine wpAny_isTrue_Compare1 (h α s _ hs F fun u c1 α1 g1 h1 t1 ht1 k1 F1 L1 i1=>?_) (eY hb')
 refine k1 α1 _ _ ht1 F1 fun v c2 α2 g2 h2 t2 ht2 k2 F2 L2 i2=>?_
 exact pX (s:={s with heap:=h2,toks:=t2}) F2.toCst R.hu k2 (L2.isV i1) i2 fun r hK=>wpAny_truthy_bool (hq _ c2 α2 _ h2 t2 ht2 hK F2 (L1.trans L2) rfl)
theorem yF {a:Expr}{p:Pos}{K:V→aa→Prop}(h:Ev prog w A hb pr env l c a fun u c1=>bR c1 u fun r=>K (.d (.bool !r)) c1):Ev prog w A hb pr env l c (.UnaryOp .Not a p) K:=by
 intro α s Q hs F hq
 refine PyProof.Rows.UnaryOp_ (h α s _ hs F fun u c1 α1 g1 h1 t1 ht1 k1 F1 L1 i1=>?_)
 refine not_of (aq (s:={s with heap:=h1,toks:=t1}) ht1 (eP (s:={s with heap:=h1,toks:=t1}) F1.toCst k1 i1 fun r tk hK ht=>?_))
 exact hq _ c1 α1 _ h1 tk ht hK F1 L1 (.bool _)
theorem wu {a:Expr}{p:Pos}{K:Bool→aa→Prop}(h:Tst prog w A hb pr env l c a fun r c1=>K (!r) c1):Tst prog w A hb pr env l c (.UnaryOp .Not a p) K:=by
 intro α s Q hs F hq
 refine isTrue_not (h α s _ hs F fun r c1 α1 g1 h1 t1 ht1 k1 F1 L1 i1=>?_)
 (subst i1)
 exact hq _ c1 α1 _ h1 t1 ht1 k1 F1 L1 rfl
theorem zk {i:Int}{k:Nat}{p q:Pos}{K:V→aa→Prop}(h:K (.d (.int (-i))) c):Ev prog w A hb pr env l c (.UnaryOp .USub (.Constant (.int i) k q) p) K:=by
 refine OkE.mk fun α s Q hs F hq=>?_
 refine PyProof.Rows.UnaryOp_ (wpAny_Constant_int ?_)
 exact PySem.P.neg_int (hq _ c α _ s.heap _ h F (.refl ..) (.int _ _))
theorem nL {M:Model}{E:Value→Shared→Prop}{s:Shared}{op:BoolOp}{a b:Expr}{r:List Expr}{p:Pos}{Q:Value→Shared→Prop}
  (h:wpAny M A (eval a env) (fun v s₁=>wpAny M A (truthy v) (fun t s₂=>match op,t with | .And,false | .Or,true=>Q v s₂|_,_=>wpAny M A (boolOp p op (evalEach (b::r) env)) Q E s₂) E s₁) E s):wpAny M A (eval (.BoolOp op (a::b::r) p) env) Q E s:=by
 show wpAny M A (do let v ←eval a env;standAt p;let t ←holding [v] (truthy v);match op,t with | .And,false | .Or,true=>pure v|_,_=>boolOp p op (evalEach (b::r) env)) Q E s
 refine Zb (Jq h (fun v s₁ h₁=>Zb (Jj (Zb (Jx (Jq h₁ (fun t s₂ h₂=>?_) fun _ _ x=>x))))) fun _ _ x=>x)
 cases op<;>cases t<;>first|exact Zp h₂|exact h₂
theorem yN {a b:Expr}{r:List Expr}{p:Pos}{K:V→aa→Prop}(h:Ev prog w A hb pr env l c a fun u c1=>bR c1 u fun t=>(t=false→K u c1)∧(t=true→OkE (model prog w) A hb pr env IsV l c1 (boolOp p .And (evalEach (b::r) env)) K)) :
  Ev prog w A hb pr env l c (.BoolOp .And (a::b::r) p) K:=by
 intro α s Q hs F hq
 refine nL (h α s _ hs F fun u c1 α1 g1 h1 t1 ht1 k1 F1 L1 i1=>?_)
 refine aq (s:={s with heap:=h1,toks:=t1}) ht1 (eP (s:={s with heap:=h1,toks:=t1}) F1.toCst k1 i1 fun t tk hK ht=>?_)
 cases t with
 |false=>exact hq u c1 α1 g1 h1 tk ht (hK.1 rfl) F1 L1 i1
 |true=>exact hK.2 rfl α1 {s with heap:=h1,toks:=tk} Q ht F1 fun v c2 α2 g2 h2 t2 ht2 k2 F2 L2 i2=>hq v c2 α2 g2 h2 t2 ht2 k2 F2 (L1.trans L2) i2
theorem zF {a b:Expr}{r:List Expr}{p:Pos}{K:V→aa→Prop}(h:Ev prog w A hb pr env l c a fun u c1=>bR c1 u fun t=>(t=true→K u c1)∧(t=false→OkE (model prog w) A hb pr env IsV l c1 (boolOp p .Or (evalEach (b::r) env)) K)) :
  Ev prog w A hb pr env l c (.BoolOp .Or (a::b::r) p) K:=by
 intro α s Q hs F hq
 refine nL (h α s _ hs F fun u c1 α1 g1 h1 t1 ht1 k1 F1 L1 i1=>?_)
 refine aq (s:={s with heap:=h1,toks:=t1}) ht1 (eP (s:={s with heap:=h1,toks:=t1}) F1.toCst k1 i1 fun t tk hK ht=>?_)
 cases t with
 |true=>exact hq u c1 α1 g1 h1 tk ht (hK.1 rfl) F1 L1 i1
 |false=>exact hK.2 rfl α1 {s with heap:=h1,toks:=tk} Q ht F1 fun v c2 α2 g2 h2 t2 ht2 k2 F2 L2 i2=>hq v c2 α2 g2 h2 t2 ht2 k2 F2 (L1.trans L2) i2
theorem qa {a:Expr}{r:List Expr}{p:Pos}{whole:Sem Value}{K:Bool→aa→Prop}(h:Tst prog w A hb pr env l c a fun t c1=>(t=false→K false c1)∧(t=true→OkE (model prog w) A hb pr env okB l c1 (isTrue (.BoolOp .And r p) env whole) K)) :
  OkE (model prog w) A hb pr env okB l c (isTrue (.BoolOp .And (a::r) p) env whole) K:=by
 intro α s Q hs F hq
 refine isTrue_and (h α s _ hs F fun t c1 α1 g1 h1 t1 ht1 k1 F1 L1 i1=>?_)
 cases i1
 cases t with
 |false=>exact hq false c1 α1 _ h1 t1 ht1 (k1.1 rfl) F1 L1 rfl
 |true=>exact k1.2 rfl α1 _ Q ht1 F1 fun v c2 α2 g2 h2 t2 ht2 k2 F2 L2 i2=>hq v c2 α2 g2 h2 t2 ht2 k2 F2 (L1.trans L2) i2
theorem vm {a:Expr}{r:List Expr}{p:Pos}{whole:Sem Value}{K:Bool→aa→Prop}(h:Tst prog w A hb pr env l c a fun t c1=>(t=true→K true c1)∧(t=false→OkE (model prog w) A hb pr env okB l c1 (isTrue (.BoolOp .Or r p) env whole) K)) :
  OkE (model prog w) A hb pr env okB l c (isTrue (.BoolOp .Or (a::r) p) env whole) K:=by
 intro α s Q hs F hq
 refine isTrue_or (h α s _ hs F fun t c1 α1 g1 h1 t1 ht1 k1 F1 L1 i1=>?_)
 cases i1
 cases t with
 |true=>exact hq true c1 α1 _ h1 t1 ht1 (k1.1 rfl) F1 L1 rfl
 |false=>exact k1.2 rfl α1 _ Q ht1 F1 fun v c2 α2 g2 h2 t2 ht2 k2 F2 L2 i2=>hq v c2 α2 g2 h2 t2 ht2 k2 F2 (L1.trans L2) i2
theorem rQ {p:Pos}{whole:Sem Value}{K:Bool→aa→Prop}(h:K true c):OkE (model prog w) A hb pr env okB l c (isTrue (.BoolOp .And [] p) env whole) K:=
 fun α s Q hs F hq=>isTrue_and_nil (hq true c α true s.heap s.toks hs h F (.refl ..) rfl)
theorem u6 {p:Pos}{whole:Sem Value}{K:Bool→aa→Prop}(h:K false c):OkE (model prog w) A hb pr env okB l c (isTrue (.BoolOp .Or [] p) env whole) K:=
 fun α s Q hs F hq=>isTrue_or_nil (hq false c α false s.heap s.toks hs h F (.refl ..) rfl)
theorem qh {e:Expr}{K:Bool→aa→Prop}(he:isTrue e env (eval e env)=(do let v ←eval e env;standAt e.pos;holding [v] (truthy v)))(h:Ev prog w A hb pr env l c e fun u c1=>bR c1 u fun r=>K r c1):Tst prog w A hb pr env l c e K:=by
 intro α s Q hs F hq
 refine isTrue_plain (h α s _ hs F fun u c1 α1 g1 h1 t1 ht1 k1 F1 L1 i1=>?_) he
 refine aq (s:={s with heap:=h1,toks:=t1}) ht1 (eP (s:={s with heap:=h1,toks:=t1}) F1.toCst k1 i1 fun t tk hK ht=>?_)
 exact hq _ c1 α1 _ h1 tk ht hK F1 L1 rfl
theorem wO {a i:Expr}{p:Pos}(hi:de i=true){K:V→aa→Prop}(h:Ev prog w A hb pr env l c a fun u c1=>Ev prog w A hb pr env l c1 i fun v c2=>ef c2 u v fun d=>K (.d d) c2):Ev prog w A hb pr env l c (.Subscript a i p) K:=by
 intro α s Q hs F hq
 refine Subscript_ (h α s _ hs F fun u c1 α1 g1 h1 t1 ht1 k1 F1 L1 i1=>?_)
 refine k1 α1 _ _ ht1 F1 fun v c2 α2 g2 h2 t2 ht2 k2 F2 L2 i2=>?_
 refine aq (s:={s with heap:=h2,toks:=t2}) ht2 (tI (s:={s with heap:=h2,toks:=t2}) F2.toCst hi k2 (L2.isV i1) i2 fun d g tk hK id ht=>?_)
 exact hq _ c2 α2 g h2 tk ht hK F2 (L1.trans L2) id
theorem tU {a:Expr}{lo hi:Option Expr}{p q:Pos}{K:V→aa→Prop}(h:Ev prog w A hb pr env l c a fun u c1=>OkE (model prog w) A hb pr env IsV l c1 (evalPart lo env) fun v c2=>OkE (model prog w) A hb pr env IsV l c2 (evalPart hi env) fun x c3=>ju c3 u v x fun d=>K (.d d) c3) :
  Ev prog w A hb pr env l c (.Subscript a (.Slice lo hi none q) p) K:=by
 intro α s Q hs F hq
 refine Subscript_ (h α s _ hs F fun u c1 α1 g1 h1 t1 ht1 k1 F1 L1 i1=>?_)
 refine wpAny_Slice (k1 α1 _ _ ht1 F1 fun v c2 α2 g2 h2 t2 ht2 k2 F2 L2 i2=>?_)
 refine k2 α2 _ _ ht2 F2 fun x c3 α3 g3 h3 t3 ht3 k3 F3 L3 i3=>?_
 refine evalPart_none_step ?_
 refine aq (s:={s with heap:=h3.push _,toks:=t3}) ht3 (qd (s:={s with heap:=h3,toks:=t3}) (lo:=a) (hi:=a) F3 k3 (L3.isV (L2.isV i1)) (L3.isV i2) i3 fun d g h' tk hK F' L' id ht=>?_)
 exact hq _ c3 α3 g h' tk ht hK F' (((L1.trans L2).trans L3).trans L') id
theorem rv {es:List Expr}{k:Nat}{p:Pos}(hst:bK es=true){K:V→aa→Prop}(h:OkArgs prog w A hb pr env l es c fun vs c1=>aw (lg vs) fun ds=>ds.length≤big∧K (.d (.tup ds)) c1):Ev prog w A hb pr env l c (.Tuple es k p) K:=by
 intro α s Q hs F hq
 refine Tuple_ ?_
 rw[cA env p hst]
 refine gc h α s _ hs F fun vs c1 α1 ws h1 t1 ht1 k1 F1 L1 i1=>?_
 obtain⟨ds,e,k1⟩:=ax k1
 have id:=ni e i1
 refine wpAny_newObj_type ?_ (by show ws.toArray.size≤sizeLine;rw[Xq,←id.length];exact aH k1.1)
 obtain⟨F',L'⟩:=F1.push (bq "tuple" ws 0)
 exact hq _ c1 α1 _ _ t1 ht1 k1.2 F' (L1.trans L') (.tup (Xj _ rfl) (be F1.toCst) (L'.isDs id))
theorem xT {es:List Expr}{k:Option Nat}{p:Pos}(hst:bK es=true){K:V→aa→Prop}(h:OkArgs prog w A hb pr env l es c fun vs c1=>aw (lg vs) fun ds=>ds.length≤big∧dj c1 k ds K):Ev prog w A hb pr env l c (.List es p) K:=by
 intro α s Q hs F hq
 refine List_ ?_
 rw[cA env p hst]
 refine gc h α s _ hs F fun vs c1 α1 ws h1 t1 ht1 k1 F1 L1 i1=>?_
 obtain⟨ds,e,k1⟩:=ax k1
 have id:=ni e i1
 refine wpAny_newObj_type ?_ (by show ws.toArray.size≤sizeLine;rw[Xq,←id.length];exact aH k1.1)
 refine gQ (s:={s with heap:=h1,toks:=t1}) (ep:=0) (K:=fun v c'=>K v c') (Q:=fun g s'=>1≤s'.toks→Q g s') F1 k1.2 id (fun _ _ e=>Xz _ e) (Xj _ rfl) (fun v c' α' g h' tk hK F' L' i ht=>?_) t1 ht1
 exact hq v c' α' g h' tk ht hK F' (L1.trans L') i
theorem vF {M:Model}{E:Value→Shared→Prop}{s:Shared}{a:Expr}{nm:Str}{p:Pos}(ha:bn a=true){Q:Value→Shared→Prop}(h:wpAny (model prog w) A (eval a env) (fun o s₁=>wpAny (model prog w) A (getAttr o nm true) Q E s₁) E s):wpAny (model prog w) A (eval (.Attribute a nm p) env) Q E s:=by
 have e:eval (.Attribute a nm p) env=(do
   let o ←attributeBase a nm env (eval a env)
   standAt p.atName
   let r ←holding [o] (getAttr o nm true)
   letTemporaryGo a o r
   pure r):=rfl
 rw[e]
 exact Zb (nY ha (Jq h (fun o s₁ h₁=>Zb (Jj (Zb (Jx (Jq h₁ (fun r s₂ h₂=>Zb (wpAny_letTemporaryGo (Zp h₂))) fun _ _ x=>x))))) fun _ _ x=>x))
theorem kQ {u:V}{Kf:List (Str×V)→Prop}(h:gC P c u Kf):∃k dk fs,u=.obj k∧ae c k=some (.inst P.C dk)∧ae c dk=some (.ns fs)∧Kf fs:=by
 obtain⟨k,e,h⟩:=dQ h
 obtain⟨C,dk,hk,rfl,h⟩:=gR h
 obtain⟨fs,hd,h⟩:=lB h
 exact⟨k,dk,fs,e,hk,hd,h⟩
theorem wN (X:Cx0 prog w hb K₀ T P dep){a:Expr}{nm:Str}{p:Pos}(ha:bn a=true){K:V→aa→Prop}(h:Ev prog w A hb pr env l c a fun u c1=>P.attr nm=true∧gC P c1 u fun fs=>aw (look fs nm) fun v=>iM v=true∧K v c1) :
  Ev prog w A hb pr env l c (.Attribute a nm p) K:=by
 intro α s Q hs F hq
 refine vF (M:=model prog w) ha (h α s _ hs F fun u c1 α1 g1 h1 t1 ht1 k1 F1 L1 i1=>?_)
 obtain⟨hn,k1⟩:=k1
 obtain⟨k,dk,fs,rfl,hk,hdk,hv⟩:=kQ k1
 obtain⟨v,e,hv⟩:=ax hv
 ·obtain⟨rfl,_⟩:=i1
  refine aq (s:={s with heap:=h1,toks:=t1}) ht1 (tj (s:={s with heap:=h1,toks:=t1}) F1 X.kin hk hdk X.cls (X.attr nm hn) e hv.1 fun g tk i ht=>?_)
  exact hq v c1 α1 g h1 tk ht hv.2 F1 L1 i
theorem y0 {a:Expr}{k:Nat}{p:Pos}(ha:bn a=true){K:V→aa→Prop}(h:Ev prog w A hb pr env l c a fun u c1=>gy u fun j=>cG (ae c1 j) fun _=>k∉dom c1∧K (.obj k) (c1++[(k,.bound "list.append" j)])):Ev prog w A hb pr env l c (.Attribute a Mn.append.nm p) K:=by
 intro α s Q hs F hq
 refine vF (M:=model prog w) ha (h α s _ hs F fun u c1 α1 g1 h1 t1 ht1 k1 F1 L1 i1=>?_)
 obtain⟨j,rfl,k1⟩:=dQ k1
 obtain⟨xs,hj,k1⟩:=cH k1
 obtain⟨rfl,hjm⟩:=i1
 obtain⟨us,ep,gk,rk⟩:=F1.toCst.cell j _ hj
 refine jV gk ?_
 obtain⟨F2,L2⟩:=F1.new k1.1 (kf "list.append" (α1 j)) (o:=.bound "list.append" j) (fun L=>⟨by rw[Xj _ rfl,L.agree j hjm],L.dom j hjm⟩)
 exact hq _ _ _ _ _ (t1+1) (Nat.le_succ_of_le ht1) k1.2 F2 (L1.trans L2) ⟨by rw[show upd α1 k h1.objs.size k=h1.objs.size from if_pos rfl],by rw[af];simp⟩
end
section
variable {prog:Program}{w:World}{A:Around}{hb:Heap}{pr:List Nat}{env:Env}{T:Tb}{P:Pm}{K₀:Frag}{dep:Nat}{l:Loc}{c:aa}
theorem OkArgs.mono:∀{args:List Expr} {c:aa} {K K':List V→aa→Prop},OkArgs prog w A hb pr env l args c K→(∀vs c',K vs c'→K' vs c')→OkArgs prog w A hb pr env l args c K'
 | [],_,_,_,h,hK=>hK _ _ h
 |e::r,_,_,_,h,hK=>OkE.mono h fun v c' q=>OkArgs.mono q fun vs c'' k=>hK _ _ k
theorem wK (X:Cx0 prog w hb K₀ T P dep)(R:Room (dep+1) A){x:Str}{p pos:Pos}{args:List Expr}{k:Option Nat}(hst:bK args=true){K:V→aa→Prop}
  (h:Ev prog w A hb pr env l c (.Name x p) fun u c1=>OkArgs prog w A hb pr env l args c1 fun vs c2=>ek P c2 k u vs K):Ev prog w A hb pr env l c (.Call (.Name x p) args [] pos) K:=by
 intro α s Q hs F hq
 refine Call_Name (cA env pos hst) (h α s _ hs F fun u c1 α1 g1 h1 t1 ht1 k1 F1 L1 i1=>?_)
 refine bW (s:={s with heap:=h1,toks:=t1}) (fs:=[]) ht1 F1 .nil (k1.mono fun vs c2 hk α2 s2 ws ht2 F2 L2 iv=>?_) fun v c' α' g h' tk ht hK F' L' i=>hq v c' α' g h' tk ht hK F' (L1.trans L') i
 refine⟨iT X F2.toCst (L2.isV i1) (gL hk),fun Q hq'=>?_⟩
 exact kr X R hk ht2 F2 (L2.isV i1) iv hq'
theorem bH {M:Model}{h:Heap}(id:String):∃k,Looks M h (keeperOf (.builtin id)) k:=⟨.machine,Looks.of_pure rfl⟩
theorem w7 {o:Expr}{m:Mn}{apos pos:Pos}{args:List Expr}(hsup:bn o=true)(hst:bK args=true)(hfew:args.length<30)(hline:(apos.endLine==pos.line)=true){K:V→aa→Prop}
  (h:Ev prog w A hb pr env l c o fun u c1=>dH c1 u m∧OkArgs prog w A hb pr env l args c1 fun vs c2=>nA c2 u m vs K):Ev prog w A hb pr env l c (.Call (.Attribute o m.nm apos) args [] pos) K:=by
 intro α s Q hs F hq
 refine dR hsup hst hfew hline (h α s _ hs F fun u c1 α1 g1 h1 t1 ht1 k1 F1 L1 i1=>?_)
 obtain⟨hm,k1⟩:=k1
 cases u with
 |d x=>
  obtain⟨x,e,hm⟩:=cy (u:=.d x) hm
  rw[e] at i1 k1
  have i1':=i1
  obtain⟨t,rfl⟩:=IsD.inv i1'
  refine qk hm ?_
  refine bW (s:={s with heap:=h1,toks:=t1}) (fs:=[.d (.str x)]) ht1 F1 (.cons i1 .nil) (k1.mono fun vs c2 hk α2 s2 ws ht2 F2 L2 iv=>?_) fun v c' α' g h' tk ht hK F' L' i=>hq v c' α' g h' tk ht hK F' (L1.trans L') i
  refine⟨bH _,fun Q hq'=>?_⟩
  obtain⟨w0,ws',rfl,i0,ir⟩:=iv.inv
  obtain⟨t',rfl⟩:=IsD.inv i0
  exact aq ht2 (mG F2 hk.2 ir fun v c' α' g h' tk hK F' L' i ht=>hq' v c' α' g h' tk ht hK F' L' i)
 |obj k=>
  obtain⟨hm,hk⟩:=hm
  obtain⟨xs,hx,_⟩:=cH hk
  obtain⟨rfl,hkm⟩:=i1
  obtain⟨us,ep,gk,rk⟩:=F1.toCst.cell k _ hx
  refine sC hm gk ?_
  refine bW (s:={s with heap:=h1,toks:=t1}) (fs:=[.obj k]) ht1 F1 (.cons ⟨rfl,hkm⟩ .nil) (k1.mono fun vs c2 hk2 α2 s2 ws ht2 F2 L2 iv=>?_) fun v c' α' g h' tk ht hK F' L' i=>hq v c' α' g h' tk ht hK F' (L1.trans L') i
  refine⟨bH _,fun Q hq'=>?_⟩
  obtain⟨w0,ws',rfl,i0,ir⟩:=iv.inv
  obtain⟨rfl,_⟩:=i0
  obtain⟨ys,hy,hk2⟩:=cH hk2.2
  exact aq ht2 (lY F2 hy hk2 ir fun v c' α' g h' tk hK F' L' i ht=>hq' v c' α' g h' tk ht hK F' L' i)
 |mt e=>
  obtain⟨r,rfl,im⟩:=i1
  have em:m=.end_:=by cases m<;>first|rfl|exact absurd hm Bool.false_ne_true
  subst em
  refine rq im ?_
  refine bW (s:={s with heap:=h1,toks:=t1}) (fs:=[.mt e]) ht1 F1 (.cons ⟨r,rfl,im⟩ .nil) (k1.mono fun vs c2 hk α2 s2 ws ht2 F2 L2 iv=>?_) fun v c' α' g h' tk ht hK F' L' i=>hq v c' α' g h' tk ht hK F' (L1.trans L') i
  refine⟨bH _,fun Q hq'=>?_⟩
  obtain⟨_,rfl,hk⟩:=hk
  obtain⟨w',rfl,i0⟩:=iv.one
  obtain⟨r2,rfl,im2⟩:=i0
  exact aq ht2 (xQ im2 fun t tk ht=>hq' _ c2 α2 _ s2.heap tk ht hk F2 (Le.refl ..) (.int _ _))
 |_=>exact hm.elim
theorem tx (X:Cx0 prog w hb K₀ T P dep)(R:Room (dep+1) A){o:Expr}{nm:Str}{f:Addr}(hf:T.meth nm=some f){apos pos:Pos}{args:List Expr}(hsup:bn o=true)(hst:bK args=true)(hfew:args.length<30)(hline:(apos.endLine==pos.line)=true){K:V→aa→Prop}
  (h:Ev prog w A hb pr env l c o fun u c1=>(gC P c1 u fun fs=>look fs nm=none)∧OkArgs prog w A hb pr env l args c1 fun vs c2=>P.isFn f=true∧P.fn f (u::vs) c2 (fun v c3=>eJ c2 c3∧K v c3)):Ev prog w A hb pr env l c (.Call (.Attribute o nm apos) args [] pos) K:=by
 intro α s Q hs F hq
 refine dR hsup hst hfew hline (h α s _ hs F fun u c1 α1 g1 h1 t1 ht1 k1 F1 L1 i1=>?_)
 obtain⟨hi,k1⟩:=k1
 obtain⟨k,dk,fs,rfl,hk,hdk,hv⟩:=kQ hi
 obtain⟨rfl,hkm⟩:=i1
 obtain⟨m1,m2⟩:=X.meth nm f hf
 refine u5 (s:={s with heap:=h1,toks:=t1}) F1 X.kin hk hdk X.cls m1 m2 hv ?_
 refine bW (s:={s with heap:=h1,toks:=t1}) (fs:=[.obj k]) ht1 F1 (.cons ⟨rfl,hkm⟩ .nil) (k1.mono fun vs c2 hk2 α2 s2 ws ht2 F2 L2 iv=>?_) fun v c' α' g h' tk ht hK F' L' i=>hq v c' α' g h' tk ht hK F' (L1.trans L') i
 refine⟨iT X (u:=.val (.ref f)) F2.toCst rfl (.inr (.inl ⟨f,rfl,hk2.1⟩)),fun Q hq'=>?_⟩
 exact kr X R (u:=.val (.ref f)) (k:=none) (vs:=.obj k::vs) hk2 ht2 F2 rfl iv hq'
theorem w5 {o:Expr}{y z:Str}{apos pos:Pos}{ky kz:Nat}{py pz:Pos}(hsup:bn o=true)(hline:(apos.endLine==pos.line)=true){K:V→aa→Prop}
  (h:Ev prog w A hb pr env l c o fun u c1=>fU u fun x=>x.length≤big∧z.length≤14∧(y==z)=false∧K (.d (.str (Txt.replace x y z))) c1):Ev prog w A hb pr env l c (.Call (.Attribute o (Qq "replace") apos) [.Constant (.str y) ky py,.Constant (.str z) kz pz] [] pos) K:=by
 intro α s Q hs F hq
 refine dR hsup rfl (by simp) hline (h α s _ hs F fun u c1 α1 g1 h1 t1 ht1 k1 F1 L1 i1=>?_)
 obtain⟨x,rfl,hx,hz,hyz,hK⟩:=cy k1
 ·obtain⟨t,rfl⟩:=IsD.inv i1
  refine GM.replace ?_
  refine dt rfl (Calls.evalArgs_plain (Calls.spliced_cons (wpAny_mkText (Calls.spliced_cons (wpAny_mkText (Calls.spliced_nil ?_))))))
  refine⟨bH _,?_⟩
  refine aq (s:={s with heap:=h1,toks:=t1+1+1}) (by show 1≤t1+1+1;exact R21) ?_
  refine SC.replaceW (u:=t1) (v:=t1+1) (Nat.ne_of_gt ht1) (Nat.succ_ne_zero t1) (Nat.ne_of_lt (Nat.lt_succ_self t1)) hyz hx hz (fun t' k ht=>?_)
  exact hq _ c1 α1 _ h1 k ht hK F1 L1 (.str _ _)
theorem jE {M:Model}{E:Value→Shared→Prop}{s:Shared}{x:Str}{t:Tok}{pl:Sem Bool}{Q:Value×List Value→Shared→Prop}(h:Q (.builtin "str.translate",[.str x t]) s):wpAny M A (getMethod (.str x t) "translate" pl) Q E s:=by
 with_reducible exact GM.of (.str x t) (typeIs_str _ _ _) PySem.F.slot_str_translate PySem.F.type_str_translate GM.noRef h
theorem uX (X:Cx0 prog w hb K₀ T P dep){o:Expr}{d:Addr}{x:Str}{p apos pos:Pos}(hsup:bn o=true)(hline:(apos.endLine==pos.line)=true){K:V→aa→Prop}
  (hd:∀c1 (K':V→aa→Prop),K' (.val (.ref d)) c1→Ev prog w A hb pr env l c1 (.Name x p) K')
  (h:Ev prog w A hb pr env l c o fun u c1=>fU u fun x=>d=P.td∧(∀ch∈x.cps.toList,ch<128)∧x.length≤big∧K (.d (.str ⟨x.cps.map P.tr⟩)) c1):Ev prog w A hb pr env l c (.Call (.Attribute o (Qq "translate") apos) [.Name x p] [] pos) K:=by
 intro α s Q hs F hq
 refine dR hsup rfl (by simp) hline (h α s _ hs F fun u c1 α1 g1 h1 t1 ht1 k1 F1 L1 i1=>?_)
 obtain⟨x',rfl,rfl,hch,hx,hK⟩:=cy k1
 ·obtain⟨t,rfl⟩:=IsD.inv i1
  refine jE ?_
  refine dt rfl (Calls.evalArgs_plain (Calls.spliced_cons (hd c1 (fun v c'=>v=.val (.ref P.td)∧c'=c1) ⟨rfl,rfl⟩ α1 _ _ ht1 F1 fun v c2 α2 g2 h2 t2 ht2 k2 F2 L2 i2=>Calls.spliced_nil ?_)))
  obtain⟨rfl,rfl⟩:=k2
  (subst i2)
  refine⟨bH _,?_⟩
  obtain⟨C',TO⟩:=X.tab
  refine aq (s:={s with heap:=h2,toks:=t2}) ht2 ?_
  refine jR (s:={s with heap:=h2,toks:=t2}) TO (X.kin.keeps F2.base) hch hx (fun t' tk ht=>?_)
  exact hq _ c2 α2 _ h2 tk ht hK F2 (L1.trans L2) (.str _ _)
end
theorem f0 {it:Expr}{env:Env}(h:cK it=true)(v:Value):foldedSetIterable it env v=pure v:=by
 cases it<;>first|rfl|exact absurd h Bool.false_ne_true
section
variable {prog:Program}{w:World}{A:Around}{hb:Heap}{pr:List Nat}{env:Env}{T:Tb}{P:Pm}{K₀:Frag}{dep:Nat}{l:Loc}{c:aa}
theorem Room.under {C:Addr}{vals:List Value}(R:Room (dep+1) A):Room dep (A.under (.builtin "type.__call__" ⟨.ref C::vals,[]⟩)):=by
 refine⟨R.handled,?_,?_⟩
 ·have h1:(A.under (.builtin "type.__call__" ⟨.ref C::vals,[]⟩)).depth=A.depth+1:=rfl
  have:=R.depth;rw[h1];exact R8 this
 ·have h1:(A.under (.builtin "type.__call__" ⟨.ref C::vals,[]⟩)).units=A.units+1:=rfl
  have:=R.units;rw[h1];exact R22 this
theorem wg (X:Cx0 prog w hb K₀ T P dep)(R:Room (dep+1) A){x:Str}{p pos:Pos}{args:List Expr}(hst:bK args=true){K:V→aa→Prop}
  (hx:∀c1 (K':V→aa→Prop),K' (.val (.ref P.C)) c1→Ev prog w A hb pr env l c1 (.Name x p) K')
  (h:OkArgs prog w A hb pr env l args c fun vs c1=>∃k dk,k∉dom c1∧dk∉dom c1∧k≠dk∧P.fn P.init (.obj k::vs) (c1++[(dk,.ns [])]++[(k,.inst P.C dk)]) (fun v c2=>v=.d .none∧eJ (c1++[(dk,.ns [])]++[(k,.inst P.C dk)]) c2∧K (.obj k) c2)) :
  Ev prog w A hb pr env l c (.Call (.Name x p) args [] pos) K:=by
 intro α s Q hs F hq
 refine Call_Name (cA env pos hst) (hx c (fun v c'=>v=.val (.ref P.C)∧c'=c) ⟨rfl,rfl⟩ α s _ hs F fun u c1 α1 g1 h1 t1 ht1 k1 F1 L1 i1=>?_)
 obtain⟨rfl,rfl⟩:=k1
 (subst i1)
 refine bW (s:={s with heap:=h1,toks:=t1}) (fs:=[]) ht1 F1 .nil (h.mono fun vs c2 hk α2 s2 ws ht2 F2 L2 iv=>?_) fun v c' α' g h' tk ht hK F' L' i=>hq v c' α' g h' tk ht hK F' (L1.trans L') i
 obtain⟨kk,_,hkk⟩:=looks_keep (M:=model prog w) X.keep (X.kin.keeps F2.base)
 refine⟨⟨kk,hkk⟩,fun Q hq'=>?_⟩
 obtain⟨k,dk,hk1,hk2,hne,hfn⟩:=hk
 obtain⟨F3,L3⟩:=F2.new hk2 emptyDict (o:=.ns []) (fun L=>⟨emptyDict,#[],0,Xj _ rfl,rfl,fun e he=>by simp at he,rfl,fun x=>rfl⟩)
 have hk1':k∉dom (c2++[(dk,.ns [])]):=by rw[af];simp[hk1,hne]
 have hdk:dk∈dom (c2++[(dk,O.ns [])]):=by rw[af];simp
 have adk:upd α2 dk s2.heap.objs.size dk=s2.heap.objs.size:=if_pos rfl
 obtain⟨F4,L4⟩:=F3.new hk1' (instObj P.C s2.heap.objs.size) (o:=.inst P.C dk) (fun L=>⟨by rw[L.agree dk hdk,adk,Xj _ rfl],L.dom dk hdk⟩)
 have ak:upd (upd α2 dk s2.heap.objs.size) k (s2.heap.push emptyDict).objs.size k=s2.heap.objs.size+1:=by rw[show upd (upd α2 dk s2.heap.objs.size) k (s2.heap.push emptyDict).objs.size k=(s2.heap.push emptyDict).objs.size from if_pos rfl,Heap.size_push]
 refine aq ht2 (wpAny_call ?_)
 have R':=R.under (C:=P.C) (vals:=ws)
 have ik:IsV (c2++[(dk,.ns [])]++[(k,.inst P.C dk)]) (upd (upd α2 dk s2.heap.objs.size) k (s2.heap.push emptyDict).objs.size) ((s2.heap.push emptyDict).push (instObj P.C s2.heap.objs.size)) (.obj k) (.ref (s2.heap.objs.size+1)):=⟨by rw[ak],by rw[af];simp⟩
 obtain⟨hp,g,d,tk,os⟩:=s2
 refine make_core (makes_of (X.kin.keeps F2.base) X.makes) (looks_findIn (X.kin.keeps F2.base) X.ini.1) (fun self=>bind_fn (X.kin.keeps F2.base) self X.ini.2) (.inl rfl) ?_
 refine X.inif _ R' (.obj k::vs) (.ref (hp.objs.size+1)::ws) _ _ ⟨(hp.push emptyDict).push (instObj P.C hp.objs.size),g,d,tk,os⟩ _ _ ht2 ⟨F4.base,F4.cell,F4.fresh,F4.inj,fun _ q=>by cases q⟩ (.cons ik ((L3.trans L4).isVs iv)) hfn fun v c' α' gg h' tk' hK C' L' i=>?_
 obtain⟨rfl,hdom,hK⟩:=hK
 cases i
 refine⟨rfl,fun ht=>?_⟩
 have C'':Cst hb pr c' α' h':=⟨C'.base,C'.cell,C'.fresh,C'.inj,fun j hj=>hdom j (F4.prs j hj)⟩
 exact hq' (.obj k) c' α' _ h' tk' ht hK (F4.le L' C'') ((L3.trans L4).trans L') (L'.isV ik)
theorem sx (E:CxE env T)(R:Room (dep+1) A){elt iter:Expr}{ifs:List Expr}{rest:List Comprehension}{x:Str}{px pos:Pos}{scope:Scope}{kk:Nat}(SO:ScopeOk scope x env)(hfold:cK iter=true){K:V→aa→Prop}
  (hi:Ev prog w A hb pr env l c iter fun v c1=>rm prog w A hb pr env l (.ListComp elt (⟨.Name x px,iter,ifs,0⟩::rest) scope pos) scope kk v c1 K):Ev prog w A hb pr env l c (.ListComp elt (⟨.Name x px,iter,ifs,0⟩::rest) scope pos) K:=by
 intro α s Q hs F hq
 have hf:∀v,foldedSetIterable iter env v=pure v:=f0 hfold
 show wpAny _ _ (comprehension _ scope env _ (newList []) false (eval iter env) none) _ _ _
 refine iS E.eo R.handled SO hs F hf hi fun v c' α' g h' tk C ht hK F' L' i nf no nb hC hm=>?_
 obtain⟨m,hm⟩:=hm
 refine⟨m,hm,fun h'' hs''=>?_⟩
 have nz:∀o,cv o=true→h'.get? C≠some o:=fun o hz e=>by
  obtain⟨o',es,ep,ho,hd,_⟩:=hm
  rw[ho] at e;cases e;unfold cv at hz;rw[hd] at hz;cases hz
 exact hq v c' α' g h'' tk ht hK (F'.but nz (bc hs'') no nf nb) ⟨L'.dom,L'.agree,fun b o e n=>bc hs'' b o (fun q=>by rw[q,hC] at e;contradiction) (L'.kept b o e n),L'.grow⟩ (fX nz (bc hs'') i)
theorem oV (E:CxE env T)(R:Room (dep+1) A){elt iter:Expr}{ifs:List Expr}{x y:Str}{px py pos spos:Pos}{scope:Scope}{kk:Nat}(SO:ScopeOk scope x env)(hfold:cK iter=true)(hy:env.kindOf y=some .local)
  (hsw:swapsWith (.ListComp elt [⟨.Name x px,iter,ifs,0⟩] scope pos) (some (.Name y py)) spos.line env=pure true) {K:F→Sg→Prop}
  (hi:Ev prog w A hb pr env l c iter fun v c1=>CompI prog w A hb pr env l x elt ifs scope kk v c1 (fun v c'=>K .next ⟨put l y v,c'⟩)) :
  OkS (model prog w) A hb pr env ⟨l,c⟩ (exec (.Assign [.Name y py] (.ListComp elt [⟨.Name x px,iter,ifs,0⟩] scope pos) spos) env) K:=by
 intro α s Q hs F hq
 have hf:∀v,foldedSetIterable iter env v=pure v:=f0 hfold
 rw[exec_Assign_Name_used _ _ _ _ hsw]
 refine Zb (Jj (Zb ?_))
 show wpAny _ A (do let _ ←comprehension (.ListComp elt [⟨.Name x px,iter,ifs,0⟩] scope pos) scope env _ (newList []) false (eval iter env) (some (assign (.Name y py) env))) _ _ s
 refine Zb (Jq (iS (Q':=fun _ s'=>Q .next s') E.eo R.handled SO hs F hf (OkE.mono hi fun v c1 k=>CompI.g SO k) fun v c' α' g h' tk C ht hK F' L' i nf no nb hC hm=>?_) (fun _ s' hq=>Zp (Zp hq)) fun _ _ e=>e)
 show wpAny _ A (assign (.Name y py) env g) _ _ _
 refine Jv (aq (s:={s with heap:=h',toks:=tk}) ht (bZ (s:={s with heap:=h',toks:=tk}) E.eo F' hy i fun h2 tk2 F2 hs2 ht2=>?_))
 obtain⟨m,hm⟩:=hm
 have hCL:C≠env.locals:=fun q=>nf (.inl q)
 have hm2:h2.Ns C m:=hm.sameBut hs2 hCL
 refine⟨m,hm2,fun h3 hs3=>?_⟩
 have nz:∀o,cv o=true→h2.get? C≠some o:=fun o hz e=>by
  obtain⟨o',es,ep,ho,hd,_⟩:=hm2
  rw[ho] at e;cases e;unfold cv at hz;rw[hd] at hz;cases hz
 refine hq .next ⟨put l y v,c'⟩ α' .next h3 tk2 ht2 hK (F2.but nz (bc hs3) no nf nb) ?_ rfl
 have LS:LeS pr env c α s.heap c' α' h':=L'.leS F.toCst
 refine⟨LS.agree,fun b o e nfr n=>bc hs3 b o (fun q=>by rw[q,hC] at e;contradiction) (bc hs2 b o (fun q=>nfr (.inl q)) (LS.kept b o e nfr n)),LS.grow⟩
end
theorem cW {env:Env}{k₀:NameKind}(hk₀:k₀≠.free):∀{names:List (Str×NameKind)} {x:Str},names.lookup x=some k₀→
  (names.map fun (n,k)=>if (k==NameKind.free&&env.scope.kind==.function&&env.kindOf n==some .cell) then (n,NameKind.cell) else (n,k)).lookup x=some k₀
 | [],_,h=>by simp at h
 | (n,k)::r,x,h=>by
  have ih:=@cW env k₀ hk₀ r x
  show List.lookup x ((if (k==NameKind.free&&env.scope.kind==.function&&env.kindOf n==some .cell)=true then (n,NameKind.cell) else (n,k))::_)=_
  cases hx:x==n with
  |true=>
   simp only[Zq,hx] at h
   cases h
   have:(k₀==NameKind.free)=false:=by cases k₀<;>first|rfl|exact absurd rfl hk₀
   simp[Zq,hx,this]
  |false=>
   simp only[Zq,hx] at h
   by_cases hc:(k==NameKind.free&&env.scope.kind==.function&&env.kindOf n==some .cell)=true
   ·rw[if_pos hc];simp only[Zq,hx];exact ih h
   ·rw[if_neg hc];simp only[Zq,hx];exact ih h
theorem gN {names:List Str}:∀{fs:List Str} {is:List Nat},fs.mapM (aJ names)=some is→fs.length=is.length∧∀(j:Nat) y,fs[j]?=some y→∃i,is[j]?=some i∧aJ names y=some i
 | [],is,h=>by simp at h;subst h;exact⟨rfl,fun j y e=>by simp at e⟩
 |f::fs,is,h=>by
  rw[List.mapM_cons] at h
  cases hf:aJ names f with
  |none=>rw[hf] at h;cases h
  |some i=>
   cases hr:fs.mapM (aJ names) with
   |none=>rw[hf,hr] at h;cases h
   |some is'=>
    rw[hf,hr] at h;cases h
    obtain⟨h1,h2⟩:=gN hr
    refine⟨by simp[h1],fun j y e=>?_⟩
    cases j with
    |zero=>(injection e with e;subst e);exact⟨i,rfl,hf⟩
    |succ j=>exact h2 j y e
section
variable {prog:Program}{w:World}{hb:Heap}{P:Pm}{K₀:Frag}{dep:Nat}
theorem fc {env:Env}{T:Tb}(E:CxE env T){x:Str}{scope:Scope}(hs:cU T x scope=true){fs:List Str}(hfs:fs=(scope.names.filter fun p=>p.2==.free).map (·.1)) :
  ScopeOk scope x env∧(x::fs).Nodup∧(∀y∈fs,scope.names.lookup y=some .free)∧∀cl C,EnvOk (compEnvC scope cl C env)→CxE (compEnvC scope cl C env) {T with names:=x::fs,kinds:=scope.names}:=by
 unfold cU at hs
 simp only[Xv,Xu] at hs
 obtain⟨⟨⟨⟨⟨h1,h2⟩,h3⟩,h4⟩,h5⟩,h6⟩:=hs
 have hnd:(x::fs).Nodup:=by rw[hfs];exact of_decide_eq_true h6
 have hk:scope.kind=.function:=beq_iff_eq.mp h2
 refine⟨⟨fun y hy=>by simpa using h1 y hy,hk,fun y hy e=>?_,beq_iff_eq.mp h4,fun y hy=>?_⟩,hnd,fun y hy=>?_,fun cl C EO=>⟨EO,E.gl,E.bl,fun y e=>cW (by decide) e,fun y e=>lookup_relabel_local e,fun y e=>?_,hnd⟩⟩
 ·have:=h3 y hy
  simpa [e] using this
 ·have:=h5 (y,.free) hy
  simp only[bne_self_eq_false,Bool.false_or,Xv] at this
  exact E.kc y (beq_iff_eq.mp this.1)
 ·rw[hfs] at hy
  obtain⟨p,hp,rfl⟩:=List.mem_map.mp hy
  obtain⟨hp,hq⟩:=List.mem_filter.mp hp
  have:=h5 p hp
  rw[beq_iff_eq.mp hq] at this
  simp only[bne_self_eq_false,Bool.false_or,Xv] at this
  exact beq_iff_eq.mp this.2
 ·have:=h1 _ (mem_of_lookup e)
  contradiction
def SE (prog:Program)(w:World)(hb:Heap)(P:Pm)(T:Tb)(env:Env)(A:Around)(pr:List Nat)(e:Expr)(ie:IE):Prop:=
 (∀n l c K,wpE P n ie l c K→Ev prog w A hb pr env (ad T.names l) c e K)∧(∀n l c K,wpT P n ie l c K→Tst prog w A hb pr env (ad T.names l) c e K)
def rY (prog:Program)(w:World)(hb:Heap)(P:Pm)(K₀:Frag)(dep m:Nat):Prop:=
 ∀(T:Tb) (env:Env) (A:Around) (pr:List Nat),Cx0 prog w hb K₀ T P dep→CxE env T→Room (dep+1) A→∀e ie,aC m T e=some ie→SE prog w hb P T env A pr e ie
section
variable {T:Tb}{env:Env}{A:Around}{pr:List Nat}{f:Expr→Option IE}(hf:∀a ia,f a=some ia→SE prog w hb P T env A pr a ia)
include hf
theorem dT:∀{es:List Expr} {ies:List IE},ej f es=some ies→∀n l c K,gX P n ies l c K→OkArgs prog w A hb pr env (ad T.names l) es c K:=by
 intro es
 induction es with
 |nil=>
  intro ies h n l c K hw
  (injection h with h;subst h)
  cases n with
  |zero=>exact hw.elim
  |succ n=>exact hw
 |cons e r ih=>
  intro ies h n l c K hw
  obtain⟨x,y,h1,h2,rfl⟩:=cO h
  cases n with
  |zero=>exact hw.elim
  |succ n=>
   exact OkE.mono ((hf e x h1).1 n l c _ hw) fun v c1 k=>ih h2 n l c1 _ k
theorem qv {o:Option Expr}{ie:IE}(h:wb f o=some ie)(n:Nat)(l:Sl)(c:aa)(K:V→aa→Prop)(hw:wpE P n ie l c K):OkE (model prog w) A hb pr env IsV (ad T.names l) c (evalPart o env) K:=by
 cases o with
 |none=>
  (injection h with h;subst h)
  cases n with
  |zero=>exact hw.elim
  |succ n=>
   exact fun α s Q hs F hq=>evalPart_none_step (hq _ c α _ s.heap s.toks hs hw F (.refl ..) .none)
 |some e=>
  have:=(hf e ie h).1 n l c K hw
  exact fun α s Q hs F hq=>evalPart_some_step (this α s Q hs F hq)
end
end
theorem fq {β:Type}{q:Str×β→Bool}:∀(l:List (Str×β)) (x:Str),(∀v,q (x,v)=true)→look (l.filter q) x=look l x
 | [],_,_=>rfl
 | (y,u)::r,x,h=>by
  rw[List.filter_cons]
  by_cases e:y=x
  ·subst e;rw[if_pos (h u)];dsimp only[look];simp
  ·by_cases hy:q (y,u)=true
   ·rw[if_pos hy];dsimp only[look];rw[if_neg e,if_neg e];exact fq r x h
   ·rw[if_neg hy];dsimp only[look];rw[if_neg e];exact fq r x h
theorem lH {names:List Str}:∀{x:Str} {i:Nat},aJ names x=some i→names[i]?=some x:=by
 induction names with
 |nil=>intro x i h;contradiction
 |cons y ys ih=>
  intro x i h
  dsimp only[aJ] at h
  by_cases e:y=x
  ·rw[if_pos e] at h;(injection h with h;subst h);rw[e];rfl
  ·rw[if_neg e] at h
   cases hs:aJ ys x with
   |none=>rw[hs] at h;contradiction
   |some j=>rw[hs] at h;(injection h with h;subst h);exact ih hs
theorem pe {names:List Str}{y:Str}(h:y∈names):∃i,aJ names y=some i:=by
 cases e:aJ names y with
 |none=>exact absurd h (fS e)
 |some i=>exact⟨i,rfl⟩
theorem oU {T:Tb}(nd:T.names.Nodup){x:Str}{scope:Scope}{fs:List Str}{is:List Nat}(hfs:fs=(scope.names.filter fun p=>p.2==.free).map (·.1))(his:fs.mapM (aJ T.names)=some is)(hnd:(x::fs).Nodup)(hfree:∀y∈fs,scope.names.lookup y=some .free)(l:Sl)(d:D)(y:Str) :
  look (ad (x::fs) (some (.d d)::is.map (aF l))) y=look (put (ba scope (ad T.names l)) x (.d d)) y:=by
 simp only[am]
 show look ((x,V.d d)::ad fs (is.map (aF l))) y=_
 dsimp only[look]
 by_cases e:x=y
 ·subst e;simp
 rw[if_neg e,if_neg (fun q=>e q.symm)]
 by_cases hy:y∈fs
 ·obtain⟨j,hj⟩:=pe hy
  rw[cz (List.nodup_cons.mp hnd).2 _ hj]
  obtain⟨hlen,hm⟩:=gN his
  obtain⟨i,h1,h2⟩:=hm j y (lH hj)
  unfold ba
  rw[fq _ _ (fun v=>by rw[hfree y hy];rfl),cz nd l h2]
  show (match (is.map (aF l))[j]? with|some o=>o|none=>none)=_
  rw[Xy,h1]
  rfl
 ·rw[d8 _ _ hy]
  cases e':look (ba scope (ad T.names l)) y with
  |none=>rfl
  |some v=>
   obtain⟨_,h2⟩:=cw e'
   exact absurd (by rw[hfs];exact List.mem_map.mpr ⟨(y,.free),List.mem_filter.mpr ⟨mem_of_lookup h2,rfl⟩,rfl⟩) hy
section
variable {prog:Program}{w:World}{hb:Heap}{P:Pm}{K₀:Frag}{dep:Nat}
theorem Cx0.names {T:Tb}(X:Cx0 prog w hb K₀ T P dep)(ns:List Str)(ks:List (Str×NameKind)):Cx0 prog w hb K₀ {T with names:=ns,kinds:=ks} P dep:=
 ⟨X.kin,X.glob,X.cls,X.attr,X.meth,X.fn,X.makes,X.ini,X.inif,X.keep,X.tab⟩
theorem forIn_nil {M:Model}{A:Around}{pr:List Nat}{env:Env}{l:Loc}{c:aa}{f:Expr→Bool→Sem (ForInStep Bool)}{K:Bool→aa→Prop}(h:K true c) :
  OkE M A hb pr env okB l c (forIn ([]:List Expr) true f) K:=
 fun α s Q hs F hq=>Zp (hq true c α true s.heap s.toks hs h F (.refl ..) rfl)
theorem iQ {M:Model}{A:Around}{pr:List Nat}{env env':Env}{l:Loc}{c:aa}{t:Expr}{K:Bool→aa→Prop}(h:OkE M A hb pr env okB l c (isTrue t env' (eval t env')) K) :
  OkE M A hb pr env okB l c (forIn [t] true fun c r=>if r=true then do let ok ←isTrue c env' (eval c env');pure (ForInStep.yield ok) else pure (ForInStep.yield r)) K:=by
 have e:(forIn [t] true fun c r=>if r=true then do let ok ←isTrue c env' (eval c env');pure (ForInStep.yield ok) else pure (ForInStep.yield r):Sem Bool)=(do let ok ←isTrue t env' (eval t env');pure ok):=by
  simp
 simp only[e]
 intro α s Q hs F hq
 exact h α s Q hs F hq
theorem fG {m:Nat}(ihE:rY prog w hb P K₀ dep m){T:Tb}{env:Env}{A:Around}{pr:List Nat}(X:Cx0 prog w hb K₀ T P dep)(E:CxE env T)(R:Room (dep+1) A)
  {x:Str} {scope:Scope} (hs:cU T x scope=true) {fs:List Str} {is:List Nat} (hf:eR T x scope=some (fs,is)) {elt:Expr} {ifs:List Expr} {ie:IE} {it:Option IE}
  (he:aC m {T with names:=x::fs,kinds:=scope.names} elt=some ie) (ht:(ifs=[]∧it=none)∨∃t jt,ifs=[t]∧aC m {T with names:=x::fs,kinds:=scope.names} t=some jt∧it=some jt)
  {n:Nat} {l:Sl} {kk:Nat} {v:V} {c1:aa} {K:V→aa→Prop}
  (hw:ke (wpE P n) (wpT P n) ie it (is.map (aF l)) kk K v c1) :
  CompI prog w A hb pr env (ad T.names l) x elt ifs scope kk v c1 K:=by
 have hfs:fs=(scope.names.filter fun p=>p.2==.free).map (·.1)∧fs.mapM (aJ T.names)=some is:=by
  unfold eR at hf
  dsimp only at hf
  cases q:((scope.names.filter fun p=>p.2==.free).map (·.1)).mapM (aJ T.names) with
  |none=>rw[q] at hf;contradiction
  |some is'=>rw[q] at hf;(injection hf with hf;injection hf with hf hf_;subst hf hf_);exact⟨rfl,q⟩
 obtain⟨SO,hnd,hfree,hE⟩:=fc E hs hfs.1
 obtain⟨h1,xs,h2,h3,h4,I,h5,h6,h7⟩:=hw
 refine⟨h1,xs,h2,h3,h4,I,h5,fun i d acc c' hd hI=>?_,h7⟩
 obtain⟨h8,h9⟩:=h6 i d acc c' hd hI
 refine⟨h8,fun cl C EO=>?_⟩
 have X':=X.names (x::fs) scope.names
 have E':=hE cl C EO
 have lk:=fun y=>(oU E.nd hfs.1 hfs.2 hnd hfree l d y).symm
 have hel:=fun c2 K' h=>OkE.look lk ((ihE _ _ A pr X' E' R elt ie he).1 n (some (.d d)::is.map (aF l)) c2 K' h)
 rcases ht with ⟨rfl,rfl⟩|⟨t,jt,rfl,ht,rfl⟩
 ·refine forIn_nil ⟨fun _=>?_,fun q=>by cases q⟩
  exact hel _ _ h9
 ·refine iQ (OkE.look lk (OkE.mono ((ihE _ _ A pr X' E' R t jt ht).2 n _ _ _ h9) fun r c2 k=>⟨fun q=>hel _ _ (k.1 q),k.2⟩))
end
section
variable {prog:Program}{w:World}{A:Around}
section
variable {elt i1 i2:Expr}{x1 x2:Str}{p1 p2 pos:Pos}{ifs:List Expr}{scope:Scope}
noncomputable abbrev lc2 (elt i1 i2:Expr) (x1 x2:Str) (p1 p2 pos:Pos) (ifs:List Expr) (scope:Scope):Expr:=.ListComp elt [⟨.Name x1 p1,i1,[],0⟩,⟨.Name x2 p2,i2,ifs,0⟩] scope pos
theorem mO (it acc:Value)(env:Env):compTurn (lc2 elt i1 i2 x1 x2 p1 p2 pos ifs scope) 0 it acc env=(standAt i1.pos>>=fun _=>pyNext it>>=fun r=>match r with
   |none=>pure (.done .next)
   |some v=>assign (.Name x1 p1) env v>>=fun _=>eval i2 env>>=fun u=>standAt i2.pos>>=fun _=>foldedSetIterable i2 env u>>=fun u=>holding [u] (pyIter u)>>=fun j=>
     runOwn (.compStart (lc2 elt i1 i2 x1 x2 p1 p2 pos ifs scope) 1 j acc env) env>>=fun _=>again (.compLoop (lc2 elt i1 i2 x1 x2 p1 p2 pos ifs scope) 0 it acc env)):=by rfl
theorem mH (it acc:Value)(env:Env):compTurn (lc2 elt i1 i2 x1 x2 p1 p2 pos ifs scope) 1 it acc env=(standAt i2.pos>>=fun _=>pyNext it>>=fun r=>match r with
   |none=>pure (.done .next)
   |some v=>assign (.Name x2 p2) env v>>=fun _=>(forIn ifs true fun c r=>if r=true then do let ok ←isTrue c env (eval c env);pure (ForInStep.yield ok) else pure (ForInStep.yield r))>>=fun ok=>
     if ok=true then (do let _ ←call (.builtin "list.append") [acc,←eval elt env])>>=fun _=>again (.compLoop (lc2 elt i1 i2 x1 x2 p1 p2 pos ifs scope) 1 it acc env)
      else again (.compLoop (lc2 elt i1 i2 x1 x2 p1 p2 pos ifs scope) 1 it acc env)):=by rfl
theorem mw {it acc:Value}{env:Env}{R:Result→Shared→Prop}{s:Shared}(I:Nat→Shared→Prop)
  (turn:∀n s,I n s→wpAny (model prog w) A (pyNext it) (fun r s₁=>match r with
   |none=>R (.ok .next) s₁
   |some v=>wpAny (model prog w) A (assign (.Name x2 p2) env v) (fun _ s₂=>wpAny (model prog w) A (forIn ifs true fun c r=>if r=true then do let ok ←isTrue c env (eval c env);pure (ForInStep.yield ok) else pure (ForInStep.yield r))
     (fun ok s₃=>ok=false∧∃m,m<n∧I m s₃) no s₂) no s₁) no s)
  (n:Nat) (h:I n s):codeAny (model prog w) A (.compLoop (lc2 elt i1 i2 x1 x2 p1 p2 pos ifs scope) 1 it acc env) R s:=by
 refine codeAny_loop rfl I (fun n s hI=>?_) n h
 show wpAny _ A ((compTurn (lc2 elt i1 i2 x1 x2 p1 p2 pos ifs scope) 1 it acc env).onRaise (fun x=>do noteFrame x env;theTreesLotGoes x)) _ _ s
 refine wpAny_noted ?_
 rw[mH]
 refine Zb (Jj (Zb (Jq (turn n s hI) (fun r s₁ h₁=>?_) fun _ _ q=>q.elim)))
 cases r with
 |none=>exact Zp h₁
 |some v=>
  refine Zb (Jq h₁ (fun _ s₂ h₂=>Zb (Jq h₂ (fun ok s₃ h₃=>?_) fun _ _ q=>q.elim)) fun _ _ q=>q.elim)
  obtain⟨rfl,h₃⟩:=h₃
  exact Zp ⟨rfl,h₃⟩
theorem j7 {it acc:Value}{env:Env}{R:Result→Shared→Prop}{s:Shared}(h0:codeAny (model prog w) A (.compLoop (lc2 elt i1 i2 x1 x2 p1 p2 pos ifs scope) 1 it acc env) R s)
  (h:wpAny (model prog w) A (pyIter it) (fun j s'=>codeAny (model prog w) A (.compLoop (lc2 elt i1 i2 x1 x2 p1 p2 pos ifs scope) 1 j acc env) R s') no s) :
  codeAny (model prog w) A (.compStart (lc2 elt i1 i2 x1 x2 p1 p2 pos ifs scope) 1 it acc env) R s:=by
 refine codeAny_of_tree ?_
 show wpAny _ _ ((compStart (lc2 elt i1 i2 x1 x2 p1 p2 pos ifs scope) 1 it acc env).onRaise (fun x=>do noteFrame x env;standAt theWindowsPlace)) _ _ s
 refine wpAny_notedAt ?_
 have e:compStart (lc2 elt i1 i2 x1 x2 p1 p2 pos ifs scope) 1 it acc env=(ask>>=fun c=>if c.params.followText "comprehension-iter-twice"=true then again (.compLoop (lc2 elt i1 i2 x1 x2 p1 p2 pos ifs scope) 1 it acc env)>>=pure
  else rule "comprehension.iter-twice" >>= fun _=>standAt i2.pos>>=fun _=>pyIter it>>=fun j=>again (.compLoop (lc2 elt i1 i2 x1 x2 p1 p2 pos ifs scope) 1 j acc env)):=by rfl
 rw[e]
 refine Zb (wpAny_askSetting (wpAny_ite ?_))
 split
 ·exact Zb (Zp (Zp ⟨rfl,h0⟩))
 ·exact Zb (wpAny_rule (Zb (Jj (Zb (Jq h (fun j s' h'=>Zp ⟨rfl,h'⟩) fun _ _ q=>q.elim)))))
theorem lZ {it acc:Value}{env:Env}{R:Result→Shared→Prop}{s:Shared}(hf:∀u,foldedSetIterable i2 env u=pure u)(I:Nat→Shared→Prop)
  (turn:∀n s,I n s→wpAny (model prog w) A (pyNext it) (fun r s₁=>match r with
   |none=>R (.ok .next) s₁
   |some v=>wpAny (model prog w) A (assign (.Name x1 p1) env v) (fun _ s₂=>wpAny (model prog w) A (eval i2 env) (fun u s₃=>wpAny (model prog w) A (pyIter u)
     (fun j s₄=>codeAny (model prog w) A (.compStart (lc2 elt i1 i2 x1 x2 p1 p2 pos ifs scope) 1 j acc env) (fun r s₅=>r=.ok .next∧∃m,m<n∧I m s₅) s₄) no s₃) no s₂) no s₁) no s)
  (n:Nat) (h:I n s):codeAny (model prog w) A (.compLoop (lc2 elt i1 i2 x1 x2 p1 p2 pos ifs scope) 0 it acc env) R s:=by
 refine codeAny_loop rfl I (fun n s hI=>?_) n h
 show wpAny _ A ((compTurn (lc2 elt i1 i2 x1 x2 p1 p2 pos ifs scope) 0 it acc env).onRaise (fun x=>do noteFrame x env;theTreesLotGoes x)) _ _ s
 refine wpAny_noted ?_
 rw[mO]
 refine Zb (Jj (Zb (Jq (turn n s hI) (fun r s₁ h₁=>?_) fun _ _ q=>q.elim)))
 cases r with
 |none=>exact Zp h₁
 |some v=>
  refine Zb (Jq h₁ (fun _ s₂ h₂=>Zb (Jq h₂ (fun u s₃ h₃=>?_) fun _ _ q=>q.elim)) fun _ _ q=>q.elim)
  refine Zb (Jj (Zb (Jz (hf u) (Zb (Jx (Jq h₃ (fun j s₄ h₄=>?_) fun _ _ q=>q.elim))))))
  refine Zb (wpAny_runOwn (h:=none) ?_)
  refine codeAny_mono (M:=model prog w) (A:=A) h₄ (fun r s₅ q=>?_)
  obtain⟨rfl,q⟩:=q
  exact Zp ⟨rfl,q⟩
end
section
variable {hb:Heap}{pr:List Nat}{env env':Env}{l L1:Loc}{c1 c':aa}{α1 α':Al}{h1 h' h2:Heap}{kk:Nat}{C J I I2:Addr}{fp fp2:List Addr}{nn n2 i:Nat}{P P2:Nat→Value→Prop}{St St2:Nat→Heap→Prop}{acc:List D}{ys:List D}
theorem CP.but2 (X:CF prog w A hb env c1 α1 h1 C I fp nn P St)(p:CP hb pr env l c1 α1 h1 kk C J I St i c' acc α' h'){b:Addr}(nz:∀o,cv o=true→h'.get? b≠some o)(ks:∀a o,a≠b→h'.get? a=some o→h2.get? a=some o)(nb:¬ay (c'++[(kk,.list acc)]) α' b)
  (b1:h1.get? b=none) (fb:¬FrA env b) (hbb:hb.get? b=none) (bC:b≠C) (bf:∀a∈fp,a≠b):CP hb pr env l c1 α1 h1 kk C J I St i c' acc α' h2:=
 ⟨⟨Fst.but nz ks p.q.F nb fb hbb,CQ.kept p.q.L b1 ks,p.q.nC,let ⟨m,o,es,ep,e,r⟩:=p.q.ns;⟨m,o,es,ep,ks C o (Ne.symm bC) e,r⟩,p.q.at_,p.q.no⟩,p.nI,X.W.frame i h' h2 p.st fun a ha o e=>ks a o (bf a ha) e⟩
structure CF2 (prog:Program)(w:World)(A:Around)(hb:Heap)(env env':Env)(h1:Heap)(C I2:Addr)(fp fp2:List Addr)(n2:Nat)(P2:Nat→Value→Prop)(St2:Nat→Heap→Prop):Prop where
 W:Walks prog w A I2 fp2 [I2] n2 P2 St2
 ex:∀j h,St2 j h→(∃o,h.get? I2=some o)∧∀o,cv o=true→h.get? I2≠some o
 one:h1.get? I2=none
 fE:¬FrA env I2
 fE':¬FrA env' I2
 b:hb.get? I2=none
 nC:I2≠C
 fpn:∀a∈fp,a≠I2
structure In2 (hb:Heap)(pr:List Nat)(env env':Env)(l L1:Loc)(c1:aa)(α1:Al)(h1:Heap)(kk:Nat)(C J I:Addr)(St:Nat→Heap→Prop)(i:Nat)(I2:Addr)(fp2:List Addr)(ys:List D)(P2:Nat→Value→Prop)(St2:Nat→Heap→Prop)(j:Nat)(α':Al)(h':Heap):Prop where
 F:Fst hb pr env' L1 (cc c1 kk) α' h'
 p:CP hb pr env l c1 α1 h1 kk C J I St i c1 [] α' h'
 n:¬ay (cc c1 kk) α' I2
 st:St2 j h'
 it:∀j u,P2 j u→∀e,ys[j]?=some e→IsD h' (ay (cc c1 kk) α') e u
 fp:∀b∈fp2,b=I2∨∃o,cv o=true∧h'.get? b=some o∧¬ay (cc c1 kk) α' b
theorem qq {b:Addr}{fp2:List Addr}{c:aa}(nz:∀o,cv o=true→h'.get? b≠some o)(ks:∀a o,a≠b→h'.get? a=some o→h2.get? a=some o)(q:∀b∈fp2,b=I2∨∃o,cv o=true∧h'.get? b=some o∧¬ay c α' b) :
  ∀b∈fp2,b=I2∨∃o,cv o=true∧h2.get? b=some o∧¬ay c α' b:=fun a ha=>by
 rcases q a ha with q|⟨o,hz,e,n⟩
 ·exact .inl q
 ·exact .inr ⟨o,hz,ks a o (fun q=>nz o hz (q▸e)) e,n⟩
theorem oD (X:CF prog w A hb env c1 α1 h1 C I fp nn P St){elt i1 i2:Expr}{x1 x2:Str}{p1 p2 pos:Pos}{ifs:List Expr}{scope:Scope}{cl:List (Str×Addr)}(Y:CF2 prog w A hb env (compEnvC scope cl C env) h1 C I2 fp fp2 ys.length P2 St2)
  (EC:EnvOk (compEnvC scope cl C env)) (hx2:scope.names.lookup x2=some .local) (hL1:look L1 x2=none)
  (htest:∀(j:Nat) (e:D),ys[j]?=some e→OkE (model prog w) A hb pr (compEnvC scope cl C env) okB (put L1 x2 (.d e)) (cc c1 kk)
   (forIn ifs true fun c r=>if r=true then do let ok ←isTrue c (compEnvC scope cl C env) (eval c (compEnvC scope cl C env));pure (ForInStep.yield ok) else pure (ForInStep.yield r)) fun b c3=>b=false∧c3=cc c1 kk)
  {R:Result→Shared→Prop} {s:Shared} (fin:∀α' h' tk,1≤tk→CP hb pr env l c1 α1 h1 kk C J I St i c1 [] α' h'→R (.ok .next) {s with heap:=h',toks:=tk})
  {h0:Heap} {tk0:Nat} (ht0:1≤tk0) (q0:In2 hb pr env (compEnvC scope cl C env) l L1 c1 α1 h1 kk C J I St i I2 fp2 ys P2 St2 0 α' h0) :
  codeAny (model prog w) A (.compStart (lc2 elt i1 i2 x1 x2 p1 p2 pos ifs scope) 1 (.ref I2) (.ref J) (compEnvC scope cl C env)) R {s with heap:=h0,toks:=tk0}:=by
 have loop:codeAny (model prog w) A (.compLoop (lc2 elt i1 i2 x1 x2 p1 p2 pos ifs scope) 1 (.ref I2) (.ref J) (compEnvC scope cl C env)) R {s with heap:=h0,toks:=tk0}:=by
  refine mw (fun k s'=>∃(j:Nat) (α':Al) (h':Heap) (tk:Nat),s'={s with heap:=h',toks:=tk}∧1≤tk∧k=ys.length+1-j∧j≤ys.length∧In2 hb pr env (compEnvC scope cl C env) l L1 c1 α1 h1 kk C J I St i I2 fp2 ys P2 St2 j α' h') ?_ (ys.length+1)
   ⟨0,α',h0,tk0,rfl,ht0,rfl,Zj _,q0⟩
  intro k s' h9
  obtain⟨j,α',h',tk,rfl,htk,rfl,hle,q⟩:=h9
  have nz2:=(Y.ex j h' q.st).2
  by_cases hlt:j<ys.length
  ·refine aq htk (aM (Y.W.item j _ _ no hlt q.st fun v h2 tk2 hPv st2 hk2 htk2=>?_))
   have ks:∀a o,a≠I2→h'.get? a=some o→h2.get? a=some o:=fun a o n e=>hk2 a o (by simpa using n) e
   have F2:=Fst.but nz2 ks q.F q.n Y.fE' Y.b
   have p2:=CP.but2 X q.p nz2 ks q.n Y.one Y.fE Y.b Y.nC Y.fpn
   have fp2':=qq nz2 ks q.fp
   have hd:ys[j]?=some ys[j]:=Qk hlt
   refine Jv (aq htk2 (aM (bZ (s:={s with heap:=h2,toks:=tk2}) EC F2 (lookup_relabel_local hx2) (v:=.d ys[j]) (f5 nz2 ks (q.it j v hPv _ hd)) fun h5 tk5 F5 hs5 htk5=>?_)))
   have nzC:=aN F2 (.inl rfl)
   have p5:=CP.butC X p2 nzC hs5 F5.ns
   have fp5:=qq nzC (bc hs5) fp2'
   have st5:=Y.W.frame (j+1) h2 h5 st2 fun b hb' o e=>bc hs5 b o (fun q=>by
    rcases fp2' b hb' with q'|⟨o',hz,e',n⟩
    ·exact Y.nC (q'.symm.trans q)
    ·exact nzC o' hz (q▸e')) e
   refine aM (htest j _ hd α' _ _ htk5 F5 fun b c3 α6 gb h6 tk6 htk6 hK6 F6 L6 eb=>?_)
   obtain⟨rfl,rfl⟩:=hK6
   obtain⟨⟨oI,eI⟩,_⟩:=Y.ex (j+1) h5 st5
   refine⟨eb,_,by exact R503 hlt,j+1,α6,h6,tk6,rfl,htk6,rfl,hlt,F6.look fun y v e=>?_,CP.le X p5 p5.q.no L6 F6.toCst,L6.not_own eI q.n,Y.W.frame (j+1) h5 h6 st5 fun b hb' o e=>?_,fun j u hu e he=>L6.isD (f5 nzC (bc hs5) (f5 nz2 ks (q.it j u hu e he))),fun b hb'=>?_⟩
   ·rw[am,if_neg (fun q=>by rw[q,hL1] at e;cases e)];exact e
   ·refine L6.kept b o e ?_
    rcases fp5 b hb' with q'|⟨o',hz,e',n⟩
    ·rw[q'];exact q.n
    ·exact n
   ·rcases fp5 b hb' with q'|⟨o',hz,e',n⟩
    ·exact .inl q'
    ·exact .inr ⟨o',hz,L6.kept b o' e' n,L6.not_own e' n⟩
  ·have hj:j=ys.length:=R502 hle hlt
   subst hj
   exact aq htk (aM (Y.W.done _ _ no q.st fun h2 tk2 hk2 htk2=>fin α' h2 tk2 htk2 (CP.but2 X q.p nz2 (fun a o n e=>hk2 a o (by simpa using n) e) q.n Y.one Y.fE Y.b Y.nC Y.fpn)))
 exact j7 loop (Y.W.self 0 _ _ no q0.st loop)
theorem lN (hh:A.handled=none){elt i1 i2:Expr}{x1 x2:Str}{p1 p2 pos:Pos}{ifs:List Expr}{scope:Scope}(SO:ScopeOk scope x1 env)(hx2:scope.names.lookup x2=some .local)(h12:x1≠x2)(hf:∀(env:Env) (u:Value),foldedSetIterable i2 env u=pure u){xs:List D}
  (turn:∀(i:Nat) (d:D),xs[i]?=some d→∀cl C,EnvOk (compEnvC scope cl C env)→OkE (model prog w) A hb pr (compEnvC scope cl C env) IsV (put (ba scope l) x1 (.d d)) (cc c1 kk) (eval i2 (compEnvC scope cl C env)) fun u c2=>c2=cc c1 kk∧cC u∧∃ys,bw u=some ys∧
   ∀(j:Nat) (e:D),ys[j]?=some e→OkE (model prog w) A hb pr (compEnvC scope cl C env) okB (put (put (ba scope l) x1 (.d d)) x2 (.d e)) (cc c1 kk)
    (forIn ifs true fun c r=>if r=true then do let ok ←isTrue c (compEnvC scope cl C env) (eval c (compEnvC scope cl C env));pure (ForInStep.yield ok) else pure (ForInStep.yield r)) fun b c3=>b=false∧c3=cc c1 kk) :
  vQ prog w A hb pr env l (lc2 elt i1 i2 x1 x2 p1 p2 pos ifs scope) scope kk c1 xs fun _ acc c'=>acc=[]∧c'=c1:=by
 intro α1 h1 C J I fp P St cl X EC FI hP R s fin α3 h3 tk3 ht3 p0
 refine lZ (hf _) (fun k s'=>∃(i:Nat) (α':Al) (h':Heap) (tk:Nat),s'={s with heap:=h',toks:=tk}∧1≤tk∧k=xs.length+1-i∧i≤xs.length∧CP hb pr env l c1 α1 h1 kk C J I St i c1 [] α' h') ?_ (xs.length+1) ⟨0,α3,h3,tk3,rfl,ht3,rfl,Zj _,p0⟩
 intro k s' h9
 obtain⟨i,α',h',tk,rfl,htk,rfl,hle,p⟩:=h9
 by_cases hlt:i<xs.length
 ·refine aq htk (aM (X.W.item i _ _ no hlt p.st fun v h2 tk2 hPv st2 hk2 htk2=>?_))
  have p2:CP hb pr env l c1 α1 h1 kk C J I St (i+1) c1 [] α' h2:=⟨CP.butI X p fun a o n e=>hk2 a o (by simpa using n) e,p.nI,st2⟩
  have hd:xs[i]?=some xs[i]:=Qk hlt
  obtain⟨m,hm⟩:=p2.q.ns
  have FC:=FI p2.q.F hm p.q.nC
  refine Jv (aq htk2 (aM (bZ (s:={s with heap:=h2,toks:=tk2}) EC FC (lookup_relabel_local SO.x) (v:=.d xs[i]) (p2.q.L.isD (hP i v hPv _ hd)) fun h5 tk5 F5 hs5 htk5=>?_)))
  have p5:=CP.butC X p2 (aN FC (.inl rfl)) hs5 F5.ns
  refine aM (turn i _ hd cl C EC α' _ _ htk5 F5 fun u c2 α6 g h6 tk6 htk6 hK6 F6 L6 iv=>?_)
  obtain⟨rfl,sm,ys,hys,htest⟩:=hK6
  have p6:=CP.le X p5 p5.q.no L6 F6.toCst
  refine jf (s:={s with heap:=h6,toks:=tk6}) F6.toCst hys sm iv (fun o pk=>?_)
  obtain⟨fp2,P2,St2,W2,st0,hns2,hfp2,hP2⟩:=pk
  obtain⟨F7,L7⟩:=F6.push o
  have p7:=CP.le X p6 p6.q.no L7 F7.toCst
  have i2n:=gM h6
  have nb:∀b,h6.get? b=none→hb.get? b=none:=fun b q=>jP (F6.base b) q
  have fr':=cZ F6 i2n
  have fr:=cZ p6.q.F i2n
  have fpn:∀a∈fp,a≠h6.objs.size:=fun a ha q=>by
   rcases X.fp_ a ha with rfl|⟨o',hz,e,n⟩
   ·obtain⟨⟨oI,eI⟩,_⟩:=X.ex _ h6 p6.st;rw[q] at eI;exact nos i2n eI
   ·have:=p6.q.L.kept a o' e n;rw[q] at this;exact nos i2n this
  have h1n:h1.get? h6.objs.size=none:=by
   cases e:h1.get? h6.objs.size with
   |none=>rfl
   |some o'=>
    by_cases q:ay c1 α1 h6.objs.size
    ·obtain⟨j,hj,e'⟩:=q
     obtain⟨q',hq'⟩:=F6.toCst.ex (p6.q.L.dom j hj)
     rw[p6.q.L.agree j hj,e'] at hq';exact (nos i2n hq').elim
    ·exact (nos i2n (p6.q.L.kept _ _ e q)).elim
  have Y:CF2 prog w A hb env (compEnvC scope cl C env) h1 C h6.objs.size fp fp2 ys.length P2 St2:=⟨W2 A hh,hns2,h1n,fr.1,fr'.1,nb _ i2n,fun q=>by obtain⟨m,o',es,ep,e,r⟩:=p6.q.ns;rw[←q] at e;exact nos i2n e,fpn⟩
  refine oD X Y EC hx2 ?_ htest (fun α' h' tk ht q=>⟨rfl,_,by exact R503 hlt,i+1,α',h',tk,rfl,ht,rfl,hlt,q⟩) htk6 ⟨F7,p7,fun q=>fr'.2 q,st0,fun j u hu e he=>L7.isD (hP2 j u hu e he),fun b hb'=>?_⟩
  ·rw[am,if_neg h12.symm]
   cases e:look (ba scope l) x2 with
   |none=>rfl
   |some v=>obtain⟨_,h⟩:=cw e;rw[hx2] at h;cases h
  ·rcases hfp2 b hb' with q|⟨o',hz,e,n⟩
   ·exact .inl q
   ·exact .inr ⟨o',hz,Xz _ e,n⟩
 ·have hin:i=xs.length:=R502 hle hlt
  subst hin
  exact aq htk (aM (X.W.done _ _ no p.st fun h2 tk2 hk2 htk2=>fin [] c1 α' h2 tk2 htk2 ⟨rfl,rfl⟩ (CP.butI X p fun a o n e=>hk2 a o (by simpa using n) e)))
end
end
section
variable {prog:Program}{w:World}{hb:Heap}{P:Pm}{K₀:Frag}{dep:Nat}
theorem oR {e:IE}(he:(match e with | .cmp .. | .not .. | .and .. | .or .. | .c .. | .ite ..=>false|_=>true)=true){n:Nat}{l:Sl}{c:aa}{K:Bool→aa→Prop}(h:wpT P n e l c K) :
  ∃n,wpE P n e l c fun u c1=>bR c1 u fun r=>K r c1:=by
 cases n with
 |zero=>exact False.elim h
 |succ n=>cases e<;>first | (simp at he;done) | (exact⟨n,h⟩)
theorem ec {T:Tb}{env:Env}{A:Around}{pr:List Nat}{e:Expr}{ie:IE}(he:∀env',isTrue e env' (eval e env')=(do let v ←eval e env';standAt e.pos;holding [v] (truthy v)))
  (hi:(match ie with | .cmp .. | .not .. | .and .. | .or .. | .c .. | .ite ..=>false|_=>true)=true)
  (h:∀n l c K,wpE P (n+1) ie l c K→Ev prog w A hb pr env (ad T.names l) c e K) :
  SE prog w hb P T env A pr e ie:=by
 have h':∀n l c K,wpE P n ie l c K→Ev prog w A hb pr env (ad T.names l) c e K:=fun n l c K k=>by
  cases n with
  |zero=>exact False.elim k
  |succ n=>exact h n l c K k
 refine⟨h',fun n l c K k=>?_⟩
 obtain⟨m,k⟩:=oR hi k
 exact qh (he env) (h' m l c _ k)
theorem vn {T:Tb}{env:Env}{A:Around}{pr:List Nat}{e:Expr}{d:D}
  (h:∀l c (K:V→aa→Prop),K (.d d) c→Ev prog w A hb pr env l c e K) :
  SE prog w hb P T env A pr e (.c d):=by
 refine⟨fun n l c K k=>?_,fun n l c K k=>?_⟩
 ·cases n with
  |zero=>exact False.elim k
  |succ n=>exact h _ c K k
 ·cases n with
  |zero=>exact False.elim k
  |succ n=>exact False.elim k
theorem aP {α β:Type}{a:Option α}{f:α→Option β}{r:β}(h:(a>>=f)=some r):∃x,a=some x∧f x=some r:=by
 cases a with
 |none=>contradiction
 |some x=>exact⟨x,rfl,h⟩
theorem vT {α β δ ε γ:Type}{a:Option α}{b:Option β}{d:Option δ}{e:Option ε}{f:α→β→δ→ε→γ}{r:γ}(h:(do return f (←a) (←b) (←d) (←e))=some r):∃x y z u,a=some x∧b=some y∧d=some z∧e=some u∧r=f x y z u:=by
 obtain⟨x,hx,h⟩:=aP h
 obtain⟨y,hy,h⟩:=aP h
 obtain⟨z,hz,h⟩:=aP h
 obtain⟨u,hu,h⟩:=aP h
 exact⟨x,y,z,u,hx,hy,hz,hu,(Option.some.inj h).symm⟩
theorem uU {nm:Str}{m:Mn}(h:xn nm=some m):nm=m.nm:=eq_of_beq (List.find?_some (p:=fun m:Mn=>nm==m.nm) h)
theorem fh {c:aa}{v:V}{K K':Bool→Prop}(h:oG c v K)(hK:∀r,K r→K' r):oG c v K':=by
 unfold oG at h ⊢
 cases q:b8 c v with
 |none=>rw[q] at h;exact h.elim
 |some p=>rw[q] at h;exact⟨h.1,hK _ h.2⟩
theorem fD {c:aa}{v:V}{K K':Bool→Prop}(h:bR c v K)(hK:∀r,K r→K' r):bR c v K':=by
 cases v with
 |d x=>cases x with
  |str x=>exact⟨h.1,hK _ h.2⟩
  |tup xs=>exact fh (c:=c) (v:=.d (.tup xs)) (K:=K) h hK
  |lst xs=>exact fh (c:=c) (v:=.d (.lst xs)) (K:=K) h hK
  |_=>exact hK _ h
 |mt e=>exact hK _ h
 |obj k=>exact fh (c:=c) (v:=.obj k) (K:=K) h hK
 |_=>exact h.elim
section
variable {A:Around}{pr:List Nat}{env:Env}{names:List Str}
theorem zH {a b:Expr}{r:List Expr}{p:Pos}{ia ib:IE}(ha:∀n l c K,wpE P n ia l c K→Ev prog w A hb pr env (ad names l) c a K)
  (hb':∀n l c K,wpE P n ib l c K→OkE (model prog w) A hb pr env IsV (ad names l) c (boolOp p .And (evalEach (b::r) env)) K) (n:Nat) (l:Sl) (c:aa) (K:V→aa→Prop) (k:wpE P n (.and ia ib) l c K) :
  Ev prog w A hb pr env (ad names l) c (.BoolOp .And (a::b::r) p) K:=by
 cases n with
 |zero=>exact False.elim k
 |succ n=>
  exact yN (OkE.mono (ha _ _ _ _ k) fun u c1 k1=>fD k1 fun r k2=>⟨k2.1,fun q=>hb' _ _ _ _ (k2.2 q)⟩)
theorem orV {a b:Expr}{r:List Expr}{p:Pos}{ia ib:IE}(ha:∀n l c K,wpE P n ia l c K→Ev prog w A hb pr env (ad names l) c a K)
  (hb':∀n l c K,wpE P n ib l c K→OkE (model prog w) A hb pr env IsV (ad names l) c (boolOp p .Or (evalEach (b::r) env)) K) (n:Nat) (l:Sl) (c:aa) (K:V→aa→Prop) (k:wpE P n (.or ia ib) l c K) :
  Ev prog w A hb pr env (ad names l) c (.BoolOp .Or (a::b::r) p) K:=by
 cases n with
 |zero=>exact False.elim k
 |succ n=>
  exact zF (OkE.mono (ha _ _ _ _ k) fun u c1 k1=>fD k1 fun r k2=>⟨k2.1,fun q=>hb' _ _ _ _ (k2.2 q)⟩)
theorem z0 {a b:Expr}{r:List Expr}{p:Pos}{ia ib:IE}(ha:∀n l c K,wpT P n ia l c K→Tst prog w A hb pr env (ad names l) c a K)
  (hb':∀whole n l c K,wpT P n ib l c K→OkE (model prog w) A hb pr env okB (ad names l) c (isTrue (.BoolOp .And (b::r) p) env whole) K) (whole:Sem Value) (n:Nat) (l:Sl) (c:aa) (K:Bool→aa→Prop) (k:wpT P n (.and ia ib) l c K) :
  OkE (model prog w) A hb pr env okB (ad names l) c (isTrue (.BoolOp .And (a::b::r) p) env whole) K:=by
 cases n with
 |zero=>exact False.elim k
 |succ n=>
  exact qa (OkE.mono (ha _ _ _ _ k) fun r c1 k1=>⟨k1.1,fun q=>hb' _ _ _ _ _ (k1.2 q)⟩)
theorem orT {a b:Expr}{r:List Expr}{p:Pos}{ia ib:IE}(ha:∀n l c K,wpT P n ia l c K→Tst prog w A hb pr env (ad names l) c a K)
  (hb':∀whole n l c K,wpT P n ib l c K→OkE (model prog w) A hb pr env okB (ad names l) c (isTrue (.BoolOp .Or (b::r) p) env whole) K) (whole:Sem Value) (n:Nat) (l:Sl) (c:aa) (K:Bool→aa→Prop) (k:wpT P n (.or ia ib) l c K) :
  OkE (model prog w) A hb pr env okB (ad names l) c (isTrue (.BoolOp .Or (a::b::r) p) env whole) K:=by
 cases n with
 |zero=>exact False.elim k
 |succ n=>
  exact vm (OkE.mono (ha _ _ _ _ k) fun r c1 k1=>⟨k1.1,fun q=>hb' _ _ _ _ _ (k1.2 q)⟩)
theorem zP {a:Expr}{p:Pos}{ia:IE}(ha:∀n l c K,wpT P n ia l c K→Tst prog w A hb pr env (ad names l) c a K)(whole:Sem Value)(n:Nat)(l:Sl)(c:aa)(K:Bool→aa→Prop)(k:wpT P n ia l c K) :
  OkE (model prog w) A hb pr env okB (ad names l) c (isTrue (.BoolOp .And [a] p) env whole) K:=
 qa (OkE.mono (ha _ _ _ _ k) fun r c2 k2=>⟨fun q=>by rw[q] at k2;exact k2,fun q=>rQ (by rw[q] at k2;exact k2)⟩)
theorem orL {a:Expr}{p:Pos}{ia:IE}(ha:∀n l c K,wpT P n ia l c K→Tst prog w A hb pr env (ad names l) c a K)(whole:Sem Value)(n:Nat)(l:Sl)(c:aa)(K:Bool→aa→Prop)(k:wpT P n ia l c K) :
  OkE (model prog w) A hb pr env okB (ad names l) c (isTrue (.BoolOp .Or [a] p) env whole) K:=
 vm (OkE.mono (ha _ _ _ _ k) fun r c2 k2=>⟨fun q=>by rw[q] at k2;exact k2,fun q=>u6 (by rw[q] at k2;exact k2)⟩)
end
theorem jH {es:List Expr}{q:Expr×Expr}(h:two es=some q):es=[q.1,q.2]:=by
 match es,h with
 | [a,b],h=>cases h;rfl
theorem mQ {es:List Expr}{q:Expr}(h:one es=some q):es=[q]:=by
 match es,h with
 | [a],h=>cases h;rfl
theorem nQ {e:Expr}{x:Str}(h:pK e=some x):∃n p,e=.Constant (.str x) n p:=by
 unfold pK at h
 cases q:gT e with
 |none=>rw[q] at h;cases h
 |some k=>
  rw[q] at h
  obtain⟨n,p,rfl⟩:=iI q
  cases k<;>first | (cases h;exact⟨n,p,rfl⟩)|cases h
section
variable {T:Tb}{env:Env}{A:Around}{pr:List Nat}{f:Expr→Option IE}(hf:∀a ia,f a=some ia→SE prog w hb P T env A pr a ia)
theorem qB {k:Const}{n:Nat}{p:Pos}{ie:IE}(h:rR k=some ie):SE prog w hb P T env A pr (.Constant k n p) ie:=by
 cases k<;>first | (cases h;exact vn fun l c K k=>sH rfl k)|cases h
theorem sV (X:Cx0 prog w hb K₀ T P dep)(E:CxE env T){x:Str}{p:Pos}{ie:IE}(h:hH T x=some ie):SE prog w hb P T env A pr (.Name x p) ie:=by
 refine ec (T:=T) (fun _=>rfl) ?_ fun n l c K k=>gh X E h k
 rcases (iP h).2 with ⟨i,_,rfl⟩|⟨v,_,_,rfl⟩<;>rfl
theorem xg {a:Expr}{p:Pos}{ie:IE}(h:wC a=some ie):SE prog w hb P T env A pr (.UnaryOp .USub a p) ie:=by
 unfold wC at h
 cases q:gT a with
 |none=>rw[q] at h;cases h
 |some k=>
  rw[q] at h
  obtain⟨n,p,rfl⟩:=iI q
  cases k<;>first | (cases h;exact vn fun l c K k=>zk k)|cases h
include hf
theorem xp {a b:Expr}{op:Operator}{p:Pos}{ie:IE}(h:(do return IE.bin op (←f a) (←f b))=some ie):SE prog w hb P T env A pr (.BinOp a op b p) ie:=by
 obtain⟨x,y,h1,h2,rfl⟩:=cO h
 refine ec (T:=T) (fun _=>rfl) rfl fun n l c K k=>?_
 exact yH (OkE.mono ((hf _ _ h1).1 _ _ _ _ k) fun u c1 k1=>(hf _ _ h2).1 _ _ _ _ k1)
theorem y6 {op:UnaryOp}{a:Expr}{p:Pos}{ie:IE}(h:unE f op a=some ie):SE prog w hb P T env A pr (.UnaryOp op a p) ie:=by
 cases op with
 |Not=>
  obtain⟨x,h1,rfl⟩:=dJ h
  refine⟨fun n l c K k=>?_,fun n l c K k=>?_⟩
  ·cases n with
   |zero=>exact False.elim k
   |succ n=>exact yF ((hf _ _ h1).1 _ _ _ _ k)
  ·cases n with
   |zero=>exact False.elim k
   |succ n=>exact wu ((hf _ _ h1).2 _ _ _ _ k)
 |USub=>exact xg h
 |_=>contradiction
theorem x8 {p:Pos}(op:BoolOp):∀(r:List Expr) (a:Expr) {ie:IE},nu f op (a::r)=some ie→
  (∀n l c K,wpE P n ie l c K→OkE (model prog w) A hb pr env IsV (ad T.names l) c (boolOp p op (evalEach (a::r) env)) K)∧
  (∀whole n l c K,wpT P n ie l c K→OkE (model prog w) A hb pr env okB (ad T.names l) c (isTrue (.BoolOp op (a::r) p) env whole) K):=by
 intro r
 induction r with
 |nil=>
  intro a ie h
  have h:f a=some ie:=h
  cases op with
  |And=>exact⟨(hf _ _ h).1,zP (hf _ _ h).2⟩
  |Or=>exact⟨(hf _ _ h).1,orL (hf _ _ h).2⟩
 |cons b r ih=>
  intro a ie h
  cases op with
  |And=>
   obtain⟨x,y,h1,h2,rfl⟩:=cO (f:=fun x y=>IE.and x y) h
   exact⟨zH (p:=p) (hf _ _ h1).1 (ih b h2).1,z0 (hf _ _ h1).2 (ih b h2).2⟩
  |Or=>
   obtain⟨x,y,h1,h2,rfl⟩:=cO (f:=fun x y=>IE.or x y) h
   exact⟨orV (p:=p) (hf _ _ h1).1 (ih b h2).1,orT (hf _ _ h1).2 (ih b h2).2⟩
theorem uC {op:BoolOp}{es:List Expr}{p:Pos}{ie:IE}(h:vP f op es=some ie):SE prog w hb P T env A pr (.BoolOp op es p) ie:=by
 match es,h with
 |a::b::r,h=>
  have q:=x8 (p:=p) hf op (b::r) a h
  exact⟨q.1,q.2 _⟩
theorem wP (X:Cx0 prog w hb K₀ T P dep)(R:Room (dep+1) A){a:Expr}{ops:List CmpOp}{bs:List Expr}{p:Pos}{ie:IE}(h:x9 f T a ops bs=some ie):SE prog w hb P T env A pr (.Compare a ops bs p) ie:=by
 match ops,bs,h with
 | [op],[b],h=>
  have h:(if fm b then (do return .cmp op (←f a) (←f b)) else none)=some ie:=h
  obtain⟨hset,h⟩:=ifO h
  obtain⟨x,y,h1,h2,rfl⟩:=cO h
  refine⟨fun n l c K k=>?_,fun n l c K k=>?_⟩
  ·cases n with
   |zero=>exact False.elim k
   |succ n=>exact yk R hset (OkE.mono ((hf _ _ h1).1 _ _ _ _ k) fun u c1 k1=>(hf _ _ h2).1 _ _ _ _ k1)
  ·cases n with
   |zero=>exact False.elim k
   |succ n=>exact wG R hset (OkE.mono ((hf _ _ h1).1 _ _ _ _ k) fun u c1 k1=>(hf _ _ h2).1 _ _ _ _ k1)
theorem wI (X:Cx0 prog w hb K₀ T P dep){a i:Expr}{p:Pos}{ie:IE}(h:wR f T a i=some ie):SE prog w hb P T env A pr (.Subscript a i p) ie:=by
 unfold wR at h
 by_cases hn:de i=true
 ·rw[if_pos hn] at h
  obtain⟨x,y,h1,h2,rfl⟩:=cO h
  refine ec (T:=T) (fun _=>rfl) rfl fun n l c K k=>?_
  exact wO hn (OkE.mono ((hf _ _ h1).1 _ _ _ _ k) fun u c1 k1=>(hf _ _ h2).1 _ _ _ _ k1)
 ·rw[if_neg hn] at h
  cases hs:mB i with
  |none=>rw[hs] at h;contradiction
  |some q=>
   obtain⟨lo,hi,st⟩:=q
   rw[hs] at h
   obtain⟨p,rfl⟩:=oB hs
   cases st with
   |some e=>contradiction
   |none=>
    obtain⟨x,y,z,h1,h2,h3,rfl⟩:=eK h
    refine ec (T:=T) (fun _=>rfl) rfl fun n l c K k=>?_
    exact tU (OkE.mono ((hf _ _ h1).1 _ _ _ _ k) fun u c1 k1=>OkE.mono (qv hf h2 _ _ _ _ k1) fun v c2 k2=>qv hf h3 _ _ _ _ k2)
theorem sS (X:Cx0 prog w hb K₀ T P dep){a:Expr}{nm:Str}{p:Pos}{ie:IE}(h:rX f T a nm p=some ie):SE prog w hb P T env A pr (.Attribute a nm p) ie:=by
 unfold rX at h
 obtain⟨hsup,h⟩:=ifO h
 by_cases hnm:nm=Mn.append.nm
 ·rw[if_pos hnm] at h
  obtain⟨x,y,h1,h2,rfl⟩:=cO h
  refine ec (T:=T) (fun _=>rfl) rfl fun n l c K k=>?_
  rw[hnm]
  exact y0 hsup ((hf _ _ h1).1 _ _ _ _ k)
 ·rw[if_neg hnm] at h
  obtain⟨x,h1,rfl⟩:=dJ h
  refine ec (T:=T) (fun _=>rfl) rfl fun n l c K k=>?_
  exact wN X hsup ((hf _ _ h1).1 _ _ _ _ k)
theorem we {es:List Expr}{k:Nat}{p:Pos}{ie:IE}(h:(if bK es then (do return IE.tup (←ej f es)) else none)=some ie):SE prog w hb P T env A pr (.Tuple es k p) ie:=by
 obtain⟨hst,h⟩:=ifO h
 obtain⟨x,h1,rfl⟩:=dJ h
 refine ec (T:=T) (fun _=>rfl) rfl fun n l c K k=>?_
 exact rv hst (dT hf h1 _ _ _ _ k)
theorem xy {es:List Expr}{p:Pos}{ie:IE}(h:(if bK es then (do return IE.lst (←ej f es) (T.cell p)) else none)=some ie):SE prog w hb P T env A pr (.List es p) ie:=by
 obtain⟨hst,h⟩:=ifO h
 obtain⟨x,h1,rfl⟩:=dJ h
 refine ec (T:=T) (fun _=>rfl) rfl fun n l c K k=>?_
 exact xT hst (dT hf h1 _ _ _ _ k)
theorem tm {o a b:Expr}{y z:Str}{apos pos:Pos}(hsup:bn o=true)(hline:(apos.endLine==pos.line)=true)(ha:pK a=some y)(hb':pK b=some z){x:IE}(h1:f o=some x):SE prog w hb P T env A pr (.Call (.Attribute o (Qq "replace") apos) [a,b] [] pos) (.repl x y z):=by
 obtain⟨n1,p1,rfl⟩:=nQ ha
 obtain⟨n2,p2,rfl⟩:=nQ hb'
 refine ec (T:=T) (fun _=>rfl) rfl fun n l c K k=>?_
 exact w5 hsup hline ((hf _ _ h1).1 _ _ _ _ k)
theorem uI (X:Cx0 prog w hb K₀ T P dep)(E:CxE env T)(R:Room (dep+1) A){o:Expr}{nm:Str}{args:List Expr}{apos pos:Pos}(hsup:bn o=true)(hst:bK args=true)(hfew:args.length<30)(hline:(apos.endLine==pos.line)=true){ie:IE}(h:qH f T o nm args=some ie) :
  SE prog w hb P T env A pr (.Call (.Attribute o nm apos) args [] pos) ie:=by
 unfold qH at h
 by_cases hr:nm=Qq "replace"
 ·rw[if_pos hr] at h
  subst hr
  obtain⟨q,hq,h⟩:=aP h
  obtain⟨y,hy,h⟩:=aP h
  obtain⟨z,hz,h⟩:=aP h
  obtain⟨x,h1,rfl⟩:=dJ h
  rw[jH hq]
  exact tm hf hsup hline hy hz h1
 rw[if_neg hr] at h
 by_cases ht:nm=Qq "translate"
 ·rw[if_pos ht] at h
  subst ht
  obtain⟨a,ha,h⟩:=aP h
  obtain⟨q,hq,h⟩:=aP h
  rw[mQ ha,bp hq]
  obtain⟨n',hname,h⟩:=aP h
  obtain⟨d,hd,h⟩:=aP h
  obtain⟨x,h1,rfl⟩:=dJ h
  rw[ny hd] at hname
  exact ec (T:=T) (fun _=>rfl) rfl fun n l c K k=>uX X hsup hline (fun c1 K' k'=>gh X E hname (n:=1) k') ((hf _ _ h1).1 _ _ _ _ k)
 rw[if_neg ht] at h
 cases hm:xn nm with
 |some m=>
  rw[hm] at h
  obtain⟨x,y,h1,h2,rfl⟩:=cO (f:=fun a b=>IE.meth a m b) h
  refine ec (T:=T) (fun _=>rfl) rfl fun n l c K k=>?_
  rw[uU hm]
  exact w7 hsup hst hfew hline (OkE.mono ((hf _ _ h1).1 _ _ _ _ k) fun u c1 k1=>⟨k1.1,dT hf h2 _ _ _ _ k1.2⟩)
 |none=>
  rw[hm] at h
  obtain⟨x,y,z,h1,h2,h3,rfl⟩:=eK (f:=fun a b d=>IE.umeth a b nm d) h
  refine ec (T:=T) (fun _=>rfl) rfl fun n l c K k=>?_
  exact tx X R h2 hsup hst hfew hline (OkE.mono ((hf _ _ h1).1 _ _ _ _ k) fun u c1 k1=>⟨k1.1,dT hf h3 _ _ _ _ k1.2⟩)
theorem yh (X:Cx0 prog w hb K₀ T P dep)(E:CxE env T)(R:Room (dep+1) A){x:Str}{p pos:Pos}{args:List Expr}(hst:bK args=true){ie:IE}(h:fnE f T x args pos=some ie):SE prog w hb P T env A pr (.Call (.Name x p) args [] pos) ie:=by
 unfold fnE at h
 cases hm:T.mak x pos with
 |some q=>
  obtain⟨C,k,dk⟩:=q
  rw[hm] at h
  obtain⟨n',hname,h⟩:=aP h
  obtain⟨C',hd,h⟩:=aP h
  obtain⟨rfl,h⟩:=ifO h
  obtain⟨y,h1,rfl⟩:=dJ h
  rw[ny hd] at hname
  refine ec (T:=T) (fun _=>rfl) rfl fun n l c K k=>?_
  obtain⟨rfl,k⟩:=(k:C'=P.C∧_)
  exact wg X R hst (fun c1 K' k'=>gh X E hname (n:=1) k') (dT hf h1 _ _ _ _ k)
 |none=>
  rw[hm] at h
  obtain⟨y,z,h1,h2,rfl⟩:=cO (f:=fun a b=>IE.call a b (T.cell pos)) h
  refine ec (T:=T) (fun _=>rfl) rfl fun n l c K k=>?_
  exact wK X R hst (OkE.mono (gh X E h1 k) fun u c1 k1=>dT hf h2 _ _ _ _ k1)
theorem uS (X:Cx0 prog w hb K₀ T P dep)(E:CxE env T)(R:Room (dep+1) A){g:Expr}{args:List Expr}{kws:List Keyword}{pos:Pos}{ie:IE}(h:rZ f T g args kws pos=some ie):SE prog w hb P T env A pr (.Call g args kws pos) ie:=by
 unfold rZ at h
 obtain⟨hc,h⟩:=ifO h
 obtain⟨hk,hst⟩:=Bool.and_eq_true_iff.mp hc
 rw[List.isEmpty_iff.mp hk]
 cases hq:eu g with
 |some q=>
  obtain⟨o,nm,apos⟩:=q
  rw[hq] at h
  rw[dK hq]
  obtain⟨hc,h⟩:=ifO h
  obtain⟨hc,hline⟩:=Bool.and_eq_true_iff.mp hc
  obtain⟨hsup,hfew⟩:=Bool.and_eq_true_iff.mp hc
  exact uI hf X E R hsup hst (of_decide_eq_true hfew) hline h
 |none=>
  rw[hq] at h
  cases hn:bV g with
  |none=>rw[hn] at h;contradiction
  |some q=>
   rw[hn] at h
   rw[bp hn]
   exact yh hf X E R hst h
end
inductive LcO (f:Tb→Expr→Option IE)(T:Tb)(elt:Expr)(gs:List Comprehension)(scope:Scope)(ie:IE):Prop
 |mk (x:Str) (px:Pos) (iter:Expr) (ifs:List Expr) (fs:List Str) (is:List Nat) (k:Nat) (e it:IE) (jt:Option IE) (g:gs=[⟨.Name x px,iter,ifs,0⟩]) (s:cU T x scope=true) (o:cK iter=true) (r:eR T x scope=some (fs,is)) (e1:f (ee T x fs scope) elt=some e) (e2:f T iter=some it)
   (j:(ifs=[]∧jt=none)∨∃t j,ifs=[t]∧f (ee T x fs scope) t=some j∧jt=some j) (z:ie=.comp e it jt is k)
 |two (x1:Str) (p1:Pos) (x2:Str) (p2:Pos) (i1 i2 t:Expr) (k:Nat) (e1 e2 t':IE) (g:gs=[⟨.Name x1 p1,i1,[],0⟩,⟨.Name x2 p2,i2,[t],0⟩]) (s:cU T x1 scope=true) (l2:scope.names.lookup x2=some .local) (n:x1≠x2) (o1:cK i1=true) (o2:cK i2=true)
   (fr:∀y,(y,NameKind.free)∉scope.names) (h1:f T i1=some e1) (h2:f (ee T x1 [x2] scope) i2=some e2) (h3:f (ee T x1 [x2] scope) t=some t') (z:ie=.comp2 e1 e2 t' k)
theorem vZ {f:Tb→Expr→Option IE}{T:Tb}{elt iter:Expr}{ifs:List Expr}{scope:Scope}{ie:IE}{q:Str×Pos}{r:List Str×List Nat}{k:Nat}{e it:IE}(hs:cU T q.1 scope=true)(hfold:cK iter=true)(hr:eR T q.1 scope=some r)(he:f (ee T q.1 r.1 scope) elt=some e)(hit:f T iter=some it)
  (h:(match ifs with | []=>some (IE.comp e it none r.2 k)|t::ts=>if ts.isEmpty then (do return IE.comp e it (some (←f (ee T q.1 r.1 scope) t)) r.2 k) else none)=some ie):LcO f T elt [⟨.Name q.1 q.2,iter,ifs,0⟩] scope ie:=by
 cases ifs with
 |nil=>exact .mk q.1 q.2 iter [] r.1 r.2 k e it none rfl hs hfold hr he hit (.inl ⟨rfl,rfl⟩) (Option.some.inj h).symm
 |cons t ts=>
  obtain⟨hte,h⟩:=ifO h
  obtain⟨j,hj,rfl⟩:=dJ h
  have:ts=[]:=List.isEmpty_iff.mp hte
  subst this
  exact .mk q.1 q.2 iter [t] r.1 r.2 k e it (some j) rfl hs hfold hr he hit (.inr ⟨t,j,rfl,hj,rfl⟩) rfl
theorem lu {f:Tb→Expr→Option IE}{T:Tb}{elt:Expr}{gs:List Comprehension}{scope:Scope}{pos:Pos}{ie:IE}(h:yZ f T gs scope pos=some ie):LcO f T elt gs scope ie:=by
 cases gs with
 |nil=>contradiction
 |cons g1 r=>cases r with
  |nil=>contradiction
  |cons g2 r=>cases r with
   |cons _ _=>contradiction
   |nil=>
    obtain⟨t1,i1,f1,a1⟩:=g1
    obtain⟨t2,i2,f2,a2⟩:=g2
    obtain⟨q1,hq1,h⟩:=aP h
    obtain⟨q2,hq2,h⟩:=aP h
    obtain⟨hc,h⟩:=ifO h
    obtain⟨hc,c9⟩:=Bool.and_eq_true_iff.mp hc
    obtain⟨hc,c8⟩:=Bool.and_eq_true_iff.mp hc
    obtain⟨hc,c7⟩:=Bool.and_eq_true_iff.mp hc
    obtain⟨hc,c6⟩:=Bool.and_eq_true_iff.mp hc
    obtain⟨hc,c5⟩:=Bool.and_eq_true_iff.mp hc
    obtain⟨hc,c4⟩:=Bool.and_eq_true_iff.mp hc
    obtain⟨hc,c3⟩:=Bool.and_eq_true_iff.mp hc
    obtain⟨c1,c2⟩:=Bool.and_eq_true_iff.mp hc
    obtain⟨k,hk,h⟩:=aP h
    obtain⟨e1,h1,h⟩:=aP h
    obtain⟨e2,h2,h⟩:=aP h
    obtain⟨t,ht,h⟩:=aP h
    obtain⟨t',h3,h⟩:=aP h
    rw[(beq_iff_eq.mp c1:a1=0),(beq_iff_eq.mp c2:a2=0),(List.isEmpty_iff.mp c3:f1=[]),(mQ ht:f2=[t]),(bp hq1:t1=_),(bp hq2:t2=_)]
    refine .two q1.1 q1.2 q2.1 q2.2 i1 i2 t k e1 e2 t' rfl c4 (beq_iff_eq.mp c5) (fun e=>?_) c6 c7 (fun y hy=>?_) h1 h2 h3 (Option.some.inj h).symm
    ·rw[beq_iff_eq.mpr e] at c8;contradiction
    ·have:=Xu.mp c9 _ hy
     contradiction
theorem nh {f:Tb→Expr→Option IE}{T:Tb}{elt:Expr}{gs:List Comprehension}{scope:Scope}{pos:Pos}{ie:IE}(h:lcE f T elt gs scope pos=some ie):LcO f T elt gs scope ie:=by
 match gs,h with
 | [],h=>exact lu (pos:=pos) h
 |_::_::_,h=>exact lu (pos:=pos) h
 | [g],h=>
  obtain⟨tg,iter,ifs,asy⟩:=g
  obtain⟨q,hq,h⟩:=aP h
  obtain⟨hc,h⟩:=ifO h
  obtain⟨hc,_⟩:=Bool.and_eq_true_iff.mp hc
  obtain⟨hc,hfold⟩:=Bool.and_eq_true_iff.mp hc
  obtain⟨hasy,hs⟩:=Bool.and_eq_true_iff.mp hc
  obtain⟨r,hr,h⟩:=aP h
  obtain⟨k,hk,h⟩:=aP h
  obtain⟨e,he,h⟩:=aP h
  obtain⟨it,hit,h⟩:=aP h
  rw[(beq_iff_eq.mp hasy:asy=0),(bp hq:tg=_)]
  exact vZ hs hfold hr he hit h
theorem zm {m:Nat}(ihE:rY prog w hb P K₀ dep m){T:Tb}{env:Env}{A:Around}{pr:List Nat}(X:Cx0 prog w hb K₀ T P dep)(E:CxE env T)(R:Room (dep+1) A){elt:Expr}{gs:List Comprehension}{scope:Scope}{pos:Pos}{ie:IE}(h:lcE (aC m) T elt gs scope pos=some ie) :
  SE prog w hb P T env A pr (.ListComp elt gs scope pos) ie:=by
 rcases nh h with ⟨x,px,iter,ifs,fs,is,k,e,it,jt,rfl,hs,hfold,hr,he,hit,hj,rfl⟩|⟨x1,p1,x2,p2,i1,i2,t,k,e1,e2,t',rfl,hs,l2,hn,o1,o2,fr,h1,h2,h3,rfl⟩
 ·obtain⟨SO,_⟩:=fc E hs rfl
  exact ec (T:=T) (fun _=>rfl) rfl fun n l c K kk=>sx E R SO hfold (OkE.mono ((ihE T env A pr X E R iter it hit).1 _ _ _ _ kk) fun v c1 k1=>CompI.g SO (fG ihE X E R hs hr he hj k1))
 ·obtain⟨SO,_,_,hE⟩:=fc E hs rfl
  have X':=X.names [x1,x2] scope.names
  refine ec (T:=T) (fun _=>rfl) rfl fun n l c K kk=>sx (kk:=k) E R SO o1 (OkE.mono ((ihE T env A pr X E R i1 e1 h1).1 _ _ _ _ kk) fun v c1 k1=>?_)
  obtain⟨sm,xs,hxs,hkk,tn,hc,hK⟩:=k1
  have fl:∀y,look (ba scope (ad T.names l)) y=none:=fun y=>by
   cases e:look (ba scope (ad T.names l)) y with
   |none=>rfl
   |some v=>exact (fr y (mem_of_lookup (cw e).2)).elim
  have lk1:∀(d:D) y,look (put (ba scope (ad T.names l)) x1 (.d d)) y=look (ad [x1,x2] [some (.d d),none]) y:=fun d y=>by
   rw[am,fl]
   show _=(if x1=y then some (V.d d) else none)
   by_cases q:y=x1
   ·rw[if_pos q,if_pos q.symm]
   ·rw[if_neg q,if_neg (Ne.symm q)]
  have lk2:∀(d e:D) y,look (put (put (ba scope (ad T.names l)) x1 (.d d)) x2 (.d e)) y=look (ad [x1,x2] [some (.d d),some (.d e)]) y:=fun d e y=>by
   rw[am,am,fl]
   show _=(if x1=y then some (V.d d) else if x2=y then some (V.d e) else none)
   by_cases q:y=x2
   ·rw[if_pos q,if_neg (fun q'=>hn (q'.trans q)),if_pos q.symm]
   ·rw[if_neg q,if_neg (Ne.symm q)]
    by_cases q:y=x1
    ·rw[if_pos q,if_pos q.symm]
    ·rw[if_neg q,if_neg (Ne.symm q)]
  refine⟨sm,xs,hxs,hkk,_,lN R.handled SO l2 hn (fun env u=>f0 o2 u) fun i d hd cl C EC=>?_,fun acc c' q=>?_⟩
  ·have Z:=hE cl C EC
   have E':CxE (compEnvC scope cl C env) {T with names:=[x1,x2],kinds:=scope.names}:=⟨Z.eo,Z.gl,Z.bl,Z.kg,Z.kl,Z.kc,by simp[hn]⟩
   refine OkE.look (lk1 d) (OkE.mono ((ihE _ _ A pr X' E' R i2 e2 h2).1 _ _ _ _ (tn i d hd)) ?_)
   rintro u _ ⟨rfl,sm2,ys,hys,ht⟩
   exact⟨rfl,sm2,ys,hys,fun j e he=>iQ (OkE.look (lk2 d e) ((ihE _ _ A pr X' E' R t t' h3).2 _ _ _ _ (ht j e he)))⟩
  ·obtain⟨rfl,rfl⟩:=q
   exact⟨hkk,hc,hK⟩
theorem wJ {T:Tb}{env:Env}{A:Around}{pr:List Nat}{f:Expr→Option IE}(hf:∀a ia,f a=some ia→SE prog w hb P T env A pr a ia){t a b:Expr}{p:Pos}{ie:IE}(h:(do return IE.ite (←f t) (←f a) (←f b))=some ie):SE prog w hb P T env A pr (.IfExp t a b p) ie:=by
 obtain⟨x,y,z,h1,h2,h3,rfl⟩:=eK (f:=fun a b d=>IE.ite a b d) h
 refine⟨fun n l c K k=>?_,fun n l c K k=>?_⟩
 ·cases n with
  |zero=>exact False.elim k
  |succ n=>
   intro α s Q hs F hq
   refine wpAny_IfExp ((hf _ _ h1).2 _ _ _ _ k α s _ hs F fun r c1 α1 g h1' t1 ht1 k1 F1 L1 i1=>?_)
   cases i1
   cases r with
   |true=>exact (hf _ _ h2).1 _ _ _ _ (k1.1 rfl) α1 _ Q ht1 F1 fun v c2 α2 g h' tk ht k2 F2 L2 i=>hq v c2 α2 g h' tk ht k2 F2 (L1.trans L2) i
   |false=>exact (hf _ _ h3).1 _ _ _ _ (k1.2 rfl) α1 _ Q ht1 F1 fun v c2 α2 g h' tk ht k2 F2 L2 i=>hq v c2 α2 g h' tk ht k2 F2 (L1.trans L2) i
 ·cases n with
  |zero=>exact False.elim k
  |succ n=>exact False.elim k
theorem pQ {m:Nat}(ihE:rY prog w hb P K₀ dep m):rY prog w hb P K₀ dep (m+1):=by
 intro T env A pr X E R e ie h
 have hf:=fun a ia (ha:aC m T a=some ia)=>ihE T env A pr X E R a ia ha
 cases e with
 |Constant k n p=>exact qB h
 |Name x p=>exact sV X E h
 |BinOp a op b p=>exact xp hf h
 |UnaryOp op a p=>exact y6 hf h
 |BoolOp op es p=>exact uC hf h
 |Compare a ops bs p=>exact wP hf X R h
 |Subscript a i p=>exact wI hf X h
 |Attribute a nm p=>exact sS hf X h
 |Tuple es k p=>exact we hf h
 |List es p=>exact xy hf h
 |IfExp t a b p=>exact wJ hf h
 |Call g args kws p=>exact uS hf X E R h
 |ListComp elt gs scope p=>exact zm ihE X E R h
 |_=>contradiction
theorem snd (m:Nat):rY prog w hb P K₀ dep m:=by
 induction m with
 |zero=>exact fun T env A pr X E R e ie h=>nomatch h
 |succ m ih=>exact pQ ih
end
section
variable {M:Model}{A:Around}{hb:Heap}{pr:List Nat}{env:Env}
theorem OkS.look {l l':Loc}{c:aa}{t:Sem Flow}{K:F→Sg→Prop}(e:∀x,Mine.look l' x=Mine.look l x)(h:OkS M A hb pr env ⟨l',c⟩ t K):OkS M A hb pr env ⟨l,c⟩ t K:=
 fun α s Q hs F hq=>h α s Q hs (F.look fun x v q=>by rw[←e];exact q) hq
theorem OkS.mono {σ:Sg}{t:Sem Flow}{K K':F→Sg→Prop}(h:OkS M A hb pr env σ t K)(hK:∀f τ,K f τ→K' f τ):OkS M A hb pr env σ t K':=
 fun α s Q hs F hq=>h α s Q hs F fun f τ α' g h' tk ht k=>hq f τ α' g h' tk ht (hK f τ k)
end
def KS (names:List Str)(K:F→Sg'→Prop):F→Sg→Prop:=fun f τ=>∃σ:Sg',σ.l.length=names.length∧τ=⟨ad names σ.l,σ.c⟩∧K f σ
theorem mE {names:List Str}(nd:names.Nodup):∀{j:Nat} {x:Str},names[j]?=some x→aJ names x=some j:=by
 induction names with
 |nil=>intro j x h;simp at h
 |cons y ys ih=>
  intro j x h
  obtain⟨h1,h2⟩:=List.nodup_cons.mp nd
  dsimp only[aJ]
  cases j with
  |zero=>simp at h;rw[if_pos h]
  |succ j=>
   simp at h
   have:y≠x:=fun e=>h1 (e▸Qg h)
   rw[if_neg this,ih h2 h];rfl
theorem jc {names:List Str}(nd:names.Nodup){l:Sl}{c c':aa}:∀(ns:List Str) (r:Sl) (i:Nat),(∀j x,ns[j]?=some x→names[i+j]?=some x)→slW l c c' i r→mK (ad names l) c c' (ad ns r)
 | [],r,i,_,_=>by cases r<;>trivial
 |n::ns,[],i,_,_=>by show mK _ _ _ [];trivial
 |n::ns,none::r,i,h,hw=>by
  show mK _ _ _ (ad ns r)
  exact jc nd ns r (i+1) (fun j x e=>by have:=h (j+1) x e;rw[show i+1+j=i+(j+1) by exact R23];exact this) hw
 |n::ns,some v::r,i,h,hw=>by
  show (∃v',look (ad names l) n=some v'∧vW c c' v' v)∧mK _ _ _ (ad ns r)
  refine⟨?_,jc nd ns r (i+1) (fun j x e=>by have:=h (j+1) x e;rw[show i+1+j=i+(j+1) by exact R23];exact this) hw.2⟩
  obtain⟨v',h1,h2⟩:=hw.1
  exact⟨v',by rw[cz nd l (mE nd (h 0 n rfl))];exact h1,h2⟩
theorem Wk.weak {names:List Str}(nd:names.Nodup){pr:List Nat}{σ τ:Sg'}(h:Wk pr σ τ):Weak pr ⟨ad names σ.l,σ.c⟩ ⟨ad names τ.l,τ.c⟩:=
 ⟨jc nd names τ.l 0 (fun j x e=>by rw[Nat.zero_add];exact e) h.l,h.c,h.pr⟩
section
variable {prog:Program}{w:World}{hb:Heap}{P:Pm}{K₀:Frag}{dep:Nat}
def sU (prog:Program)(w:World)(hb:Heap)(P:Pm)(K₀:Frag)(dep m:Nat):Prop:=
 ∀(T:Tb) (env:Env) (A:Around) (pr:List Nat),Cx0 prog w hb K₀ T P dep→CxE env T→Room (dep+1) A→
  ∀st ist,vR m T st=some ist→∀n (σ:Sg') K,σ.l.length=T.names.length→wpS P pr n ist σ K→OkS (model prog w) A hb pr env ⟨ad T.names σ.l,σ.c⟩ (exec st env) (KS T.names K)
def lS (prog:Program)(w:World)(hb:Heap)(P:Pm)(K₀:Frag)(dep m:Nat):Prop:=
 ∀(T:Tb) (env:Env) (A:Around) (pr:List Nat),Cx0 prog w hb K₀ T P dep→CxE env T→Room (dep+1) A→
  ∀b ib,bL m T b=some ib→∀n (σ:Sg') K,σ.l.length=T.names.length→wpB P pr n ib σ K→OkS (model prog w) A hb pr env ⟨ad T.names σ.l,σ.c⟩ (execs b env) (KS T.names K)
theorem oE {m:Nat}(ihS:sU prog w hb P K₀ dep m)(ihB:lS prog w hb P K₀ dep m):lS prog w hb P K₀ dep (m+1):=by
 intro T env A pr X E R b ib h n σ K hl hw
 cases b with
 |nil=>
  (injection h with h;subst h)
  cases n with
  |zero=>exact False.elim hw
  |succ n=>
   exact fun α s Q hs F hq=>wpAny_execs_nil (hq .next _ α _ s.heap s.toks hs ⟨σ,hl,rfl,hw⟩ F (.refl ..) rfl)
 |cons st r=>
  obtain⟨x,y,h1,h2,rfl⟩:=cO h
  cases n with
  |zero=>exact False.elim hw
  |succ n=>
   intro α s Q hs F hq
   refine wpAny_execs_cons (ihS T env A pr X E R st x h1 n σ _ hl hw α s _ hs F fun f τ α1 g h1' tk ht k F1 L1 i=>?_)
   obtain⟨σ',hl',rfl,k⟩:=k
   cases f with
   |next=>
    (subst i)
    exact ihB T env A pr X E R r y h2 n σ' K hl' k α1 _ Q ht F1 fun f υ α2 g h2 tk2 ht2 k2 F2 L2 i2=>hq f υ α2 g h2 tk2 ht2 k2 F2 (L1.trans L2 fun b hf=>(F2.fr b hf).2) i2
   |brk=>(subst i);exact hq .brk _ α1 _ h1' tk ht ⟨σ',hl',rfl,k⟩ F1 L1 rfl
   |cont=>(subst i);exact hq .cont _ α1 _ h1' tk ht ⟨σ',hl',rfl,k⟩ F1 L1 rfl
   |ret v=>obtain⟨g',rfl,i⟩:=i;exact hq (.ret v) _ α1 _ h1' tk ht ⟨σ',hl',rfl,k⟩ F1 L1 ⟨g',rfl,i⟩
theorem LeS.isV {env:Env}{pr:List Nat}{l:Loc}{c:aa}{α:Al}{h h':Heap}(L:LeS pr env c α h c α h')(F:Fst hb pr env l c α h){v:V}{g:Value}(i:IsV c α h v g):IsV c α h' v g:=by
 cases v with
 |d x=>exact L.isD F i
 |obj k=>exact i
 |val u=>exact i
 |rng p q=>obtain⟨r,t,u,v,e,g,n⟩:=i;exact⟨r,t,u,v,e,L.kept r _ g (fun f=>aN F f _ rfl g) n,n⟩
 |bi b=>exact i
 |mt e=>obtain⟨r,e,m⟩:=i;exact⟨r,e,m.step (fun b o hz g n=>L.kept b o g (fun f=>aN F f _ hz g) n) (fun _ e=>.inl e)⟩
theorem hX {env:Env}{value:Expr}{t:Option Expr}{n:Nat}(h:bB value=false):swapsWith value t n env=pure false:=by
 cases value<;>first|rfl|exact absurd h (nofun:¬(true=false))
theorem gB {env:Env}{T:Tb}(E:CxE env T){x:Str}{i:Nat}(h:bt T x=some i):lc env x∧aJ T.names x=some i:=by
 unfold bt at h
 split at h
 ·rename_i q
  refine⟨?_,h⟩
  unfold n5 at q
  simp only[Bool.or_eq_true] at q
  rcases q with q|q
  ·exact .inl (E.kl x (beq_iff_eq.mp q))
  ·exact .inr (E.kc x (beq_iff_eq.mp q))
 ·contradiction
theorem bG {env:Env}{A:Around}{pr:List Nat}{T:Tb}(E:CxE env T){x:Str}{i:Nat}(h:bt T x=some i){l:Sl}(hl:l.length=T.names.length){c:aa}{α:Al}{s:Shared}(hs:1≤s.toks){v:V}{g:Value}(F:Fst hb pr env (ad T.names l) c α s.heap)(iv:IsV c α s.heap v g)
  {Q:Unit→Shared→Prop} (hq:∀h' tk,1≤tk→Fst hb pr env (ad T.names (l.set i (some v))) c α h'→LeS pr env c α s.heap c α h'→IsV c α h' v g→Q () {s with heap:=h',toks:=tk}):wpAny (model prog w) A (storeName env x g) Q no s:=by
 obtain⟨h1,h2⟩:=gB E h
 refine aq hs (lC E.eo F h1 iv fun h' tk F' L' ht=>?_)
 have F'':Fst hb pr env (ad T.names (l.set i (some v))) c α h':=F'.look fun y u q=>by rw[←gY E.nd hl h2 v y];exact q
 exact hq h' tk ht F'' L' (L'.isV F iv)
end
section
variable {prog:Program}{w:World}{hb:Heap}{P:Pm}{K₀:Frag}{dep:Nat}{env:Env}{A:Around}{pr:List Nat}{T:Tb}
theorem x3 (E:CxE env T){x:Str}{i:Nat}(hi:bt T x=some i){σ:Sg'}(hl:σ.l.length=T.names.length){p pos:Pos}{value:Expr}(hv:bB value=false){K:F→Sg'→Prop}
  (h:Ev prog w A hb pr env (ad T.names σ.l) σ.c value fun v c1=>K .next ⟨σ.l.set i (some v),c1⟩) :
  OkS (model prog w) A hb pr env ⟨ad T.names σ.l,σ.c⟩ (exec (.Assign [.Name x p] value pos) env) (KS T.names K):=by
 intro α s Q hs F hq
 refine wpAny_Assign_Name (h α s _ hs F fun v c1 α1 g h1 t1 ht1 k1 F1 L1 i1=>?_) (hX hv)
 refine bG (s:={s with heap:=h1,toks:=t1}) E hi hl ht1 F1 i1 fun h2 t2 ht2 F2 L2 i2=>?_
 exact hq .next ⟨_,c1⟩ α1 _ h2 t2 ht2 ⟨⟨_,c1⟩,by rw[List.length_set];exact hl,rfl,k1⟩ F2 ((L1.leS F.toCst).trans L2 fun b hf=>(F2.fr b hf).2) rfl
theorem wj (E:CxE env T){x y:Str}{i j:Nat}(hi:bt T x=some i)(hj:bt T y=some j){σ:Sg'}(hl:σ.l.length=T.names.length){p q pos:Pos}{value:Expr}(hv:bB value=false){K:F→Sg'→Prop}
  (h:Ev prog w A hb pr env (ad T.names σ.l) σ.c value fun v c1=>K .next ⟨(σ.l.set i (some v)).set j (some v),c1⟩) :
  OkS (model prog w) A hb pr env ⟨ad T.names σ.l,σ.c⟩ (exec (.Assign [.Name x p,.Name y q] value pos) env) (KS T.names K):=by
 intro α s Q hs F hq
 refine wpAny_Assign_two (h α s _ hs F fun v c1 α1 g h1 t1 ht1 k1 F1 L1 i1=>?_)
 refine Jv (bG (s:={s with heap:=h1,toks:=t1}) E hi hl ht1 F1 i1 fun h2 t2 ht2 F2 L2 i2=>?_)
 refine Jv (bG (s:={s with heap:=h2,toks:=t2}) E hj (by rw[List.length_set];exact hl) ht2 F2 i2 fun h3 t3 ht3 F3 L3 i3=>?_)
 exact hq .next ⟨_,c1⟩ α1 _ h3 t3 ht3 ⟨⟨_,c1⟩,by rw[List.length_set,List.length_set];exact hl,rfl,k1⟩ F3 (((L1.leS F.toCst).trans L2 fun b hf=>(F2.fr b hf).2).trans L3 fun b hf=>(F3.fr b hf).2) rfl
theorem cN {c:aa}{u:V}{nm:Str}{v:V}{K:aa→Prop}(h:bj P c u nm v K):∃k dk fs,u=.obj k∧ae c k=some (.inst P.C dk)∧ae c dk=some (.ns fs)∧P.attr nm=true∧fs.length≤1000∧K (cset c dk (.ns (put fs nm v))):=by
 obtain⟨k,e,h⟩:=dQ h
 obtain⟨C,dk,hk,rfl,h1,h⟩:=gR h
 obtain⟨fs,hd,h⟩:=lB h
 exact⟨k,dk,fs,e,hk,hd,h1,h⟩
theorem lm {c:aa}{k dk:Nat}{fs:List (Str×V)}{nm:Str}{v:V}{K:aa→Prop}(g1:ae c k=some (.inst P.C dk))(g2:ae c dk=some (.ns fs))(g3:P.attr nm=true)(g4:fs.length≤1000)(h:K (cset c dk (.ns (put fs nm v)))):bj P c (.obj k) nm v K:=by
 show eD (ae c k) _
 rw[g1]
 refine⟨rfl,g3,?_⟩
 rw[g2]
 exact⟨g4,h⟩
theorem xd (X:Cx0 prog w hb K₀ T P dep)(E:CxE env T){o:Expr}{nm:Str}{σ:Sg'}(hl:σ.l.length=T.names.length){p pos:Pos}{value:Expr}(hv:bB value=false){K:F→Sg'→Prop}
  (h:Ev prog w A hb pr env (ad T.names σ.l) σ.c value fun v c1=>Ev prog w A hb pr env (ad T.names σ.l) c1 o fun u c2=>bj P c2 u nm v fun c3=>K .next ⟨σ.l,c3⟩) :
  OkS (model prog w) A hb pr env ⟨ad T.names σ.l,σ.c⟩ (exec (.Assign [.Attribute o nm p] value pos) env) (KS T.names K):=by
 intro α s Q hs F hq
 refine plainObj_wpAny_Assign_Attribute (h α s _ hs F fun v c1 α1 g h1 t1 ht1 k1 F1 L1 i1=>?_) (hX hv)
 refine k1 α1 _ _ ht1 F1 fun u c2 α2 g2 h2 t2 ht2 k2 F2 L2 i2=>?_
 obtain⟨k,dk,fs,rfl,hk,hdk,hat,hsz,hK⟩:=cN k2
 obtain⟨rfl,_⟩:=i2
 refine aq (s:={s with heap:=h2,toks:=t2}) ht2 (ez (s:={s with heap:=h2,toks:=t2}) F2 X.kin hk hdk X.cls (X.attr nm hat) hsz (L2.isV i1) fun h3 t3 F3 L3 ht3=>?_)
 exact hq .next ⟨ad T.names σ.l,cset c2 dk (.ns (put fs nm v))⟩ α2 _ h3 t3 ht3 ⟨⟨σ.l,cset c2 dk (.ns (put fs nm v))⟩,hl,rfl,hK⟩ F3 (((L1.trans L2).trans L3).leS F.toCst) rfl
theorem te (X:Cx0 prog w hb K₀ T P dep)(E:CxE env T){o:Expr}{nm y:Str}{j:Nat}(hj:bt T y=some j){σ:Sg'}(hl:σ.l.length=T.names.length){p q pos:Pos}{value:Expr}(hv:bB value=false){K:F→Sg'→Prop}
  (h:Ev prog w A hb pr env (ad T.names σ.l) σ.c value fun v c1=>Ev prog w A hb pr env (ad T.names σ.l) c1 o fun u c2=>bj P c2 u nm v fun c3=>K .next ⟨σ.l.set j (some v),c3⟩) :
  OkS (model prog w) A hb pr env ⟨ad T.names σ.l,σ.c⟩ (exec (.Assign [.Attribute o nm p,.Name y q] value pos) env) (KS T.names K):=by
 intro α s Q hs F hq
 refine wpAny_Assign_two (h α s _ hs F fun v c1 α1 g h1 t1 ht1 k1 F1 L1 i1=>?_)
 show wpAny _ A (do let ov ←holding [g] (eval o env);standAt p.atName;holding [g,ov] (setAttr ov nm g);release [g,ov] []) _ _ _
 refine Zb (Jx (k1 α1 _ _ ht1 F1 fun u c2 α2 g2 h2 t2 ht2 k2 F2 L2 i2=>?_))
 obtain⟨k,dk,fs,rfl,hk,hdk,hat,hsz,hK⟩:=cN k2
 obtain⟨rfl,_⟩:=i2
 refine Zb (Jj (Zb (Jx (aq (s:={s with heap:=h2,toks:=t2}) ht2 (ez (s:={s with heap:=h2,toks:=t2}) F2 X.kin hk hdk X.cls (X.attr nm hat) hsz (L2.isV i1) fun h3 t3 F3 L3 ht3=>?_)))))
 refine wpAny_release ?_
 refine Jv (bG (s:={s with heap:=h3,toks:=t3}) E hj hl ht3 F3 (L3.isV (L2.isV i1)) fun h4 t4 ht4 F4 L4 i4=>?_)
 exact hq .next ⟨ad T.names (σ.l.set j (some v)),cset c2 dk (.ns (put fs nm v))⟩ α2 _ h4 t4 ht4 ⟨⟨σ.l.set j (some v),cset c2 dk (.ns (put fs nm v))⟩,by rw[List.length_set];exact hl,rfl,hK⟩ F4 ((((L1.trans L2).trans L3).leS F.toCst).trans L4 fun b hf=>(F4.fr b hf).2) rfl
theorem wo (E:CxE env T){σ:Sg'}(hl:σ.l.length=T.names.length){pos:Pos}{e:Expr}(hv:bB e=false){K:F→Sg'→Prop}
  (h:Ev prog w A hb pr env (ad T.names σ.l) σ.c e fun v c1=>K .next ⟨σ.l,c1⟩) :
  OkS (model prog w) A hb pr env ⟨ad T.names σ.l,σ.c⟩ (exec (.Expr e pos) env) (KS T.names K):=by
 intro α s Q hs F hq
 refine wpAny_Expr_any (h α s _ hs F fun v c1 α1 g h1 t1 ht1 k1 F1 L1 i1=>?_) E.eo.inter (hX hv)
 exact hq .next ⟨_,c1⟩ α1 _ h1 t1 ht1 ⟨⟨_,c1⟩,hl,rfl,k1⟩ F1 (L1.leS F.toCst) rfl
theorem zL {σ:Sg'}{t:Expr}{a b:List Stmt}{pos:Pos}{K:F→Sg→Prop}(h:Tst prog w A hb pr env (ad T.names σ.l) σ.c t fun r c1=>(r=true→OkS (model prog w) A hb pr env ⟨ad T.names σ.l,c1⟩ (execs a env) K)∧(r=false→OkS (model prog w) A hb pr env ⟨ad T.names σ.l,c1⟩ (execs b env) K)) :
  OkS (model prog w) A hb pr env ⟨ad T.names σ.l,σ.c⟩ (exec (.If t a b pos) env) K:=by
 intro α s Q hs F hq
 refine wpAny_If (h α s _ hs F fun r c1 α1 g h1 t1 ht1 k1 F1 L1 i1=>?_)
 cases i1
 cases r with
 |true=>
  rw[if_pos rfl]
  exact k1.1 rfl α1 _ Q ht1 F1 fun f τ α2 g2 h2 t2 ht2 k2 F2 L2 i2=>hq f τ α2 g2 h2 t2 ht2 k2 F2 ((L1.leS F.toCst).trans L2 fun b hf=>(F2.fr b hf).2) i2
 |false=>
  rw[if_neg (by decide)]
  exact k1.2 rfl α1 _ Q ht1 F1 fun f τ α2 g2 h2 t2 ht2 k2 F2 L2 i2=>hq f τ α2 g2 h2 t2 ht2 k2 F2 ((L1.leS F.toCst).trans L2 fun b hf=>(F2.fr b hf).2) i2
theorem yp {σ:Sg'}(hl:σ.l.length=T.names.length){e:Expr}{pos:Pos}{K:F→Sg'→Prop}(h:Ev prog w A hb pr env (ad T.names σ.l) σ.c e fun v c1=>K (.ret v) ⟨σ.l,c1⟩) :
  OkS (model prog w) A hb pr env ⟨ad T.names σ.l,σ.c⟩ (exec (.Return (some e) pos) env) (KS T.names K):=by
 intro α s Q hs F hq
 refine wpAny_Return_some (h α s _ hs F fun v c1 α1 g h1 t1 ht1 k1 F1 L1 i1=>?_)
 exact hq (.ret v) ⟨_,c1⟩ α1 _ h1 t1 ht1 ⟨⟨_,c1⟩,hl,rfl,k1⟩ F1 (L1.leS F.toCst) ⟨g,rfl,i1⟩
theorem pZ {σ:Sg'}(hl:σ.l.length=T.names.length){t:Expr}{pos:Pos}{K:F→Sg'→Prop}(h:Tst prog w A hb pr env (ad T.names σ.l) σ.c t fun r c1=>r=true∧K .next ⟨σ.l,c1⟩) :
  OkS (model prog w) A hb pr env ⟨ad T.names σ.l,σ.c⟩ (exec (.Assert t none pos) env) (KS T.names K):=by
 intro α s Q hs F hq
 refine wpAny_Assert_holds (h α s _ hs F fun r c1 α1 g h1 t1 ht1 k1 F1 L1 i1=>?_)
 (subst i1)
 exact⟨k1.1,hq .next ⟨_,c1⟩ α1 _ h1 t1 ht1 ⟨⟨_,c1⟩,hl,rfl,k1.2⟩ F1 (L1.leS F.toCst) rfl⟩
end
section
variable {prog:Program}{w:World}{hb:Heap}{P:Pm}{K₀:Frag}{dep:Nat}{env:Env}{A:Around}{pr:List Nat}{T:Tb}
noncomputable def sta (e:Expr):Bool:=match e with
 | .Starred ..=>true
 |_=>false
theorem so {e:Expr}(q:cI e=false):sta e=false:=by cases e<;>first|rfl|contradiction
theorem uL {a b:Expr}(ha:cI a=false)(hb:cI b=false):[a,b].any sta=false:=by
 show (sta a||(sta b||false))=false
 rw[so ha,so hb];rfl
noncomputable def nmf (env:Env)(n:Nat)(e:Expr):Option Str:=match e with
 | .Name id pos=>if (env.kindOf id==some .local&&pos.line==n)=true then some id else none
 |_=>none
theorem pn {env:Env}{x y:Str}{px py:Pos}(kx:env.kindOf x=some .local)(ky:env.kindOf y=some .local)(h3:(py.line==px.line)=true):[Expr.Name x px,.Name y py].filterMap (nmf env px.line)=[x,y]:=by
 have e1:nmf env px.line (.Name x px)=some x:=if_pos (by rw[kx];simp)
 have e2:nmf env px.line (.Name y py)=some y:=if_pos (by rw[ky,h3];rfl)
 rw[List.filterMap_cons_some e1,List.filterMap_cons_some e2];rfl
theorem qL (E:CxE env T){x y:Str}{px py tp vp:Pos}{k k':Nat}{a b:Expr}(h:ku T x px y py a b=true) :
  swappedStores [.Tuple [.Name x px,.Name y py] k tp] (.Tuple [a,b] k' vp) env=pure (some [x,y])∧cI a=false∧cI b=false:=by
 unfold ku at h
 obtain⟨h,h8⟩:=(Xv _ _).mp h
 obtain⟨h,h7⟩:=(Xv _ _).mp h
 obtain⟨h,h6⟩:=(Xv _ _).mp h
 obtain⟨h,h5⟩:=(Xv _ _).mp h
 obtain⟨h,h4⟩:=(Xv _ _).mp h
 obtain⟨h,h3⟩:=(Xv _ _).mp h
 obtain⟨h1,h2⟩:=(Xv _ _).mp h
 have nt:∀{b:Bool},(!b)=true→b=false:=fun {b} q=>by cases b<;>first|rfl|contradiction
 have h4:=nt h4
 have h5:=nt h5
 have h6:=nt h6
 have h7:=nt h7
 have h8:=nt h8
 refine⟨?_,h5,h6⟩
 have hb':env.blockKind=.function:=by unfold Env.blockKind;rw[E.eo.kind];rfl
 have tn:=pn (E.kl x (eq_of_beq h1)) (E.kl y (eq_of_beq h2)) h3
 have hn:([x,y]:List Str).eraseDups.length=2:=by
  have:(y==x)=false:=by rw[beq_eq_false_iff_ne] at h4 ⊢;exact fun e=>h4 e.symm
  simp[List.eraseDups_cons,this]
 refine (if_neg (by rw[hb'];exact fun q=>Bool.false_ne_true q)).trans ((if_neg (by have q:=uL h5 h6;intro q';exact Bool.false_ne_true (q.symm.trans q'))).trans ?_)
 refine (if_neg (fun q=>?_)).trans ((if_neg (fun q=>Bool.false_ne_true (h7.symm.trans q))).trans ((if_neg (fun q=>Bool.false_ne_true (h8.symm.trans q))).trans ?_))
 ·have q:(([Expr.Name x px,.Name y py].filterMap (nmf env px.line)).length != 2||([Expr.Name x px,.Name y py].filterMap (nmf env px.line)).eraseDups.length != ([Expr.Name x px,.Name y py].filterMap (nmf env px.line)).length)=true:=q
  rw[tn,hn] at q;exact Bool.false_ne_true q
 ·exact congrArg (fun l=>(pure (some l):Sem (Option (List Str)))) tn
theorem xB (E:CxE env T)(R:Room (dep+1) A){x y:Str}{i j:Nat}(hi:bt T x=some i)(hj:bt T y=some j){px py tp vp pos:Pos}{k k':Nat}{a b:Expr}(h2:ku T x px y py a b=true){σ:Sg'}(hl:σ.l.length=T.names.length){K:F→Sg'→Prop}
  (h:Ev prog w A hb pr env (ad T.names σ.l) σ.c a fun u c1=>Ev prog w A hb pr env (ad T.names σ.l) c1 b fun v c2=>(∃x y,u=.d x∧v=.d y)∧K .next ⟨(σ.l.set j (some v)).set i (some u),c2⟩) :
  OkS (model prog w) A hb pr env ⟨ad T.names σ.l,σ.c⟩ (exec (.Assign [.Tuple [.Name x px,.Name y py] k tp] (.Tuple [a,b] k' vp) pos) env) (KS T.names K):=by
 obtain⟨hsw,hsa,hsb⟩:=qL (k:=k) (k':=k') (tp:=tp) (vp:=vp) E h2
 intro α s Q hs F hq
 have hE:Ev prog w A hb pr env (ad T.names σ.l) σ.c (.Tuple [a,b] k' vp) fun t c2=>∃x y,t=.d (.tup [x,y])∧K .next ⟨(σ.l.set j (some (.d y))).set i (some (.d x)),c2⟩:=by
  refine rv (by simp[bK,hsa,hsb]) ?_
  refine OkE.mono h fun u c1 h1=>OkE.mono h1 fun v c2 h2=>?_
  obtain⟨⟨x,y,rfl,rfl⟩,h2⟩:=h2
  exact⟨(by show 2≤big;decide),x,y,rfl,h2⟩
 refine Assign_Tuple_swapped (hE α s _ hs F fun t c2 α2 g h2 t2 ht2 k2 F2 L2 i2=>?_) rfl hsw
 obtain⟨dx,dy,rfl,hK⟩:=k2
 obtain⟨wx,wy,ta,ep,rfl,hg,ix,iy⟩:=IsD.two i2
 refine unpackItems_tuple (items:=#[wx,wy]) R.handled ⟨_,hg,rfl,_,rfl⟩ fun h3 he=>?_
 have hkeep:∀b o,h2.get? b=some o→h3.get? b=some o:=fun b o e=>he b o (fun q=>by rw[q] at e;exact Nat.lt_irrefl _ (Heap.lt_size e)) e
 obtain⟨F3,L3⟩:=F2.keeps hkeep
 show wpAny _ A (do holding [wx] (bindName env y wy);(do holding [] (bindName env x wx);pure ())) _ _ _
 refine Zb (Jx (bindName_ (bG (s:={s with heap:=h3,toks:=t2}) E hj hl ht2 F3 (v:=.d dy) (L3.isD iy) fun h4 t4 ht4 F4 L4 i4=>?_)))
 refine Zb (Jx (bindName_ (bG (s:={s with heap:=h4,toks:=t4}) E hi (by rw[List.length_set];exact hl) ht4 F4 (v:=.d dx) (L4.isD F3 (L3.isD ix)) fun h5 t5 ht5 F5 L5 i5=>Zp ?_)))
 exact hq .next ⟨_,c2⟩ α2 _ h5 t5 ht5 ⟨⟨_,c2⟩,by rw[List.length_set,List.length_set];exact hl,rfl,hK⟩ F5 ((((L2.trans L3).leS F.toCst).trans L4 fun b hf=>(F4.fr b hf).2).trans L5 fun b hf=>(F5.fr b hf).2) rfl
theorem uj {u:V}{K:D→D→Prop}(h:xc u K):∃x y,u=.d (.tup [x,y])∧K x y:=by
 obtain⟨x,rfl,h1⟩:=cR h
 cases x with
 |tup xs=>obtain⟨x,y,rfl,h2⟩:=wc h1;exact⟨x,y,rfl,h2⟩
 |_=>exact h1.elim
theorem xw (E:CxE env T)(R:Room (dep+1) A){x y:Str}{i j:Nat}(hi:bt T x=some i)(hj:bt T y=some j){px py tp pos:Pos}{k:Nat}{value:Expr}(hv:bB value=false)(hnt:oC value=none){σ:Sg'}(hl:σ.l.length=T.names.length){K:F→Sg'→Prop}
  (h:Ev prog w A hb pr env (ad T.names σ.l) σ.c value fun u c1=>xc u fun x y=>K .next ⟨(σ.l.set i (some (.d x))).set j (some (.d y)),c1⟩) :
  OkS (model prog w) A hb pr env ⟨ad T.names σ.l,σ.c⟩ (exec (.Assign [.Tuple [.Name x px,.Name y py] k tp] value pos) env) (KS T.names K):=by
 intro α s Q hs F hq
 have hsw:swappedStores [.Tuple [.Name x px,.Name y py] k tp] value env=pure none:=by
  cases value<;>first|rfl|contradiction
 refine wpAny_Assign_stores (h α s _ hs F fun u c2 α2 g h2 t2 ht2 k2 F2 L2 i2=>?_) (by cases value<;>first|rfl|exact absurd hv (nofun:¬(true=false))) hsw
 obtain⟨dx,dy,rfl,k2⟩:=uj k2
 obtain⟨wx,wy,ta,ep,rfl,hg,ix,iy⟩:=IsD.two i2
 refine wpAny_assign_Tuple (x1:=k) (items:=#[wx,wy]) R.handled ⟨_,hg,rfl,_,rfl⟩ rfl rfl fun h3 he=>?_
 have hkeep:∀b o,h2.get? b=some o→h3.get? b=some o:=fun b o e=>he b o (fun q=>by rw[q] at e;exact Nat.lt_irrefl _ (Heap.lt_size e)) e
 obtain⟨F3,L3⟩:=F2.keeps hkeep
 show wpAny _ A (do holding [wy] (assign (.Name x px) env wx);(do holding [] (assign (.Name y py) env wy);pure ())) _ _ _
 refine Zb (Jx (Jv (bG (s:={s with heap:=h3,toks:=t2}) E hi hl ht2 F3 (v:=.d dx) (L3.isD ix) fun h4 t4 ht4 F4 L4 i4=>?_)))
 refine Zb (Jx (Jv (bG (s:={s with heap:=h4,toks:=t4}) E hj (by rw[List.length_set];exact hl) ht4 F4 (v:=.d dy) (L4.isD F3 (L3.isD iy)) fun h5 t5 ht5 F5 L5 i5=>Zp ?_)))
 exact hq .next ⟨_,c2⟩ α2 _ h5 t5 ht5 ⟨⟨_,c2⟩,by rw[List.length_set,List.length_set];exact hl,rfl,k2⟩ F5 ((((L2.trans L3).leS F.toCst).trans L4 fun b hf=>(F4.fr b hf).2).trans L5 fun b hf=>(F5.fr b hf).2) rfl
theorem gn (X:Cx0 prog w hb K₀ T P dep){o:Expr}{nm:Str}{p:Pos}{l:Sl}{c:aa}{d:D}{K:aa→Prop}(h:Ev prog w A hb pr env (ad T.names l) c o fun u c2=>bj P c2 u nm (.d d) K){α:Al}{s:Shared}{g:Value}{Q:Unit→Shared→Prop}(hs:1≤s.toks)
  (F:Fst hb pr env (ad T.names l) c α s.heap) (i:IsD s.heap (ay c α) d g) (hq:∀c' α' h' tk,1≤tk→K c'→Fst hb pr env (ad T.names l) c' α' h'→Le c α s.heap c' α' h'→Q () {s with heap:=h',toks:=tk}) :
  wpAny (model prog w) A (assign (.Attribute o nm p) env g) Q no s:=by
 show wpAny _ A (do let ov ←holding [g] (eval o env);standAt p.atName;holding [g,ov] (setAttr ov nm g);release [g,ov] []) _ _ _
 refine Zb (Jx (h α s _ hs F fun u c2 α2 g2 h2 t2 ht2 k2 F2 L2 i2=>?_))
 obtain⟨k,dk,fs,rfl,hk,hdk,hat,hsz,hK⟩:=cN k2
 obtain⟨rfl,_⟩:=i2
 refine Zb (Jj (Zb (Jx (aq (s:={s with heap:=h2,toks:=t2}) ht2 (ez (s:={s with heap:=h2,toks:=t2}) F2 X.kin hk hdk X.cls (X.attr nm hat) hsz (v:=.d d) (L2.isD i) fun h3 t3 F3 L3 ht3=>?_)))))
 exact wpAny_release (hq _ α2 h3 t3 ht3 hK F3 (L2.trans L3))
theorem wz (X:Cx0 prog w hb K₀ T P dep)(R:Room (dep+1) A){o1 o2:Expr}{n1 n2:Str}{p1 p2 tp vp pos:Pos}{k k':Nat}{a b:Expr}(hst:bK [a,b]=true){σ:Sg'}(hl:σ.l.length=T.names.length){K:F→Sg'→Prop}
  (h:Ev prog w A hb pr env (ad T.names σ.l) σ.c a fun u c1=>Ev prog w A hb pr env (ad T.names σ.l) c1 b fun v c2=>dd u v fun x y=>Ev prog w A hb pr env (ad T.names σ.l) c2 o1 fun u1 c3=>bj P c3 u1 n1 (.d x) fun c4=>Ev prog w A hb pr env (ad T.names σ.l) c4 o2 fun u2 c5=>bj P c5 u2 n2 (.d y) fun c6=>K .next ⟨σ.l,c6⟩) :
  OkS (model prog w) A hb pr env ⟨ad T.names σ.l,σ.c⟩ (exec (.Assign [.Tuple [.Attribute o1 n1 p1,.Attribute o2 n2 p2] k tp] (.Tuple [a,b] k' vp) pos) env) (KS T.names K):=by
 intro α s Q hs F hq
 have hE:Ev prog w A hb pr env (ad T.names σ.l) σ.c (.Tuple [a,b] k' vp) fun t c2=>∃x y,t=.d (.tup [x,y])∧Ev prog w A hb pr env (ad T.names σ.l) c2 o1 fun u1 c3=>bj P c3 u1 n1 (.d x) fun c4=>Ev prog w A hb pr env (ad T.names σ.l) c4 o2 fun u2 c5=>bj P c5 u2 n2 (.d y) fun c6=>K .next ⟨σ.l,c6⟩:=by
  refine rv hst ?_
  refine OkE.mono h fun u c1 h1=>OkE.mono h1 fun v c2 h2=>?_
  obtain⟨x,y,rfl,rfl,h2⟩:=nV h2
  exact⟨(by show 2≤big;decide),x,y,rfl,h2⟩
 have hsw:swappedStores [.Tuple [.Attribute o1 n1 p1,.Attribute o2 n2 p2] k tp] (.Tuple [a,b] k' vp) env=pure none:=by
  have hsa:(if (!(([Expr.Attribute o1 n1 p1,.Attribute o2 n2 p2].length==2)||([Expr.Attribute o1 n1 p1,.Attribute o2 n2 p2].length==3))||([a,b].length != [Expr.Attribute o1 n1 p1,.Attribute o2 n2 p2].length)||env.blockKind != .function)=true then (pure none:Sem (Option (List Str))) else if ([a,b].any fun | .Starred ..=>true|_=>false)=true then pure none else pure none)=pure none:=by
   split
   ·rfl
   ·split<;>rfl
  exact hsa
 refine wpAny_Assign_stores (hE α s _ hs F fun u c2 α2 g h2 t2 ht2 k2 F2 L2 i2=>?_) rfl hsw
 obtain⟨dx,dy,rfl,k2⟩:=k2
 obtain⟨wx,wy,ta,ep,rfl,hg,ix,iy⟩:=IsD.two i2
 refine wpAny_assign_Tuple (x1:=k) (items:=#[wx,wy]) R.handled ⟨_,hg,rfl,_,rfl⟩ rfl rfl fun h3 he=>?_
 have hkeep:∀b o,h2.get? b=some o→h3.get? b=some o:=fun b o e=>he b o (fun q=>by rw[q] at e;exact Nat.lt_irrefl _ (Heap.lt_size e)) e
 obtain⟨F3,L3⟩:=F2.keeps hkeep
 show wpAny _ A (do holding [wy] (assign (.Attribute o1 n1 p1) env wx);(do holding [] (assign (.Attribute o2 n2 p2) env wy);pure ())) _ _ _
 refine Zb (Jx (gn (s:={s with heap:=h3,toks:=t2}) X k2 ht2 F3 (L3.isD ix) fun c4 α4 h4 t4 ht4 k4 F4 L4=>?_))
 refine Zb (Jx (gn (s:={s with heap:=h4,toks:=t4}) X k4 ht4 F4 (L4.isD (L3.isD iy)) fun c6 α6 h6 t6 ht6 k6 F6 L6=>Zp ?_))
 exact hq .next ⟨_,c6⟩ α6 _ h6 t6 ht6 ⟨⟨_,c6⟩,hl,rfl,k6⟩ F6 ((((L2.trans L3).trans L4).trans L6).leS F.toCst) rfl
theorem tR {c:aa}{u v:V}{K:aa→Prop}(h:uw c u v K):∃k xs,u=.obj k∧v=.d (.int (-1))∧ae c k=some (.list xs)∧xs≠[]∧xs.length≤big∧K (cset c k (.list xs.dropLast)):=by
 obtain⟨k,e,h⟩:=dQ h
 obtain⟨i,e',rfl,h⟩:=cj h
 obtain⟨xs,hx,h⟩:=cH h
 exact⟨k,xs,e,e',hx,h⟩
theorem yL {o i:Expr}{p pos:Pos}{σ:Sg'}(hl:σ.l.length=T.names.length){K:F→Sg'→Prop}
  (h:Ev prog w A hb pr env (ad T.names σ.l) σ.c o fun u c1=>Ev prog w A hb pr env (ad T.names σ.l) c1 i fun v c2=>uw c2 u v fun c3=>K .next ⟨σ.l,c3⟩) :
  OkS (model prog w) A hb pr env ⟨ad T.names σ.l,σ.c⟩ (exec (.Delete [.Subscript o i p] pos) env) (KS T.names K):=by
 intro α s Q hs F hq
 refine wpAny_Delete (wpAny_deleteEach_cons ?_)
 rw[arm_delete_Subscript]
 refine Zb (h α s _ hs F fun u c1 α1 g h1 t1 ht1 k1 F1 L1 i1=>?_)
 refine Zb (Jx (k1 α1 _ _ ht1 F1 fun v c2 α2 g2 h2 t2 ht2 k2 F2 L2 i2=>?_))
 obtain⟨kk,xs,rfl,rfl,hx,hne,hbig,hK⟩:=tR k2
 ··obtain⟨rfl,hkm⟩:=L2.isV i1
   obtain⟨_,rfl⟩:=IsD.inv i2
   obtain⟨us,ep,gk,rk⟩:=F2.toCst.cell kk _ hx
   have hlen:us.length=xs.length:=rk.length.symm
   have hpos:0<us.length:=by rw[hlen];exact List.length_pos_iff.mpr hne
   refine Zb (Jj (Zb (Jx (PySem.P.delItem_list (s:={s with heap:=h2,toks:=t2}) (items:=us.toArray) (k:=us.length-1) gk (by decide) ?_ ?_ ?_))))
   ·rw[Xq]
    show (if (decide (0≤(if (-1:Int)<0 then -1+(us.length:Int) else -1))&&decide ((if (-1:Int)<0 then -1+(us.length:Int) else -1)<(us.length:Int)))=true then some (if (-1:Int)<0 then -1+(us.length:Int) else -1).toNat else none)=_
    rw[if_pos (show (-1:Int)<0 by decide),decide_eq_true (R28 hpos),decide_eq_true (R27),Bool.and_self,if_pos rfl]
    congr 1;exact R26
   ·refine wpAny_release (wpAny_deleteEach_nil ?_)
    have g8:(h2.update (α2 kk) (Obj.mapSeq fun xs=>xs.eraseIdxIfInBounds (us.length-1))).get? (α2 kk)=some (bq "list" us.dropLast (ep+1)):=by
     rw[Heap.get?_update_self _ gk (by rfl)]
     have e:us.toArray.eraseIdxIfInBounds (us.length-1)=us.dropLast.toArray:=by
      unfold Array.eraseIdxIfInBounds
      rw[dif_pos (by rw[Xq];exact R25 hpos),List.eraseIdx_toArray,List.eraseIdx_length_sub_one]
     simp[Obj.mapSeq,e];exact R24 hpos
    obtain⟨F8,L8⟩:=F2.set hkm (o:=.list xs.dropLast) (Heap.SameBut.update h2 (α2 kk) (Obj.mapSeq fun xs=>xs.eraseIdxIfInBounds (us.length-1))) (fun L=>⟨us.dropLast,ep+1,g8,by
     have q:=(L.isDs rk).take (us.length-1)
     rw[←List.dropLast_eq_take,hlen,←List.dropLast_eq_take,←hlen] at q;exact q⟩)
    exact hq .next ⟨ad T.names σ.l,cset c2 kk (.list xs.dropLast)⟩ α2 _ _ t2 ht2 ⟨⟨σ.l,cset c2 kk (.list xs.dropLast)⟩,hl,rfl,hK⟩ F8 (((L1.trans L2).trans L8).leS F.toCst) rfl
   ·rw[Xq,hlen];exact aH hbig
end
section
variable {prog:Program}{w:World}{hb:Heap}{P:Pm}{K₀:Frag}{dep:Nat}
theorem oz {env:Env}{T:Tb}(E:CxE env T){x:Str}{px:Pos}{elt:Expr}{gs:List Comprehension}{scope:Scope}{pos:Pos}(n:Nat)(h:iX T x px (.ListComp elt gs scope pos)=true) :
  swapsWith (.ListComp elt gs scope pos) (some (.Name x px)) n env=pure true∧env.kindOf x=some .local:=by
 obtain⟨h,h3⟩:=(Xv _ _).mp h
 obtain⟨h1,h2⟩:=(Xv _ _).mp h
 have h1:=eq_of_beq h1
 have h3:(scope.names.any fun (n,k)=>n==x&&(k==.local||k==.cell))=false:=by simpa using h3
 have k:=E.kl x h1
 have hb':env.blockKind=.function:=by unfold Env.blockKind;rw[E.eo.kind];rfl
 refine⟨?_,k⟩
 show (pure (env.blockKind==.function&&env.kindOf x==some .local&&px.line==pos.line&&!(scope.names.any fun (n,k)=>n==x&&(k==.local||k==.cell))):Sem Bool)=_
 rw[hb',k,h2,h3]
 simp
theorem OkS.post {M:Model}{A:Around}{pr:List Nat}{env:Env}{σ:Sg}{t:Sem Flow}{K K':F→Sg→Prop}(h:OkS M A hb pr env σ t K)(hK:∀f τ,K f τ→∃l',(∀x,Mine.look l' x=Mine.look τ.l x)∧K' f ⟨l',τ.c⟩):OkS M A hb pr env σ t K':=
 fun α s Q hs F hq=>h α s Q hs F fun f τ α' g h' tk ht k F' L' i=>by
  obtain⟨l',e,k'⟩:=hK f τ k
  exact hq f ⟨l',τ.c⟩ α' g h' tk ht k' (F'.look fun x v q=>by rw[←e];exact q) L' i
theorem rp {T:Tb}{x:Str}{p:Pos}{value:Expr}(h:iX T x p value=true):∃elt gs scope pos,value=.ListComp elt gs scope pos:=by
 unfold iX at h
 cases q:lcP value with
 |none=>rw[q] at h;contradiction
 |some k=>obtain⟨elt,gs,e⟩:=wp q;exact⟨elt,gs,_,_,e⟩
theorem tv {m:Nat}{T:Tb}{env:Env}{A:Around}{pr:List Nat}(X:Cx0 prog w hb K₀ T P dep)(E:CxE env T)(R:Room (dep+1) A){y:Str}{py spos:Pos}{value:Expr}(hsw:iX T y py value=true){i:Nat}(hi:bt T y=some i){e:IE}(h:(aC m T value>>=qJ)=some e)
  {n:Nat} {σ:Sg'} (hl:σ.l.length=T.names.length) {K:F→Sg'→Prop} (hw:wpE P n e σ.l σ.c fun v c1=>K .next ⟨σ.l.set i (some v),c1⟩) :
  OkS (model prog w) A hb pr env ⟨ad T.names σ.l,σ.c⟩ (exec (.Assign [.Name y py] value spos) env) (KS T.names K):=by
 obtain⟨elt,gs,scope,pos,rfl⟩:=rp hsw
 cases m with
 |zero=>contradiction
 |succ m=>
  have ihE:=snd (prog:=prog) (w:=w) (hb:=hb) (P:=P) (K₀:=K₀) (dep:=dep) m
  obtain⟨e0,h,h'⟩:=aP h
  obtain⟨x,px,iter,ifs,fs,is,k,e',it,jt,rfl,hs,hfold,hr,he,hit,hj,rfl⟩|⟨_,_,_,_,_,_,_,_,_,_,_,_,_,_,_,_,_,_,_,_,_,rfl⟩:=nh (f:=aC m) h
  rotate_left
  ·contradiction
  injection h' with h';subst h'
  obtain⟨hs1,hk⟩:=oz E spos.line hsw
  obtain⟨SO,_⟩:=fc E hs rfl
  obtain⟨_,hslot⟩:=gB E hi
  refine OkS.post (K:=fun f τ=>∃v c',f=.next∧τ=⟨put (ad T.names σ.l) y v,c'⟩∧K .next ⟨σ.l.set i (some v),c'⟩) ?_ ?_
  ·cases n with
   |zero=>exact False.elim hw
   |succ n=>
    exact oV E R SO hfold hk hs1 (kk:=k) (OkE.mono ((ihE T env A pr X E R iter it hit).1 _ _ _ _ hw) fun v c1 k1=>fG ihE X E R hs hr he hj (n:=n) (mS k1 fun v c q=>⟨v,c,rfl,rfl,q⟩))
  ·rintro f _ ⟨v,c',rfl,rfl,k⟩
   exact⟨ad T.names (σ.l.set i (some v)),fun z=>gY E.nd hl hslot v z,⟨σ.l.set i (some v),c'⟩,by rw[List.length_set];exact hl,rfl,k⟩
def SS (prog:Program)(w:World)(hb:Heap)(P:Pm)(T:Tb)(env:Env)(A:Around)(pr:List Nat)(st:Stmt)(ist:IS):Prop:=
 ∀(n:Nat) (σ:Sg') (K:F→Sg'→Prop),σ.l.length=T.names.length→wpS P pr n ist σ K→OkS (model prog w) A hb pr env ⟨ad T.names σ.l,σ.c⟩ (exec st env) (KS T.names K)
theorem SS.of {T:Tb}{env:Env}{A:Around}{pr:List Nat}{st:Stmt}{ist:IS}(h:∀(n:Nat) (σ:Sg') (K:F→Sg'→Prop),σ.l.length=T.names.length→wpS P pr (n+1) ist σ K→OkS (model prog w) A hb pr env ⟨ad T.names σ.l,σ.c⟩ (exec st env) (KS T.names K)):SS prog w hb P T env A pr st ist:=fun n σ K hl hw=>by
 cases n with
 |zero=>exact False.elim hw
 |succ n=>exact h n σ K hl hw
theorem f6 {α:Type}{e:Expr}{a:Option α}{r:α}(h:(if bB e then none else a)=some r):bB e=false∧a=some r:=by
 cases q:bB e with
 |true=>rw[q] at h;contradiction
 |false=>rw[q] at h;exact⟨rfl,h⟩
section
variable {m:Nat}{T:Tb}{env:Env}{A:Around}{pr:List Nat}(X:Cx0 prog w hb K₀ T P dep)(E:CxE env T)(R:Room (dep+1) A)
include X E R
theorem ev' {a:Expr}{ia:IE}(ha:aC m T a=some ia):SE prog w hb P T env A pr a ia:=snd (prog:=prog) (w:=w) (hb:=hb) (P:=P) (K₀:=K₀) (dep:=dep) m T env A pr X E R a ia ha
theorem w6 {t1 t2 a b:Expr}{k k':Nat}{p p' pos:Pos}{q1 q2:Str×Pos}(h1:bV t1=some q1)(h2:bV t2=some q2){ist:IS}(h:(if ku T q1.1 q1.2 q2.1 q2.2 a b then (do return IS.unp2 (←bt T q1.1) (←bt T q2.1) (←aC m T a) (←aC m T b)) else none)=some ist) :
  SS prog w hb P T env A pr (.Assign [.Tuple [t1,t2] k p] (.Tuple [a,b] k' p') pos) ist:=by
 rw[bp h1,bp h2]
 obtain⟨hsw,h⟩:=ifO h
 obtain⟨i,j,e,f,h1,h2,h3,h4,rfl⟩:=vT h
 refine .of fun n σ K hl hw=>?_
 exact xB E R h1 h2 hsw hl (OkE.mono ((ev' X E R h3).1 _ _ _ _ hw) fun u c1 k1=>(ev' X E R h4).1 _ _ _ _ k1)
theorem uG {t1 t2 value:Expr}{q1 q2:Str×Pos}{p pos:Pos}{k:Nat}{ist:IS}(hq1:bV t1=some q1)(hq2:bV t2=some q2)(h:qY (aC m T) T q1.1 q1.2 q2.1 q2.2 value=some ist):SS prog w hb P T env A pr (.Assign [.Tuple [t1,t2] k p] value pos) ist:=by
 unfold qY at h
 cases hv:oC value with
 |some vs=>
  rw[hv] at h
  obtain⟨r,hr,h6⟩:=aP h
  obtain⟨k',p',rfl⟩:=jv hv
  rw[jH hr]
  exact w6 X E R hq1 hq2 h6
 |none=>
  rw[hv] at h
  obtain⟨hc,h⟩:=f6 h
  obtain⟨i,j,e,h1,h2,h3,rfl⟩:=eK (f:=fun a b d=>IS.unpT a b d) h
  rw[bp hq1,bp hq2]
  refine .of fun n σ K hl hw=>?_
  exact xw E R h1 h2 hc hv hl ((ev' X E R h3).1 _ _ _ _ hw)
theorem uM {t1 t2 value:Expr}{q1 q2:Expr×Str×Pos}{p pos:Pos}{k:Nat}{ist:IS}(hq1:eu t1=some q1)(hq2:eu t2=some q2)(h:qX (aC m T) q1.1 q1.2.1 q2.1 q2.2.1 value=some ist):SS prog w hb P T env A pr (.Assign [.Tuple [t1,t2] k p] value pos) ist:=by
 unfold qX at h
 obtain⟨vs,hv,h1⟩:=aP h
 obtain⟨r,hr,h2⟩:=aP h1
 obtain⟨k',p',rfl⟩:=jv hv
 rw[jH hr]
 obtain⟨hst,h2⟩:=ifO h2
 obtain⟨x,y,a,b,e1,e2,e3,e4,rfl⟩:=vT (f:=fun x y a b=>IS.unpA x q1.2.1 y q2.2.1 a b) h2
 rw[dK hq1,dK hq2]
 refine .of fun n σ K hl hw=>?_
 refine wz X R hst hl (OkE.mono ((ev' X E R e3).1 _ _ _ _ hw) fun u c1 k1=>OkE.mono ((ev' X E R e4).1 _ _ _ _ k1) fun v c2 k2=>?_)
 obtain⟨dx,dy,rfl,rfl,k2⟩:=nV k2
 refine OkE.mono ((ev' X E R e1).1 _ _ _ _ k2) fun u1 c3 k3=>?_
 obtain⟨kk,dk,fs,rfl,g1,g2,g3,g4,g5⟩:=cN k3
 exact lm g1 g2 g3 g4 ((ev' X E R e2).1 _ _ _ _ g5)
theorem uo {t value:Expr}{pos:Pos}{ist:IS}(h:xK (aC m T) T t value=some ist):SS prog w hb P T env A pr (.Assign [t] value pos) ist:=by
 unfold xK at h
 cases hn:bV t with
 |some q=>
  rw[hn] at h
  rw[bp hn]
  have h:(if bB value then (if iX T q.1 q.2 value then (do return IS.asgC (←bt T q.1) (←(aC m T value>>=qJ))) else none) else (do return IS.asg (←bt T q.1) (←aC m T value)))=some ist:=h
  by_cases hc:bB value=true
  ·rw[if_pos hc] at h
   obtain⟨hsw,h⟩:=ifO h
   obtain⟨i,e,h1,h2,rfl⟩:=cO h
   refine .of fun n σ K hl hw=>?_
   exact tv X E R hsw h1 h2 hl hw
  ·rw[if_neg hc] at h
   obtain⟨i,e,h1,h2,rfl⟩:=cO h
   refine .of fun n σ K hl hw=>?_
   exact x3 E h1 hl (by simpa using hc) ((ev' X E R h2).1 _ _ _ _ hw)
 |none=>
  rw[hn] at h
  cases ha:eu t with
  |some q=>
   rw[ha] at h
   rw[dK ha]
   obtain⟨hc,h⟩:=f6 h
   obtain⟨i,e,h1,h2,rfl⟩:=cO (f:=fun a d=>IS.asgA a _ d) h
   refine .of fun n σ K hl hw=>?_
   exact xd X E hl hc (OkE.mono ((ev' X E R h2).1 _ _ _ _ hw) fun u c1 k1=>(ev' X E R h1).1 _ _ _ _ k1)
  |none=>
   rw[ha] at h
   have h:xj (aC m T) T t value=some ist:=h
   unfold xj at h
   obtain⟨es,hes,h1⟩:=aP h
   obtain⟨q,hq,h2⟩:=aP h1
   clear h h1
   obtain⟨k,p,rfl⟩:=jv hes
   rw[jH hq]
   cases hq1:bV q.1 with
   |some q1=>
    rw[hq1] at h2
    obtain⟨q2,hq2,h3⟩:=aP h2
    exact uG X E R hq1 hq2 h3
   |none=>
    rw[hq1] at h2
    obtain⟨q1,hq1,h3⟩:=aP h2
    obtain⟨q2,hq2,h4⟩:=aP h3
    exact uM X E R hq1 hq2 h4
theorem ul {t1 t2 value:Expr}{pos:Pos}{ist:IS}(h:asg2 (aC m T) T t1 t2 value=some ist):SS prog w hb P T env A pr (.Assign [t1,t2] value pos) ist:=by
 obtain⟨q2,hq2,h⟩:=aP h
 rw[bp hq2]
 obtain⟨hc,h⟩:=f6 h
 cases hn:bV t1 with
 |some q=>
  rw[hn] at h
  rw[bp hn]
  obtain⟨i,j,e,h1,h2,h3,rfl⟩:=eK h
  refine .of fun n σ K hl hw=>?_
  exact wj E h1 h2 hl hc ((ev' X E R h3).1 _ _ _ _ hw)
 |none=>
  rw[hn] at h
  obtain⟨q,hq,h⟩:=aP h
  rw[dK hq]
  obtain⟨i,j,e,h1,h2,h3,rfl⟩:=eK (f:=fun a b d=>IS.asgA2 a _ b d) h
  refine .of fun n σ K hl hw=>?_
  exact te X E h2 hl hc (OkE.mono ((ev' X E R h3).1 _ _ _ _ hw) fun u c1 k1=>(ev' X E R h1).1 _ _ _ _ k1)
theorem xa {ts:List Expr}{value:Expr}{pos:Pos}{ist:IS}(h:xW (aC m T) T ts value=some ist):SS prog w hb P T env A pr (.Assign ts value pos) ist:=by
 match ts,h with
 | [t],h=>exact uo X E R h
 | [t1,t2],h=>exact ul X E R h
theorem xh {ts:List Expr}{pos:Pos}{ist:IS}(h:vU (aC m T) ts=some ist):SS prog w hb P T env A pr (.Delete ts pos) ist:=by
 unfold vU at h
 obtain⟨t,ht,h1⟩:=aP h
 obtain⟨q,hq,h2⟩:=aP h1
 obtain⟨a,i,e1,e2,rfl⟩:=cO (f:=fun a b=>IS.del_ a b) h2
 obtain⟨p,rfl⟩:=uE hq
 rw[mQ ht]
 refine .of fun n σ K hl hw=>?_
 exact yL hl (OkE.mono ((ev' X E R e1).1 _ _ _ _ hw) fun u c1 k1=>(ev' X E R e2).1 _ _ _ _ k1)
theorem w8 {e:Option Expr}{pos:Pos}{ist:IS}(h:yl (aC m T) e=some ist):SS prog w hb P T env A pr (.Return e pos) ist:=by
 cases e with
 |none=>
  (injection h with h;subst h)
  refine .of fun n σ K hl hw=>?_
  exact fun α s Q hs F hq=>wpAny_Return_none (hq (.ret (.d .none)) _ α _ s.heap s.toks hs ⟨σ,hl,rfl,hw⟩ F (.refl ..) ⟨.none,rfl,.none⟩)
 |some e=>
  obtain⟨e,h1,rfl⟩:=dJ h
  refine .of fun n σ K hl hw=>?_
  exact yp hl ((ev' X E R h1).1 _ _ _ _ hw)
theorem oq {t:Expr}{msg:Option Expr}{pos:Pos}{ist:IS}(h:(if msg.isNone then (do return IS.assert (←aC m T t)) else none)=some ist):SS prog w hb P T env A pr (.Assert t msg pos) ist:=by
 obtain⟨hm,h⟩:=ifO h
 rw[Option.isNone_iff_eq_none.mp hm]
 obtain⟨e,h1,rfl⟩:=dJ h
 refine .of fun n σ K hl hw=>?_
 exact pZ hl ((ev' X E R h1).2 _ _ _ _ hw)
theorem sY {e:Expr}{pos:Pos}{ist:IS}(h:(if bB e then none else (do return IS.expr (←aC m T e)))=some ist):SS prog w hb P T env A pr (.Expr e pos) ist:=by
 obtain⟨hc,h⟩:=f6 h
 obtain⟨e,h1,rfl⟩:=dJ h
 refine .of fun n σ K hl hw=>?_
 exact wo E hl hc ((ev' X E R h1).1 _ _ _ _ hw)
theorem yV (ihB:lS prog w hb P K₀ dep m){t:Expr}{a b:List Stmt}{pos:Pos}{ist:IS}(h:(do return IS.if_ (←aC m T t) (←bL m T a) (←bL m T b))=some ist):SS prog w hb P T env A pr (.If t a b pos) ist:=by
 obtain⟨t,a,b,h1,h2,h3,rfl⟩:=eK h
 refine .of fun n σ K hl hw=>?_
 refine zL (OkE.mono ((ev' X E R h1).2 _ _ _ _ hw) fun r c1 k1=>⟨fun q=>?_,fun q=>?_⟩)
 ·exact ihB T env A pr X E R _ _ h2 n ⟨σ.l,c1⟩ K hl (k1.1 q)
 ·exact ihB T env A pr X E R _ _ h3 n ⟨σ.l,c1⟩ K hl (k1.2 q)
theorem rJ (ihB:lS prog w hb P K₀ dep m){t:Expr}{a b:List Stmt}{pos:Pos}{ist:IS}(h:(do return IS.while_ (←aC m T t) (←bL m T a) (←bL m T b))=some ist):SS prog w hb P T env A pr (.While t a b pos) ist:=by
 obtain⟨t,a,b,h1,h2,h3,rfl⟩:=eK h
 refine .of fun n σ K hl hw=>?_
 obtain⟨I,k,hI,turn⟩:=hw
 refine sw (fun k τ=>∃σ:Sg',σ.l.length=T.names.length∧τ=⟨ad T.names σ.l,σ.c⟩∧I k σ) k ⟨σ,hl,rfl,hI⟩ ?_
 rintro k _ ⟨τ,hlτ,rfl,hIτ⟩
 refine OkE.mono ((ev' X E R h1).2 _ _ _ _ (turn k τ hIτ)) fun r c1 k1=>⟨fun q=>?_,fun q=>?_⟩
 ·refine OkS.mono (ihB T env A pr X E R _ _ h2 n ⟨τ.l,c1⟩ _ hlτ (k1.1 q)) fun f υ kk=>?_
  obtain⟨σ',hl',rfl,kk⟩:=kk
  cases f with
  |next=>obtain⟨k',υ',hk',W,hI'⟩:=kk;exact⟨k',_,hk',W.weak E.nd,υ',by rw[W.len];exact hl',rfl,hI'⟩
  |cont=>obtain⟨k',υ',hk',W,hI'⟩:=kk;exact⟨k',_,hk',W.weak E.nd,υ',by rw[W.len];exact hl',rfl,hI'⟩
  |brk=>exact⟨σ',hl',rfl,kk⟩
  |ret v=>exact⟨σ',hl',rfl,kk⟩
 ·exact ihB T env A pr X E R _ _ h3 n ⟨τ.l,c1⟩ K hlτ (k1.2 q)
theorem wU (ihB:lS prog w hb P K₀ dep m){t it:Expr}{a b:List Stmt}{pos:Pos}{ist:IS}(h:ye (aC m T) (bL m T) T t it a b=some ist):SS prog w hb P T env A pr (.For t it a b pos) ist:=by
 obtain⟨q,hq,h⟩:=aP h
 rw[bp hq]
 obtain⟨hc,h⟩:=ifO h
 obtain⟨hb',hfold⟩:=Bool.and_eq_true_iff.mp hc
 rw[List.isEmpty_iff.mp hb']
 obtain⟨i,it,a,h1,h2,h3,rfl⟩:=eK h
 refine .of fun n σ K hl hw=>?_
 obtain⟨hst,hslot⟩:=gB E h1
 refine xH E.eo R.handled hst (f0 hfold) (OkE.mono ((ev' X E R h2).1 _ _ _ _ hw) fun v c1 k1=>?_)
 obtain⟨hsm,xs,hxs,I,hI,turn,fin⟩:=k1
 refine⟨hsm,xs,hxs,fun j τ=>∃σ:Sg',σ.l.length=T.names.length∧τ=⟨ad T.names σ.l,σ.c⟩∧I j σ,⟨⟨σ.l,c1⟩,hl,rfl,hI⟩,?_,?_⟩
 ·rintro j d _ hd ⟨τ,hlτ,rfl,hIτ⟩
  obtain⟨hlt,hb'⟩:=turn j d τ hd hIτ
  refine OkS.look (fun y=>gY E.nd hlτ hslot (.d d) y) ?_
  refine OkS.mono (ihB T env A pr X E R _ _ h3 n ⟨τ.l.set i (some (.d d)),τ.c⟩ _ (by rw[List.length_set];exact hlτ) hb') fun f υ kk=>?_
  obtain⟨σ',hl',rfl,kk⟩:=kk
  cases f with
  |next=>obtain⟨υ',W,hI'⟩:=kk;exact⟨_,W.weak E.nd,υ',by rw[W.len];exact hl',rfl,hI'⟩
  |cont=>obtain⟨υ',W,hI'⟩:=kk;exact⟨_,W.weak E.nd,υ',by rw[W.len];exact hl',rfl,hI'⟩
  |brk=>exact⟨σ',hl',rfl,kk⟩
  |ret v=>exact⟨σ',hl',rfl,kk⟩
 ·rintro _ ⟨τ,hlτ,rfl,hIτ⟩
  exact⟨τ,hlτ,rfl,fin τ hIτ⟩
end
theorem ox {m:Nat}(ihS:sU prog w hb P K₀ dep m)(ihB:lS prog w hb P K₀ dep m):sU prog w hb P K₀ dep (m+1):=by
 intro T env A pr X E R st ist h
 cases st with
 |Assign ts value p=>exact xa X E R h
 |If t a b p=>exact yV X E R ihB h
 |While t a b p=>exact rJ X E R ihB h
 |For t it a b p=>exact wU X E R ihB h
 |Return e p=>exact w8 X E R h
 |Delete ts p=>exact xh X E R h
 |Assert t msg p=>exact oq X E R h
 |Expr e p=>exact sY X E R h
 |Continue p=>
  (injection h with h;subst h)
  refine SS.of fun n σ K hl hw=>?_
  exact fun α s Q hs F hq=>wpAny_Continue (hq .cont _ α _ s.heap s.toks hs ⟨σ,hl,rfl,hw⟩ F (.refl ..) rfl)
 |Break p=>
  (injection h with h;subst h)
  refine SS.of fun n σ K hl hw=>?_
  exact fun α s Q hs F hq=>wpAny_Break (hq .brk _ α _ s.heap s.toks hs ⟨σ,hl,rfl,hw⟩ F (.refl ..) rfl)
 |_=>contradiction
theorem yf (m:Nat):sU prog w hb P K₀ dep m∧lS prog w hb P K₀ dep m:=by
 induction m with
 |zero=>exact⟨fun T env A pr X E R e ie h=>(nomatch h),fun T env A pr X E R e ie h=>(nomatch h)⟩
 |succ m ih=>exact⟨ox ih.1 ih.2,oE ih.1 ih.2⟩
end
noncomputable def eg:F→V
 | .ret v=>v
 |_=>.d .none
noncomputable def start (vs:List V)(n:Nat):Sl:=vs.map some++List.replicate n none
theorem fF:∀(ns:List Str) (n:Nat),ad ns (List.replicate n none)=[]
 | [],n=>by cases n<;>rfl
 |_::ns,0=>rfl
 |_::ns,n+1=>fF ns n
theorem kO (ps rest:List Str):∀(vs:List V),vs.length=ps.length→ad (ps++rest) (start vs rest.length)=ps.zip vs:=by
 induction ps with
 |nil=>exact ls0 (P:=fun vs=>ad ([]++rest) (start vs rest.length)=List.zip [] vs) (fF rest rest.length)
 |cons p ps ih=>exact lsS (P:=fun vs=>ad (p::ps++rest) (start vs rest.length)=List.zip (p::ps) vs) fun v vs h=>congrArg ((p,v)::·) (ih vs h)
theorem FnOk.more {prog:Program}{w:World}{hb:Heap}{d d':Nat}{a:Addr}{spec:Spec}(h:FnOk prog w hb d a spec)(hd:d≤d'):FnOk prog w hb d' a spec:=
 fun A r=>h A (r.less hd)
structure FnT (hb:Heap)(a:Addr)(T:Tb)(ib:List IS)(ps rest:List Str)(fd:FuncData)(body:List Stmt)(m:Nat):Prop where
 N:FnAt hb a fd body ps
 kinds:T.kinds=fd.scope.names
 names:T.names=ps++rest
 nd:T.names.Nodup
 cel:∀p∈fd.scope.names,p.2=.cell→∀n,((cellsFrom n fd.scope.names []).lookup p.1).isSome=true
 gl:fd.globals=mainGlobals
 bl:fd.builtins=builtinsNs
 comp:bL m T body=some ib
theorem gu {prog:Program}{w:World}{hb:Heap}{K₀:Frag}{P:Pm}{T:Tb}{dep m:Nat}{a:Addr}{fd:FuncData}{body:List Stmt}{ib:List IS}{ps rest:List Str}(N:FnT hb a T ib ps rest fd body m)(X:Cx0 prog w hb K₀ T P dep){spec:Spec}
  (h:∀(vs:List V) (c:aa) (K:V→aa→Prop),spec vs c K→vs.length=ps.length∧∃n,wpB P (dom c) n ib ⟨start vs rest.length,c⟩
    (fun f τ=>∃v' c',vW τ.c c' (eg f) v'∧bX τ.c c' c'∧(∀k∈dom c,k∈dom c')∧K v' c')) :
  ∀(A:Around),Room (dep+1) A→∀(L:Addr) (vs:List V) (c:aa) (K:V→aa→Prop),spec vs c K→EnvOk (callEnvC fd L a)→vs.length=ps.length∧
   OkS (model prog w) A hb (dom c) (callEnvC fd L a) ⟨ps.zip vs,c⟩ (execs body (callEnvC fd L a))
    (fun f τ=>(∀k∈dom c,k∈dom τ.c)∧K (match f with | .ret v=>v|_=>.d .none) τ.c):=by
 intro A r L vs c K sp EO
 obtain⟨hl,n,hw⟩:=h vs c K sp
 refine⟨hl,?_⟩
 have E:CxE (callEnvC fd L a) T:=by
  refine⟨EO,N.gl,N.bl,fun x e=>?_,fun x e=>?_,fun x e=>?_,N.nd⟩
  ·rw[N.kinds] at e;exact e
  ·rw[N.kinds] at e;exact e
  ·rw[N.kinds] at e
   refine⟨e,Option.isSome_iff_exists.mp (N.cel _ (mem_of_lookup e) rfl _)⟩
 have:=(yf (prog:=prog) (w:=w) (hb:=hb) (P:=P) (K₀:=K₀) (dep:=dep) m).2 T _ A (dom c) X E r body ib N.comp n ⟨start vs rest.length,c⟩ _ (by rw[N.names];simp[start,hl]) hw
 intro α s Q hs Fr hq
 rw[N.names,kO _ _ _ hl] at this
 refine this α s Q hs Fr fun f τ α' g h' tk ht k F' L' i=>?_
 obtain⟨σ,hlσ,rfl,v',c',hv,hc,hd,hK⟩:=k
 have W:Weak (dom c) ⟨ad (ps++rest) σ.l,σ.c⟩ ⟨[],c'⟩:=⟨trivial,hc,hd⟩
 have F2:=W.fst F'
 have L2:=W.leS L'
 have hdom:∀k∈dom c',k∈dom σ.c:=fun k hk=>cF hc k hk
 have hK':∀f':F,eg f'=v'→(∀k∈dom c,k∈dom (⟨[],c'⟩:Sg).c)∧K (match f' with | .ret v=>v|_=>.d .none) c':=fun f' e=>⟨hd,by cases f'<;>(dsimp only[eg] at e;rw[e];exact hK)⟩
 cases f with
 |next=>
  have:v'=.d .none:=by rcases hv with ⟨q,_⟩|⟨k,xs,q,_⟩;exact q;contradiction
  exact hq .next ⟨[],c'⟩ α' g h' tk ht (hK' .next this.symm) F2 L2 i
 |brk=>
  have:v'=.d .none:=by rcases hv with ⟨q,_⟩|⟨k,xs,q,_⟩;exact q;contradiction
  exact hq .brk ⟨[],c'⟩ α' g h' tk ht (hK' .brk this.symm) F2 L2 i
 |cont=>
  have:v'=.d .none:=by rcases hv with ⟨q,_⟩|⟨k,xs,q,_⟩;exact q;contradiction
  exact hq .cont ⟨[],c'⟩ α' g h' tk ht (hK' .cont this.symm) F2 L2 i
 |ret v=>
  obtain⟨g',rfl,ig⟩:=i
  exact hq (.ret v') ⟨[],c'⟩ α' _ h' tk ht (hK' (.ret v') rfl) F2 L2 ⟨g',rfl,mZ F'.toCst hdom hv ig⟩
theorem iU {prog:Program}{w:World}{hb:Heap}{K₀:Frag}{P:Pm}{T:Tb}{dep m:Nat}{a:Addr}{fd:FuncData}{body:List Stmt}{ib:List IS}{ps rest:List Str}(N:FnT hb a T ib ps rest fd body m)(X:Cx0 prog w hb K₀ T P dep){spec:Spec}
  (h:∀(vs:List V) (c:aa) (K:V→aa→Prop),spec vs c K→vs.length=ps.length∧∃n,wpB P (dom c) n ib ⟨start vs rest.length,c⟩
    (fun f τ=>∃v' c',vW τ.c c' (eg f) v'∧bX τ.c c' c'∧(∀k∈dom c,k∈dom c')∧K v' c')) :
  FnOk prog w hb (dep+2) a spec:=zf N.N (gu N X h)
theorem wF {prog:Program}{w:World}{hb:Heap}{K₀:Frag}{P:Pm}{T:Tb}{dep m:Nat}{a:Addr}{fd:FuncData}{body:List Stmt}{ib:List IS}{x:Str}{ps rest:List Str}(N:FnT hb a T ib (x::ps) rest fd body m)(hl:fd.scope.names.lookup x=some .local)(X:Cx0 prog w hb K₀ T P dep){spec:Spec}
  (h:∀(vs:List V) (c:aa) (K:V→aa→Prop),spec vs c K→vs.length=(x::ps).length∧∃n,wpB P (dom c) n ib ⟨start vs rest.length,c⟩
    (fun f τ=>∃v' c',vW τ.c c' (eg f) v'∧bX τ.c c' c'∧(∀k∈dom c,k∈dom c')∧K v' c')) :
  nH prog w hb (dep+2) a spec:=xG N.N hl (gu N X h)
noncomputable def fj (K:Frag)(a:Addr):Option FuncData:=match K.lookup a with
 |some o=>(match o.data with | .func fd=>some fd|_=>none)
 |none=>none
noncomputable def bA (K:Frag)(a:Addr):List Stmt:=match fj K a with
 |some fd=>(match fd.body with | .stmts b=>b|_=>[])
 |none=>[]
noncomputable def eX (K:Frag)(a:Addr):List (Str×NameKind):=match fj K a with
 |some fd=>fd.scope.names
 |none=>[]
noncomputable def qG (K:Frag)(a:Addr):List Str:=match fj K a with
 |some fd=>fd.params.args.map (·.arg)
 |none=>[]
noncomputable def ew (K:Frag)(a:Addr):List Str:=((eX K a).filter fun p=>(p.2==.local||p.2==.cell)&&!(qG K a).contains p.1).map (·.1)
noncomputable def nsOf (K:Frag)(a:Addr):Array DictEntry:=match K.lookup a with
 |some o=>(match o.data with | .dict es _=>es|_=>#[])
 |none=>#[]
noncomputable def zV (K:Frag)(a:Addr)(G:List (Str×V))(cells:List Pos)(mak:Str→Pos→Option (Addr×Nat×Nat))(meth:List (Str×Addr)):Tb where
 names:=qG K a++ew K a
 kinds:=eX K a
 G:=fun x=>G.lookup x
 cell:=fun p=>if cells.any (fun q=>q.line==p.line&&q.col==p.col&&q.endCol==p.endCol) then some (1000*p.line+p.col) else none
 mak:=mak
 meth:=fun x=>meth.lookup x
end Mine
end
section
namespace Mine
open PySem PyProof.Rows PySem.W PySem.StrLaws PySem.Builtin.Str
theorem cn {x:Str}{i c:Nat}(h:(sg x)[i]?=some c):Txt.item x (i:Int)=⟨#[c]⟩:=by
 have hi:i<x.cps.size:=by
  obtain⟨h1,_⟩:=Qw.mp h
  simpa [sg] using h1
 unfold Txt.item Txt.charAt
 have e:seqIndex? (i:Int) x.length=some i:=by
  unfold seqIndex?
  have h1:¬((i:Int)<0):=R17
  simp only[h1,if_false]
  have h2:(decide (0≤(i:Int))&&decide ((i:Int)<(x.length:Nat)))=true:=by
   simp[Str.length];exact R39 hi
  rw[if_pos h2];simp
 rw[e]
 have:x.cps[i]?=some c:=by rw[←h];simp[sg]
 simp[this]
theorem pM {x:Str}{c:Nat}(h:(sg x).getLast?=some c):Txt.item x (-1)=⟨#[c]⟩:=by
 have hn:(sg x)≠[]:=fun e=>by rw[e] at h;contradiction
 have hl:0<x.cps.size:=by
  have:=List.length_pos_iff.mpr hn
  simpa [sg] using this
 unfold Txt.item Txt.charAt
 have e:seqIndex? (-1) x.length=some (x.length-1):=by
  unfold seqIndex?
  simp only[show ((-1:Int)<0) from by decide,if_true]
  have h2:(decide (0≤(-1:Int)+(x.length:Nat))&&decide ((-1:Int)+(x.length:Nat)<(x.length:Nat)))=true:=by
   have:(x.length:Nat)=x.cps.size:=rfl
   rw[this]
   simp only[Xv,decide_eq_true_eq];exact R38 hl
  rw[if_pos h2]
  have:(x.length:Nat)=x.cps.size:=rfl
  congr 1
  rw[this];exact R26
 rw[e]
 have:x.cps[x.length-1]?=some c:=by
  rw[Qp] at h
  simpa [sg,Str.length] using h
 simp[this]
theorem iH (x:Str){a b:Nat}(hab:a≤b)(ha:a≤(sg x).length):Txt.slice x (some (a:Int)) (some (b:Int))=⟨(((sg x).drop a).take (b-a)).toArray⟩:=by
 have hlen:(sg x).length=x.length:=by simp[sg,Str.length]
 by_cases hb:b≤x.length
 ·exact sliceText_nat x hab hb
 ·have e:strSliceIndices (some (a:Int)) (some (b:Int)) 1 x.length=strSliceIndices (some (a:Int)) (some ((x.length:Nat):Int)) 1 x.length:=by
   unfold strSliceIndices
   have h1:¬((b:Int)<0):=R17
   have h2:¬(((x.length:Nat):Int)<0):=R17
   dsimp only[h1,h2,if_false,show (1:Int) > 0 from by decide,if_true]
   congr 1
   exact R37 hb
  have e2:Txt.slice x (some (a:Int)) (some (b:Int))=Txt.slice x (some (a:Int)) (some ((x.length:Nat):Int)):=by
   unfold Txt.slice;rw[e]
  rw[e2]
  refine (sliceText_nat x (by rw[←hlen];exact ha) (Zv _)).trans ?_
  congr 2
  show ((sg x).drop a).take (x.length-a)=((sg x).drop a).take (b-a)
  rw[List.take_of_length_le (by rw[Xp];exact R36),List.take_of_length_le (by rw[Xp];exact R35 hb)]
theorem f8 (s sub:Str)(hi:Nat):∀(l:List Nat) (free:Nat),(∀i∈l,free≤i)→
  (forIn l ((#[]:Array Nat),free) (occBody s sub hi 1)).run.fst=(match l.find? (fun i=>decide (i+sub.length≤hi)&&subAt s sub i) with|some a=>#[a]|none=>#[])
 | [],free,_=>rfl
 |a::l,free,hf=>by
  rw[List.forIn_cons]
  unfold occBody
  have ha:free≤a:=hf a (.head _)
  by_cases hc:a+sub.length≤hi∧subAt s sub a=true
  ·rw[if_pos ⟨⟨⟨by simp,ha⟩,hc.1⟩,hc.2⟩]
   have e:((a::l).find? fun i=>decide (i+sub.length≤hi)&&subAt s sub i)=some a:=by simp[List.find?_cons,hc.1,hc.2]
   rw[e]
   show (forIn l (#[a],a+sub.length) (occBody s sub hi 1)).run.fst=#[a]
   generalize a+sub.length=f
   clear hf e hc ha
   induction l generalizing f with
   |nil=>rfl
   |cons b l ih=>
    rw[List.forIn_cons]
    unfold occBody
    rw[if_neg (fun h=>by have:=h.1.1.1;simp at this)]
    exact ih f
  ·rw[if_neg (fun h=>hc ⟨h.1.2,h.2⟩)]
   have e:((a::l).find? fun i=>decide (i+sub.length≤hi)&&subAt s sub i)=l.find? (fun i=>decide (i+sub.length≤hi)&&subAt s sub i):=by
    rw[List.find?_cons]
    have:(decide (a+sub.length≤hi)&&subAt s sub a)=false:=by
     cases h:(decide (a+sub.length≤hi)&&subAt s sub a) with
     |false=>rfl
     |true=>simp only[Xv,decide_eq_true_eq] at h;exact absurd h hc
    rw[this]
   rw[e]
   exact f8 s sub hi l free (fun i h=>hf i (.tail _ h))
theorem u8 {x:Str}{i:Nat}(h:∃j:Nat,i≤j∧(sg x)[j]?=some 10):∃j:Nat,Txt.find3 x ⟨#[10]⟩ (i:Int)=(j:Int)∧i≤j∧(sg x)[j]?=some 10∧∀m:Nat,i≤m→m<j→(sg x)[m]?≠some 10:=by
 unfold Txt.find3
 have e1:fromIndex x.length (i:Int)=i:=by
  unfold fromIndex
  rw[if_neg (R17)];exact R34
 rw[e1,occ_eq,f8 x ⟨#[10]⟩ x.length _ i (fun m hm=>by have:=List.mem_range'_1.mp hm;exact R33 this)]
 cases hf:(List.range' i (x.length+1-i)).find? (fun i=>decide (i+(⟨#[10]⟩:Str).length≤x.length)&&subAt x ⟨#[10]⟩ i) with
 |none=>
  obtain⟨j,hj,hc⟩:=h
  have:=List.find?_eq_none.mp hf j (by
   obtain⟨hlt,_⟩:=Qw.mp hc
   have:j<x.length:=by simpa [sg,Str.length] using hlt
   exact List.mem_range'_1.mpr (R32 hj this))
  have hc':=(subAt_one x 10 j).mpr hc
  simp only[Xv,decide_eq_true_eq] at this
  exact absurd hc' this
 |some j=>
  obtain⟨as,bs,hl,hall⟩:=(List.find?_eq_some_iff_append.mp hf).2
  have hp:=(List.find?_eq_some_iff_append.mp hf).1
  simp only[Xv,decide_eq_true_eq] at hp
  have hmem:j∈List.range' i (x.length+1-i):=List.mem_of_find?_eq_some hf
  refine⟨j,rfl,(List.mem_range'_1.mp hmem).1,(subAt_one x 10 j).mp hp,fun m h1 h2 hc=>?_⟩
  have hm:m∈List.range' i (x.length+1-i):=List.mem_range'_1.mpr (by have:=List.mem_range'_1.mp hmem;exact R31 h1 h2 this)
  rw[hl] at hm
  have hsort:(List.range' i (x.length+1-i)).Pairwise (·<·):=List.pairwise_lt_range'
  rw[hl] at hsort
  rcases Qu.mp hm with hm|hm
  ·have:=hall m hm
   have hc':=(subAt_one x 10 m).mpr hc
   simp only[Bool.not_eq_true',Bool.and_eq_false_iff,decide_eq_false_iff_not] at this
   rcases this with q|q
   ·exact q hc'.1
   ·rw[hc'.2] at q;contradiction
  ·have h3:=(List.pairwise_append.mp hsort).2.1
   rcases Qy.mp hm with rfl|hm
   ·exact R30 h2
   ·have:=(List.pairwise_cons.mp h3).1 m hm;exact R29 h2 this
end Mine
end
section
namespace Mine
open PySem PyProof.Rows PySem.W
noncomputable def si:List IS:=[
 .asg 9 (.item (.v 1) (.v 7)),
 .asg 7 (.bin .Add (.v 7) (.c (.int 1))),
 .if_ (.cmp .Eq (.v 9) (.c (.str ⟨#[120]⟩))) [
  .cont] [],
 .if_ (.cmp .Eq (.slice (.v 1) (.bin .Sub (.v 7) (.c (.int 1))) (.bin .Add (.v 7) (.v 12))) (.v 10)) [
  .asg 7 (.bin .Add (.v 7) (.v 12)),
  .brk] [],
 .if_ (.cmp .Eq (.v 9) (.c (.str ⟨#[10]⟩))) [
  .asg 4 (.bin .Add (.v 4) (.c (.int 1))),
  .if_ (.cmp .Eq (.v 12) (.c (.int 0))) [
   .if_ (.cmp .Eq (.v 3) (.c (.int 0))) [
    .expr (.call (.v 6) [(.v 4)] none)] [],
   .brk] [],
  .cont] [],
 .if_ (.cmp .Eq (.v 9) (.c (.str ⟨#[92]⟩))) [
  .assert (.cmp .Lt (.v 7) (.v 8)),
  .if_ (.cmp .Eq (.item (.v 1) (.v 7)) (.c (.str ⟨#[10]⟩))) [
   .asg 4 (.bin .Add (.v 4) (.c (.int 1)))] [],
  .asg 7 (.bin .Add (.v 7) (.c (.int 1))),
  .cont] []]
noncomputable def qF:List IS:=[
 .if_ (.cmp .Eq (.bin .Sub (.v 4) (.c (.int 1))) (.v 11)) [
  .asg 2 (.g (.d (.int 2)))] [
  .asg 2 (.g (.d (.int 3)))]]
noncomputable def inW:IS:=.while_ (.cmp .Lt (.v 7) (.v 8)) si qF
noncomputable def qz:List IS:=[
 .asg 9 (.item (.v 1) (.v 7)),
 .asg 7 (.bin .Add (.v 7) (.c (.int 1))),
 .if_ (.cmp .Eq (.v 9) (.c (.str ⟨#[120]⟩))) [
  .cont] [],
 .if_ (.cmp .Eq (.v 9) (.c (.str ⟨#[10]⟩))) [
  .asg 4 (.bin .Add (.v 4) (.c (.int 1))),
  .if_ (.cmp .Eq (.v 3) (.c (.int 0))) [
   .expr (.call (.v 6) [(.v 4)] none)] [],
  .cont] [],
 .if_ (.cmp .Eq (.v 9) (.c (.str ⟨#[40]⟩))) [
  .asg 3 (.bin .Add (.v 3) (.c (.int 1))),
  .cont] [],
 .if_ (.cmp .Eq (.v 9) (.c (.str ⟨#[41]⟩))) [
  .if_ (.v 3) [
   .asg 3 (.bin .Sub (.v 3) (.c (.int 1)))] [],
  .cont] [],
 .if_ (.or (.cmp .Eq (.v 9) (.c (.str ⟨#[34]⟩))) (.cmp .Eq (.v 9) (.c (.str ⟨#[39]⟩)))) [
  .asg 10 (.v 9),
  .if_ (.cmp .Eq (.slice (.v 1) (.bin .Sub (.v 7) (.c (.int 1))) (.bin .Add (.v 7) (.c (.int 2)))) (.bin .Mult (.v 10) (.c (.int 3)))) [
   .asg 10 (.bin .Mult (.v 10) (.c (.int 3)))] [],
  .asg 11 (.v 4),
  .asg 12 (.bin .Sub (.call (.g (.bi .len)) [(.v 10)] none) (.c (.int 1))),
  .asg 7 (.bin .Add (.v 7) (.v 12)),
  inW,
  .cont] [],
 .if_ (.cmp .Eq (.v 9) (.c (.str ⟨#[35]⟩))) [
  .asg 7 (.meth (.v 1) .find [(.c (.str ⟨#[10]⟩)),(.v 7)]),
  .assert (.cmp .GtE (.v 7) (.c (.int 0))),
  .cont] [],
 .assert (.cmp .Eq (.v 9) (.c (.str ⟨#[92]⟩))),
 .assert (.cmp .Lt (.v 7) (.v 8)),
 .if_ (.cmp .Eq (.item (.v 1) (.v 7)) (.c (.str ⟨#[10]⟩))) [
  .asg 4 (.bin .Add (.v 4) (.c (.int 1))),
  .if_ (.cmp .Eq (.bin .Add (.v 7) (.c (.int 1))) (.v 8)) [
   .asg 2 (.g (.d (.int 1)))] []] [],
 .asg 7 (.bin .Add (.v 7) (.c (.int 1)))]
noncomputable def v8:IS:=.while_ (.cmp .Lt (.v 7) (.v 8)) qz []
noncomputable def dX (td g b:Nat):List IS:=[
 .if_ (.cmp .GtE (.attr (.v 0) (Qq "study_level")) (.c (.int 1))) [
  .ret none] [],
 .asgA (.v 0) (Qq "study_level") (.c (.int 1)),
 .asg 1 (.attr (.v 0) (Qq "code")),
 .asg 1 (.trans (.v 1) td),
 .asg 1 (.repl (.v 1) ⟨#[120,120,120,120,120,120,120,120]⟩ ⟨#[120]⟩),
 .asg 1 (.repl (.v 1) ⟨#[120,120,120,120]⟩ ⟨#[120]⟩),
 .asg 1 (.repl (.v 1) ⟨#[120,120]⟩ ⟨#[120]⟩),
 .asg 1 (.repl (.v 1) ⟨#[120,120]⟩ ⟨#[120]⟩),
 .asg 1 (.repl (.v 1) ⟨#[10,120]⟩ ⟨#[10]⟩),
 .asg 2 (.g (.d (.int 0))),
 .asg2 3 4 (.c (.int 0)),
 .asgA2 (.v 0) (Qq "goodlines") 5 (.lst [(.c (.int 0))] (some g)),
 .asg 6 (.bnd (.v 5) b),
 .unp2 7 8 (.c (.int 0)) (.call (.g (.bi .len)) [(.v 1)] none),
 v8,
 .if_ (.and (.cmp .NotEq (.v 2) (.g (.d (.int 2)))) (.and (.cmp .NotEq (.v 2) (.g (.d (.int 3)))) (.cmp .Gt (.v 3) (.c (.int 0))))) [
  .asg 2 (.g (.d (.int 4)))] [],
 .asgA (.v 0) (Qq "continuation") (.v 2),
 .assert (.cmp .Eq (.cmp .Eq (.v 2) (.g (.d (.int 0)))) (.cmp .Eq (.item (.v 5) (.c (.int (-1)))) (.v 4))),
 .if_ (.cmp .NotEq (.item (.v 5) (.c (.int (-1)))) (.v 4)) [
  .expr (.call (.v 6) [(.v 4)] none)] []]
structure Cel (Wc:List Nat→aa)(k g b:Nat)(pr:List Nat):Prop where
 b_:∀gd,ae (Wc gd) b=some (.bound "list.append" g)
 g_:∀gd,ae (Wc gd) g=some (.list (gd.map fun m:Nat=>D.int m))
 set:∀gd m,cset (Wc gd) g (.list ((gd.map fun m:Nat=>D.int m)++[.int (m:Nat)]))=Wc (gd++[m])
 wf:∀gd,bX (Wc gd) (Wc gd) (Wc gd)
 pr:∀gd,∀j∈pr,j∈dom (Wc gd)
 k_:∀gd,k∈dom (Wc gd)
noncomputable def slots (k g b:Nat)(x:Str)(ct:Int)(lv ln i n:Nat)(r:List (Option V)):Sl:=
 some (.obj k)::some (.d (.str x))::some (.d (.int ct))::some (.d (.int lv))::some (.d (.int ln))::some (.obj g)::some (.obj b)::some (.d (.int i))::some (.d (.int n))::r
theorem mc (a b:Nat):((⟨#[a]⟩:Str)==⟨#[b]⟩)=decide (a=b):=by
 by_cases h:a=b
 ·subst h;simp
 ·simp only[h,decide_false]
  exact beq_eq_false_iff_ne.mpr fun e=>h (by injection e with e;injection e with e;injection e)
section
variable {P:Pm}{pr:List Nat}{k g b:Nat}{Wc:List Nat→aa}{x:Str}
def InS (x:Str)(d:Bool)(w f i:Nat)(s:St):Prop:=
 s=scan st0 ((sg x).take i)∧i≤(sg x).length∧
 ((w=0∧(s.md=.S1 d f∨(s.md=.Q1 d f∧¬((sg x)[i]?=some (qc d)∧(sg x)[i+1]?=some (qc d)))))∨
 (w=2∧(s.md=.S3 d 0 f∨(s.md=.S3 d 1 f∧¬((sg x)[i]?=some (qc d)∧(sg x)[i+1]?=some (qc d)))∨(s.md=.S3 d 2 f∧(sg x)[i]?≠some (qc d)))))
def Out (x:Str)(i:Nat)(s:St):Prop:=
 s=scan st0 ((sg x).take i)∧i≤(sg x).length∧(∀c,(sg x)[i]?=some c→step s c=aY s c)∧(i=(sg x).length→s.md=.N∨s.md=.Nb)
noncomputable def dE (d:Bool)(w:Nat):Str:=if w=0 then ⟨#[qc d]⟩ else ⟨#[qc d,qc d,qc d]⟩
def vL (x:Str):Prop:=∀c∈sg x,c=10∨c=34∨c=35∨c=39∨c=40∨c=41∨c=92∨c=120
theorem aI {i c:Nat}(h:(sg x)[i]?=some c):scan st0 ((sg x).take (i+1))=step (scan st0 ((sg x).take i)) c:=by
 have e:(sg x).take (i+1)=(sg x).take i++[c]:=by rw[List.take_add_one,h];rfl
 rw[e,aV];rfl
end
section
variable {x:Str}
theorem bb {l:List Nat}{i c:Nat}(h:l[i]?=some c):i+1≤l.length:=(Qw.mp h).1
theorem dg (d:Bool):qc d=34∨qc d=39:=by cases d<;>simp[qc]
def same (s s':St):Prop:=s'.lv=s.lv∧s'.ln=s.ln∧s'.gd=s.gd
variable {d:Bool}{w f i c:Nat}{s:St}
theorem iR (h:InS x d w f i s)(hc:(sg x)[i]?=some c)(h1:c≠qc d)(h2:c≠10)(h3:c≠92):∃s',InS x d w f (i+1) s'∧same s s':=by
 obtain⟨rfl,hi,h⟩:=h
 refine⟨_,⟨(aI hc).symm,bb hc,?_⟩,?_⟩
 ·rcases h with ⟨hw,h|⟨h,_⟩⟩|⟨hw,h|⟨h,_⟩|⟨h,_⟩⟩
  ·exact .inl ⟨hw,.inl (by simp[step,h,bm,h1,h2,h3])⟩
  ·exact .inl ⟨hw,.inl (by simp[step,h,bm,h1,h2,h3])⟩
  ·exact .inr ⟨hw,.inl (by simp[step,h,h1,h2,h3])⟩
  ·exact .inr ⟨hw,.inl (by simp[step,h,h1,h2,h3])⟩
  ·exact .inr ⟨hw,.inl (by simp[step,h,h1,h2,h3])⟩
 ·unfold same
  rcases h with ⟨hw,h|⟨h,_⟩⟩|⟨hw,h|⟨h,_⟩|⟨h,_⟩⟩<;>simp[step,h,bm,h1,h2,h3]
theorem pB (h:InS x d 2 f i s)(hc:(sg x)[i]?=some (qc d))(h1:¬((sg x)[i+1]?=some (qc d)∧(sg x)[i+2]?=some (qc d))):∃s',InS x d 2 f (i+1) s'∧same s s':=by
 obtain⟨rfl,hi,h⟩:=h
 refine⟨_,⟨(aI hc).symm,bb hc,?_⟩,?_⟩
 ·rcases h with ⟨hw,_⟩|⟨hw,h|⟨h,q⟩|⟨h,q⟩⟩
  ·cases hw
  ·exact .inr ⟨rfl,.inr (.inl ⟨by simp[step,h],h1⟩)⟩
  ·exact .inr ⟨rfl,.inr (.inr ⟨by simp[step,h],fun e=>q ⟨hc,e⟩⟩)⟩
  ·exact absurd hc q
 ·unfold same
  rcases h with ⟨hw,_⟩|⟨hw,h|⟨h,q⟩|⟨h,q⟩⟩
  ·cases hw
  ·simp[step,h]
  ·simp[step,h]
  ·exact absurd hc q
theorem mj (h:InS x d 2 f i s)(hc:(sg x)[i]?=some (qc d))(h1:(sg x)[i+1]?=some (qc d))(h2:(sg x)[i+2]?=some (qc d)):∃s',Out x (i+3) s'∧s'.md≠.Nb∧same s s':=by
 obtain⟨rfl,hi,h⟩:=h
 have e:scan st0 ((sg x).take (i+3))={scan st0 ((sg x).take i) with md:=.N}:=by
  rw[aI h2,aI h1,aI hc]
  rcases h with ⟨hw,_⟩|⟨hw,h|⟨h,q⟩|⟨h,q⟩⟩
  ·contradiction
  ·simp[step,h]
  ·exact absurd ⟨hc,h1⟩ q
  ·exact absurd hc q
 refine⟨_,⟨rfl,bb h2,fun c hc=>by rw[e];rfl,fun _=>.inl (by rw[e])⟩,by rw[e];simp,by rw[e];exact⟨rfl,rfl,rfl⟩⟩
theorem mN (hl:∀i c,(sg x)[i]?=some c→i+1=(sg x).length→c=10)(h:InS x d 0 f i s)(hc:(sg x)[i]?=some (qc d)):∃s',Out x (i+1) s'∧s'.md≠.Nb∧same s s':=by
 obtain⟨rfl,hi,h⟩:=h
 have hq:qc d≠10:=by rcases dg d with q|q<;>rw[q]<;>decide
 rcases h with ⟨hw,h|⟨h,q⟩⟩|⟨hw,_⟩
 ·have e:scan st0 ((sg x).take (i+1))={scan st0 ((sg x).take i) with md:=.N}:=by rw[aI hc];simp[step,h,bm]
  exact⟨_,⟨rfl,bb hc,fun c hc=>by rw[e];rfl,fun q=>absurd (hl i _ hc q) hq⟩,by rw[e];simp,by simp only[e];exact⟨rfl,rfl,rfl⟩⟩
 ·have e:scan st0 ((sg x).take (i+1))={scan st0 ((sg x).take i) with md:=.Q2 d f}:=by rw[aI hc];simp[step,h]
  refine⟨_,⟨rfl,bb hc,fun c hc'=>?_,fun q=>absurd (hl i _ hc q) hq⟩,by rw[e];simp,by rw[e];exact⟨rfl,rfl,rfl⟩⟩
  rw[e]
  have:c≠qc d:=fun e=>q ⟨hc,e▸hc'⟩
  simp[step,this,aY,nl]
 ·contradiction
theorem tu (h:InS x d 0 f i s)(hc:(sg x)[i]?=some 10):∃s',Out x (i+1) s'∧s'=nl s:=by
 obtain⟨rfl,hi,h⟩:=h
 have hq:¬10=qc d:=by rcases dg d with q|q<;>rw[q]<;>decide
 have e:scan st0 ((sg x).take (i+1))=nl (scan st0 ((sg x).take i)):=by
  rw[aI hc]
  rcases h with ⟨hw,h|⟨h,q⟩⟩|⟨hw,_⟩
  ·simp[step,h,bm,hq]
  ·simp[step,h,bm,hq]
  ·contradiction
 exact⟨_,⟨e.symm,bb hc,fun c hc=>rfl,fun _=>.inl rfl⟩,rfl⟩
theorem s5 (h:InS x d 2 f i s)(hc:(sg x)[i]?=some 10):∃s',InS x d 2 f (i+1) s'∧s'.lv=s.lv∧s'.ln=s.ln+1∧s'.gd=s.gd:=by
 obtain⟨rfl,hi,h⟩:=h
 have hq:¬10=qc d:=by rcases dg d with q|q<;>rw[q]<;>decide
 have e:scan st0 ((sg x).take (i+1))={scan st0 ((sg x).take i) with md:=.S3 d 0 f,ln:=(scan st0 ((sg x).take i)).ln+1}:=by
  rw[aI hc]
  rcases h with ⟨hw,_⟩|⟨hw,h|⟨h,q⟩|⟨h,q⟩⟩
  ·contradiction
  ·simp[step,h,hq]
  ·simp[step,h,hq]
  ·simp[step,h,hq]
 exact⟨_,⟨e.symm,bb hc,.inr ⟨rfl,.inl rfl⟩⟩,rfl,rfl,rfl⟩
theorem ua (h:InS x d w f i s)(hc:(sg x)[i]?=some 92){e:Nat}(he:(sg x)[i+1]?=some e):∃s',InS x d w f (i+2) s'∧s'.lv=s.lv∧s'.ln=(if e=10 then s.ln+1 else s.ln)∧s'.gd=s.gd:=by
 obtain⟨rfl,hi,h⟩:=h
 have hq:¬92=qc d:=by rcases dg d with q|q<;>rw[q]<;>decide
 refine⟨scan st0 ((sg x).take (i+2)),⟨rfl,bb he,?_⟩,?_⟩
 ·rw[aI he,aI hc]
  rcases h with ⟨hw,h|⟨h,_⟩⟩|⟨hw,h|⟨h,_⟩|⟨h,_⟩⟩
  ·refine .inl ⟨hw,.inl ?_⟩;simp[step,h,bm,hq];split<;>rfl
  ·refine .inl ⟨hw,.inl ?_⟩;simp[step,h,bm,hq];split<;>rfl
  ·refine .inr ⟨hw,.inl ?_⟩;simp[step,h,hq];split<;>rfl
  ·refine .inr ⟨hw,.inl ?_⟩;simp[step,h,hq];split<;>rfl
  ·refine .inr ⟨hw,.inl ?_⟩;simp[step,h,hq];split<;>rfl
 ·rw[aI he,aI hc]
  rcases h with ⟨hw,h|⟨h,_⟩⟩|⟨hw,h|⟨h,_⟩|⟨h,_⟩⟩<;>simp[step,h,bm,hq]<;>split<;>simp[*]
noncomputable def ci:Md→Option Nat
 | .Q1 _ f | .S1 _ f | .S1e _ f | .S3 _ _ f | .S3e _ f=>some f
 |_=>none
theorem qx (h:InS x d w f i s):ci s.md=some f:=by
 rcases h.2.2 with ⟨hw,h|⟨h,_⟩⟩|⟨hw,h|⟨h,_⟩|⟨h,_⟩⟩<;>rw[h]<;>rfl
end
section
variable {P:Pm}{pr:List Nat}{k g b:Nat}{Wc:List Nat→aa}{x:Str}
theorem lg0 (a:Option V)(l:Sl):aF (a::l) 0=a:=rfl
theorem lgs (a:Option V)(l:Sl)(i:Nat):aF (a::l) (i+1)=aF l i:=rfl
theorem yC (C:Cel Wc k g b pr){x:Str}{ct:Int}{lv ln i n:Nat}{ch:Option V}{gd:List Nat}{q f w:D} :
  Wk pr ⟨slots k g b x ct lv ln i n [ch,some (.d q),some (.d f),some (.d w)],Wc gd⟩ ⟨slots k g b x ct lv ln i n [none,some (.d q),some (.d f),some (.d w)],Wc gd⟩:=by
 refine⟨?_,rfl,C.wf gd,C.pr gd⟩
 have hg:g∈dom (Wc gd):=ah (C.g_ gd)
 have hb:b∈dom (Wc gd):=ah (C.b_ gd)
 have hk:=C.k_ gd
 dsimp only[slots,slW,lg0,lgs,vW,vOk,Option.some.injEq,exists_eq_left',true_and]
 simp[hg,hb,hk]
theorem wv {c:aa}{x:Str}{a e:Int}{K:D→Prop}:ju c (.d (.str x)) (.d (.int a)) (.d (.int e)) K=(x.length≤big∧K (.str (Txt.slice x (some a) (some e)))):=rfl
theorem s4 (C:Cel Wc k g b pr){gd:List Nat}{m:Nat}{kk:Option Nat}{K:V→aa→Prop}:ek P (Wc gd) kk (.obj b) [.d (.int ((m:Int)+1))] K=(gd.length≤big∧K (.d .none) (Wc (gd++[m+1]))):=by
 show eU (ae (Wc gd) b) _=_
 simp only[C.b_ gd]
 show ("list.append"="list.append"∧cG (ae (Wc gd) g) _)=_
 rw[C.g_ gd]
 show (_∧_∧K (.d .none) (cset (Wc gd) g (.list (_++[.int ((m:Int)+1)]))))=_
 rw[show ((m:Int)+1)=((m+1:Nat):Int) from rfl,C.set gd (m+1)]
 simp
theorem ui {c:aa}{x y:Str}{K:Bool→Prop}:fA c .Eq (.d (.str x)) (.d (.str y)) K=K (x==y):=rfl
theorem nU {c:aa}{x y:Int}{K:Bool→Prop}:fA c .Eq (.d (.int x)) (.d (.int y)) K=K (x==y):=rfl
theorem rg {c:aa}{x y:Int}{K:Bool→Prop}:fA c .Lt (.d (.int x)) (.d (.int y)) K=K (decide (x<y)):=rfl
theorem ql {c:aa}{x:Str}{i:Int}{K:D→Prop}:ef c (.d (.str x)) (.d (.int i)) K=(-(x.length:Int)≤i∧i<x.length∧x.length≤big∧K (.str (Txt.item x i))):=rfl
theorem uF {c:aa}{x y:Int}{K:D→Prop}:ip c .Add (.d (.int x)) (.d (.int y)) K=K (.int (x+y)):=rfl
theorem mX {c:aa}{x y:Int}{K:D→Prop}:ip c .Sub (.d (.int x)) (.d (.int y)) K=K (.int (x-y)):=rfl
theorem sd (s:St)(l:List Nat):(scan s l).gd.length≤s.gd.length+l.length:=by
 induction l generalizing s with
 |nil=>exact Zv _
 |cons c l ih=>
  have h1:=ih (step s c)
  have h2:(step s c).gd.length≤s.gd.length+1:=by
   have hn:(nl s).gd.length≤s.gd.length+1:=by unfold nl;dsimp only;split<;>simp
   have hN:(aY s c).gd.length≤s.gd.length+1:=by
    unfold aY
    repeat' split
    all_goals first|exact hn|exact Nat.le_succ _
   have hS:∀d f,(bm s d f c).gd.length≤s.gd.length+1:=fun d f=>by
    unfold bm
    repeat' split
    all_goals first|exact hn|exact Nat.le_succ _
   unfold step
   split<;>first|exact hN|exact hS _ _|skip
   all_goals repeat' split
   all_goals first|exact hN|exact hS _ _|exact hn|exact Nat.le_succ _
  simp only[Qz];exact R65 h1 h2
theorem sI (hbig:(sg x).length+5≤big){i:Nat}:(scan st0 ((sg x).take i)).gd.length≤big:=by
 have:=sd st0 ((sg x).take i)
 have h2:((sg x).take i).length≤(sg x).length:=by rw[List.length_take];exact Nat.min_le_right _ _
 have h3:st0.gd.length=1:=rfl
 exact R64 hbig this h2 h3
theorem win3 {i:Nat}{q:Nat}:((⟨(((sg x).drop i).take 3).toArray⟩:Str)==⟨#[q,q,q]⟩)=true↔(sg x)[i]?=some q∧(sg x)[i+1]?=some q∧(sg x)[i+2]?=some q:=by
 have e:∀j,(sg x)[i+j]?=((sg x).drop i)[j]?:=fun j=>by simp only[Zx]
 rw[show (sg x)[i]?=((sg x).drop i)[0]? from e 0,e 1,e 2,beq_iff_eq]
 generalize (sg x).drop i=l
 constructor
 ·intro h
  have h':l.take 3=[q,q,q]:=by
   injection h with h
   have:=congrArg Array.toList h
   simpa using this
  rcases l with _|⟨a,_|⟨b,_|⟨c,l⟩⟩⟩
  ·contradiction
  ·simp at h'
  ·simp at h'
  ·have h'':[a,b,c]=[q,q,q]:=h'
   cases h'';exact⟨rfl,rfl,rfl⟩
 ·rintro⟨h1,h2,h3⟩
  rcases l with _|⟨a,_|⟨b,_|⟨c,l⟩⟩⟩
  ·contradiction
  ·contradiction
  ·contradiction
  ·(injection h1 with h1;subst h1);(injection h2 with h2;subst h2);(injection h3 with h3;subst h3);rfl
theorem yn {i c q:Nat}(hc:(sg x)[i]?=some c):((⟨(((sg x).drop i).take 1).toArray⟩:Str)==⟨#[q]⟩)=decide (c=q):=by
 have e:((sg x).drop i)[0]?=some c:=by rw[Zx];exact hc
 generalize (sg x).drop i=l at e
 cases l with
 |nil=>contradiction
 |cons a l=>(injection e with e;subst e);exact mc _ _
def zI (k g b:Nat)(Wc:List Nat→aa)(x:Str)(i:Nat)(r:List (Option V))(K:F→Sg'→Prop):Prop:=
 ∀i' s' (ct':Int) ch,i≤i'→(Out x i' s'∧s'.md≠.Nb∧ct'=0∨i'=(sg x).length∧s'=scan st0 (sg x)∧∃f,ci s'.md=some f∧ct'=if s'.ln=f+1 then 2 else 3)→
  K .next ⟨slots k g b x ct' s'.lv s'.ln i' (sg x).length (ch::r),Wc s'.gd⟩
def InI (k g b:Nat)(Wc:List Nat→aa)(x:Str)(d:Bool)(w f i₀:Nat)(m:Nat)(τ:Sg'):Prop:=∃i s ch,m=(sg x).length-i∧i₀≤i∧InS x d w f i s∧τ=⟨slots k g b x 0 s.lv s.ln i (sg x).length [ch,some (.d (.str (dE d w))),some (.d (.int f)),some (.d (.int w))],Wc s.gd⟩
theorem sG (C:Cel Wc k g b pr)(hl:∀i c,(sg x)[i]?=some c→i+1=(sg x).length→c=10)(hbig:(sg x).length+5≤big){d:Bool}{w f i₀ n:Nat}{s₀:St}(hw:w=0∨w=2)(h₀:InS x d w f i₀ s₀){ch₀:Option V}{K:F→Sg'→Prop}
  (hK:zI k g b Wc x i₀ [some (.d (.str (dE d w))),some (.d (.int f)),some (.d (.int w))] K) :
  wpS P pr (n+30) (.while_ (.cmp .Lt (.v 7) (.v 8)) si qF) ⟨slots k g b x 0 s₀.lv s₀.ln i₀ (sg x).length [ch₀,some (.d (.str (dE d w))),some (.d (.int f)),some (.d (.int w))],Wc s₀.gd⟩ K:=by
 have hlen:(sg x).length=x.length:=by simp[sg,Str.length]
 have hxb:x.length≤big:=R63 hbig
 refine⟨InI k g b Wc x d w f i₀,_,⟨i₀,s₀,ch₀,rfl,Zv _,h₀,rfl⟩,?_⟩
 rintro _ _ ⟨i,s,ch,rfl,hi0,h,rfl⟩
 dsimp only[wpT,wpE,wT1,wE1,aw,slots,lg0,lgs,rg]
 refine⟨fun hlt=>?_,fun hge=>?_⟩
 ·have hlt:i<(sg x).length:=by have:=of_decide_eq_true hlt;exact R62 this
  obtain⟨c,hc⟩:∃c,(sg x)[i]?=some c:=⟨_,Qk hlt⟩
  have hi2:=cn hc
  have again:∀i' s' ch (lv ln:Nat) gd,i<i'→InS x d w f i' s'→lv=s'.lv→ln=s'.ln→gd=s'.gd→∃k' υ',k'<(sg x).length-i∧Wk pr ⟨slots k g b x 0 lv ln i' (sg x).length [ch,some (.d (.str (dE d w))),some (.d (.int f)),some (.d (.int w))],Wc gd⟩ υ'∧
    InI k g b Wc x d w f i₀ k' υ':=by
   rintro i' s' ch _ _ _ h1 h2 rfl rfl rfl
   exact⟨_,_,by have:=h2.2.1;exact R61 h1 this,yC C,i',s',none,rfl,by exact R60 hi0 h1,h2,rfl⟩
  have hgd:s.gd.length≤big:=by rw[h.1];exact sI hbig
  have hsl:Txt.slice x (some ((i:Int)+1-1)) (some ((i:Int)+1+(w:Int)))=⟨(((sg x).drop i).take (w+1)).toArray⟩:=by
   have:=iH x (a:=i) (b:=i+1+w) (R59) (R58 hlt)
   simp only[show (i:Int)+1-1=(i:Int) by exact R57,show ((i:Int)+1+(w:Int))=((i+1+w:Nat):Int) by exact R56,this]
   congr 3;exact R55
  dsimp only[si,wpB,wpS,wpE,wpT,gX,wS1,wE1,wT1,aw,lg0,lgs,ql,uF,mX,ui,nU,rg,wv,List.set]
  simp only[hi2,mc,s4 C]
  refine⟨by exact R54,by exact R53 hlt,hxb,fun h120=>?_,fun h120=>⟨hxb,fun hq=>?_,fun hq=>⟨fun h10=>?_,fun h10=>⟨fun h92=>?_,fun h92=>?_⟩⟩⟩⟩
  ·have hc':=of_decide_eq_true h120
   refine aG fun G9 back9=>?_;obtain⟨s',h1,h2,h3,h4⟩:=iR h hc (by rcases dg d with q|q<;>omega) (R52 hc') (R51 hc');refine back9 ?_
   exact again (i+1) s' _ s.lv s.ln s.gd (R43) h1 h2.symm h3.symm h4.symm
  ·rw[hsl] at hq
   rcases hw with rfl|rfl
   ·have hc':c=qc d:=of_decide_eq_true ((yn hc).symm.trans hq)
    subst hc'
    obtain⟨s',h1,hN,h2,h3,h4⟩:=mN hl h hc
    have:=hK (i+1) s' 0 (some (.d (.str ⟨#[qc d]⟩))) (R13 hi0) (.inl ⟨h1,hN,rfl⟩)
    rw[h2,h3,h4] at this
    exact this
   ·obtain⟨q1,q2,q3⟩:=win3.mp hq
    obtain⟨s',h1,hN,h2,h3,h4⟩:=mj h q1 q2 q3
    have:=hK (i+3) s' 0 (some (.d (.str ⟨#[c]⟩))) (R50 hi0) (.inl ⟨h1,hN,rfl⟩)
    rw[h2,h3,h4] at this
    exact this
  ·have hc':=of_decide_eq_true h10
   subst hc'
   rcases hw with rfl|rfl
   ·obtain⟨s',h1,rfl⟩:=tu h hc
    refine⟨fun _=>⟨fun hz=>⟨hgd,?_⟩,fun hz=>?_⟩,fun q=>by cases q⟩
    ·have hz:s.lv=0:=by have:=beq_iff_eq.mp hz;exact R49 this
     have:=hK (i+1) _ 0 (some (.d (.str ⟨#[10]⟩))) (R13 hi0) (.inl ⟨h1,by simp[nl],rfl⟩)
     unfold nl at this
     dsimp only at this
     rw[if_pos hz] at this
     exact this
    ·have hz:¬s.lv=0:=by have:=beq_eq_false_iff_ne.mp hz;exact R48 this
     have:=hK (i+1) _ 0 (some (.d (.str ⟨#[10]⟩))) (R13 hi0) (.inl ⟨h1,by simp[nl],rfl⟩)
     unfold nl at this
     dsimp only at this
     rw[if_neg hz] at this
     exact this
   ·refine aG fun G9 back9=>?_;obtain⟨s',h1,h2,h3,h4⟩:=s5 h hc;refine back9 ?_
    refine⟨fun q=>(by contradiction),fun _=>?_⟩
    exact again (i+1) s' _ s.lv (s.ln+1) s.gd (R43) h1 h2.symm h3.symm h4.symm
  ·have hc':=of_decide_eq_true h92
   subst hc'
   have hlt2:i+1<(sg x).length:=by
    rcases Nat.lt_or_ge (i+1) (sg x).length with q|q
    ·exact q
    ·exact absurd (hl i 92 hc (R47 hlt q)) (by decide)
   obtain⟨e,he⟩:∃e,(sg x)[i+1]?=some e:=⟨_,Qk hlt2⟩
   refine aG fun G9 back9=>?_;obtain⟨s',h1,h2,h3,h4⟩:=ua h hc he;refine back9 ?_
   have he2:Txt.item x ((i:Int)+1)=⟨#[e]⟩:=cn he
   simp only[he2,mc]
   refine⟨decide_eq_true (R45 hlt2),by exact R46,by exact R45 hlt2,hxb,fun q=>?_,fun q=>?_⟩
   ·rw[if_pos (of_decide_eq_true q)] at h3
    exact again (i+2) s' _ s.lv (s.ln+1) s.gd (R44) h1 h2.symm h3.symm h4.symm
   ·rw[if_neg (of_decide_eq_false q)] at h3
    exact again (i+2) s' _ s.lv s.ln s.gd (R44) h1 h2.symm h3.symm h4.symm
  ·rw[hsl] at hq
   have n10:=of_decide_eq_false h10
   have n92:=of_decide_eq_false h92
   by_cases hcq:c=qc d
   ·subst hcq
    rcases hw with rfl|rfl
    ·exact absurd ((yn hc).symm.trans hq) (by simp)
    ·have hnot:¬((sg x)[i+1]?=some (qc d)∧(sg x)[i+2]?=some (qc d)):=fun q=>by
      have:=win3.mpr ⟨hc,q.1,q.2⟩
      exact absurd (hq.symm.trans this) (by simp)
     refine aG fun G9 back9=>?_;obtain⟨s',h1,h2,h3,h4⟩:=pB h hc hnot;refine back9 ?_
     exact again (i+1) s' _ s.lv s.ln s.gd (R43) h1 h2.symm h3.symm h4.symm
   ·obtain⟨s',h1,h2,h3,h4⟩:=iR h hc hcq n10 n92
    exact again (i+1) s' _ s.lv s.ln s.gd (R43) h1 h2.symm h3.symm h4.symm
 ·have hge:i=(sg x).length:=by have:=of_decide_eq_false hge;have:=h.2.1;exact R42 ‹_› this
  dsimp only[qF,wpB,wpS,wpE,wpT,wS1,wE1,wT1,aw,lg0,lgs,mX,nU,List.set]
  have ho:=qx h
  have hs:s=scan st0 (sg x):=by rw[h.1,hge,List.take_length]
  refine⟨fun q=>?_,fun q=>?_⟩
  ·refine hK i s 2 ch hi0 (.inr ⟨hge,hs,f,ho,?_⟩)
   rw[if_pos (by have:=beq_iff_eq.mp q;exact R41 this)]
  ·refine hK i s 3 ch hi0 (.inr ⟨hge,hs,f,ho,?_⟩)
   rw[if_neg (fun e=>by have:=beq_eq_false_iff_ne.mp q;exact R40 e this)]
end
section
variable {P:Pm}{pr:List Nat}{k g b:Nat}{Wc:List Nat→aa}{x:Str}
theorem len_str {c:aa}{kk:Option Nat}{x:Str}{K:V→aa→Prop}:ek P c kk (.bi .len) [.d (.str x)] K=(x.length≤big∧K (.d (.int x.length)) c):=rfl
theorem xi (C:Cel Wc k g b pr){x:Str}{ct:Int}{lv ln i n:Nat}{r1 r2 r3 r4:Option V}{gd:List Nat} :
  Wk pr ⟨slots k g b x ct lv ln i n [r1,r2,r3,r4],Wc gd⟩ ⟨slots k g b x ct lv ln i n [none,none,none,none],Wc gd⟩:=by
 refine⟨?_,rfl,C.wf gd,C.pr gd⟩
 have hg:g∈dom (Wc gd):=ah (C.g_ gd)
 have hb:b∈dom (Wc gd):=ah (C.b_ gd)
 have hk:=C.k_ gd
 dsimp only[slots,slW,lg0,lgs,vW,vOk,Option.some.injEq,exists_eq_left',true_and]
 simp[hg,hb,hk]
def iq (x:Str)(i:Nat)(s:St)(ct:Int):Prop:=
 (Out x i s∧ct=if s.md=.Nb∧i=(sg x).length then 1 else 0)∨(i=(sg x).length∧s=scan st0 (sg x)∧∃f,ci s.md=some f∧ct=if s.ln=f+1 then 2 else 3)
theorem fP {i:Int}{c y:Nat}(h:Txt.item x i=⟨#[c]⟩)(e:(Txt.item x i==⟨#[y]⟩)=true):c=y:=by
 rw[h,mc] at e;exact of_decide_eq_true e
theorem fR {i:Int}{c y:Nat}(h:Txt.item x i=⟨#[c]⟩)(e:(Txt.item x i==⟨#[y]⟩)=false):c≠y:=by
 rw[h,mc] at e;exact of_decide_eq_false e
theorem bD {n i:Nat}{l:Sl}{c:aa}{v:V}(h:aF l i=some v)(K':V→aa→Prop)(hK:K' v c):wpE P (n+1) (.v i) l c K':=by
 show aw (aF l i) _
 rw[h];exact hK
theorem dn {n:Nat}{st:IS}{r:List IS}{σ:Sg'}{K:F→Sg'→Prop}(h:wpS P pr n st σ (fun f τ=>match f with | .next=>wpB P pr n r τ K|f=>K f τ)):wpB P pr (n+1) (st::r) σ K:=by
 exact h
section
variable {n:Nat}{a b f o:IE}{es:List IE}{l:Sl}{c:aa}{kk:Option Nat}{m:Mn}
theorem gf {op:CmpOp}{K:Bool→aa→Prop}:wpT P (n+1) (.cmp op a b) l c K=wpE P n a l c fun u c1=>wpE P n b l c1 fun v c2=>fA c2 op u v fun r=>K r c2:=rfl
theorem dS {op:Operator}{K:V→aa→Prop}:wpE P (n+1) (.bin op a b) l c K=wpE P n a l c fun u c1=>wpE P n b l c1 fun v c2=>ip c2 op u v fun d=>K (.d d) c2:=rfl
theorem sM {K:V→aa→Prop}:wpE P (n+1) (.item a b) l c K=wpE P n a l c fun u c1=>wpE P n b l c1 fun v c2=>ef c2 u v fun d=>K (.d d) c2:=rfl
theorem dL {K:V→aa→Prop}:wpE P (n+1) (.call f es kk) l c K=wpE P n f l c fun u c1=>gX P n es l c1 fun vs c2=>ek P c2 kk u vs K:=rfl
theorem eO {K:V→aa→Prop}:wpE P (n+1) (.meth o m es) l c K=wpE P n o l c fun u c1=>dH c1 u m∧gX P n es l c1 fun vs c2=>nA c2 u m vs K:=rfl
theorem iL {x:Addr}{nm:Str}{K:V→aa→Prop}:wpE P (n+1) (.umeth o x nm es) l c K=wpE P n o l c fun u c1=>(gC P c1 u fun fs=>look fs nm=none)∧gX P n es l c1 fun vs c2=>P.isFn x=true∧P.fn x (u::vs) c2 (fun v c3=>eJ c2 c3∧K v c3):=rfl
theorem jF {K:V→aa→Prop}:wpE P (n+1) (.lst es kk) l c K=gX P n es l c fun vs c1=>aw (lg vs) fun ds=>ds.length≤big∧dj c1 kk ds K:=rfl
theorem uk {K:V→aa→Prop}:wpE P (n+1) (.tup es) l c K=gX P n es l c fun vs c1=>aw (lg vs) fun ds=>ds.length≤big∧K (.d (.tup ds)) c1:=rfl
theorem rS {K:Bool→aa→Prop}:wpT P (n+1) (.or a b) l c K=wpT P n a l c fun r c1=>(r=true→K true c1)∧(r=false→wpT P n b l c1 K):=rfl
theorem qA {r:List IS}{σ:Sg'}{K:F→Sg'→Prop}:wpB P pr (n+2) (.expr a::r) σ K=wpE P n a σ.l σ.c fun _ c1=>wpB P pr (n+1) r ⟨σ.l,c1⟩ K:=rfl
theorem aQ {K:List V→aa→Prop}:gX P (n+1) (a::es) l c K=wpE P n a l c fun v c1=>gX P n es l c1 fun vs c2=>K (v::vs) c2:=rfl
end
theorem nN {n i:Nat}{it:IE}{a:List IS}{σ:Sg'}{K:F→Sg'→Prop}:wpS P pr (n+1) (.for_ i it a) σ K=wpE P n it σ.l σ.c fun v c1=>cC v∧∃xs,bw v=some xs∧∃I:Nat→Sg'→Prop,I 0 ⟨σ.l,c1⟩∧
    (∀j d τ,xs[j]?=some d→I j τ→i<τ.l.length∧wpB P pr n a ⟨τ.l.set i (some (.d d)),τ.c⟩ fun f υ=>match f with
     | .next | .cont=>∃υ',Wk pr υ υ'∧I (j+1) υ'
     | .brk=>K .next υ
     | .ret v=>K (.ret v) υ)∧∀τ,I xs.length τ→K .next τ:=rfl
theorem ao {n i:Nat}{e:IE}{r:List IS}{l:Sl}{c:aa}{K:F→Sg'→Prop}(v:V)(he:∀K':V→aa→Prop,K' v c→wpE P n e l c K')(h:wpB P pr (n+1) r ⟨l.set i (some v),c⟩ K):wpB P pr (n+2) (.asg i e::r) ⟨l,c⟩ K:=by
 exact he _ h
theorem j5 (C:Cel Wc k g b pr){n:Nat}{l:Sl}{gd:List Nat}{m:Nat}{K:F→Sg'→Prop}(h6:aF l 6=some (.obj b))(h4:aF l 4=some (.d (.int (m:Int))))(hgd:gd.length≤big)(h:K .next ⟨l,Wc (gd++[m])⟩) :
  wpB P pr (n+5) [.expr (.call (.v 6) [(.v 4)] none)] ⟨l,Wc gd⟩ K:=by
 show aw (aF l 6) _
 simp only[h6]
 show aw (aF l 4) _
 simp only[h4]
 show eU (ae (Wc gd) b) _
 simp only[C.b_ gd]
 refine⟨rfl,?_⟩
 rw[C.g_ gd]
 refine⟨by rw[Zu];exact hgd,?_⟩
 show K .next ⟨l,cset (Wc gd) g (.list (_++[.int (m:Int)]))⟩
 rw[C.set gd m]
 exact h
theorem ve (C:Cel Wc k g b pr){n:Nat}{l:Sl}{gd:List Nat}{m:Nat}{K:F→Sg'→Prop}(h6:aF l 6=some (.obj b))(h4:aF l 4=some (.d (.int ((m:Int)+1))))(hgd:gd.length≤big)(h:K .next ⟨l,Wc (gd++[m+1])⟩) :
  wpB P pr (n+5) [.expr (.call (.v 6) [(.v 4)] none)] ⟨l,Wc gd⟩ K:=by
 exact j5 C (m:=m+1) h6 h4 hgd h
theorem ll (C:Cel Wc k g b pr)(hl:∀i c,(sg x)[i]?=some c→i+1=(sg x).length→c=10)(hbig:(sg x).length+5≤big){d:Bool}{w i n:Nat}{s:St}(hw:w=0∨w=2)(h:InS x d w s.ln (i+w) s){ch f' w':Option V}{K:F→Sg'→Prop}
  (hK:∀i' s' (ct':Int) ch r2 r3 r4,i+w≤i'→(Out x i' s'∧s'.md≠.Nb∧ct'=0∨i'=(sg x).length∧s'=scan st0 (sg x)∧∃f,ci s'.md=some f∧ct'=if s'.ln=f+1 then 2 else 3)→
   K .cont ⟨slots k g b x ct' s'.lv s'.ln i' (sg x).length [ch,r2,r3,r4],Wc s'.gd⟩) :
  wpB P pr (n+60) [.asg 11 (.v 4),.asg 12 (.bin .Sub (.call (.g (.bi .len)) [(.v 10)] none) (.c (.int 1))),.asg 7 (.bin .Add (.v 7) (.v 12)),inW,.cont]
   ⟨slots k g b x 0 s.lv s.ln i (sg x).length [ch,some (.d (.str (dE d w))),f',w'],Wc s.gd⟩ K:=by
 have hq:(dE d w).length=w+1:=by rcases hw with rfl|rfl<;>rfl
 refine ao (n:=n+58) (.d (.int s.ln)) (fun K' h=>h) ?_
 refine ao (n:=n+57) (.d (.int w)) (fun K' h=>⟨by rw[hq];unfold big;rcases hw with rfl|rfl<;>omega,?_⟩) ?_
 ·have e1:(((dE d w).length:Int)-1)=(w:Int):=by rw[hq];exact R88
  show K' (.d (.int (((dE d w).length:Int)-1))) _
  rw[e1];exact h
 refine ao (n:=n+56) (.d (.int ((i+w:Nat):Int))) (fun K' h=>h) ?_
 refine dn (n:=n+56) ?_
 refine sG (n:=n+26) (K:=_) C hl hbig hw h (ch₀:=ch) ?_
 intro i' s' ct' ch' hi hs
 exact hK i' s' ct' ch' _ _ _ hi hs
theorem xZ {i c d:Nat}(hc:(sg x)[i]?=some c)(hsl:Txt.slice x (some ((i:Int)+1-1)) (some ((i:Int)+1+2))=⟨(((sg x).drop i).take 3).toArray⟩)
  (e:(Txt.slice x (some ((i:Int)+1-1)) (some ((i:Int)+1+2))==kW ⟨#[c]⟩ 3)=true):(sg x)[i+1]?=some c∧(sg x)[i+2]?=some c:=by
 rw[hsl] at e
 exact (win3.mp e).2
theorem wi {i c d:Nat}(hc:(sg x)[i]?=some c)(hsl:Txt.slice x (some ((i:Int)+1-1)) (some ((i:Int)+1+2))=⟨(((sg x).drop i).take 3).toArray⟩)
  (e:(Txt.slice x (some ((i:Int)+1-1)) (some ((i:Int)+1+2))==kW ⟨#[c]⟩ 3)=false):¬((sg x)[i+1]?=some c∧(sg x)[i+2]?=some c):=by
 rw[hsl] at e
 intro q
 have:=win3.mpr ⟨hc,q.1,q.2⟩
 exact absurd (e.symm.trans this) (by simp)
theorem oj {i n:Nat}{s:St}{d:Bool}(h:Out x i s)(hc:(sg x)[i]?=some (qc d)) :
  ((sg x)[i+1]?=some (qc d)∧(sg x)[i+2]?=some (qc d)→∃s',InS x d 2 s.ln (i+3) s'∧same s s')∧
  (¬((sg x)[i+1]?=some (qc d)∧(sg x)[i+2]?=some (qc d))→∃s',InS x d 0 s.ln (i+1) s'∧same s s'):=by
 have e1:scan st0 ((sg x).take (i+1))={s with md:=.Q1 d s.ln}:=by
  simp only[aI hc,←h.1,h.2.2.1 _ hc]
  cases d<;>rfl
 refine⟨fun q=>?_,fun q=>⟨_,⟨e1.symm,bb hc,.inl ⟨rfl,.inr ⟨rfl,q⟩⟩⟩,rfl,rfl,rfl⟩⟩
 have e3:scan st0 ((sg x).take (i+3))={s with md:=.S3 d 0 s.ln}:=by
  simp only[aI q.2,aI q.1,e1]
  simp[step]
 exact⟨_,⟨e3.symm,bb q.2,.inr ⟨rfl,.inl rfl⟩⟩,rfl,rfl,rfl⟩
theorem qS {s:St}(hs:s.md=.C):∀(l:List Nat),(∀c∈l,c≠10)→scan s l=s
 | [],_=>rfl
 |c::l,h=>by
  have:step s c=s:=by simp[step,hs,h c (.head _)]
  simp only[aZ,this]
  exact qS hs l fun c hc=>h c (.tail _ hc)
theorem zB {c:Nat}(h:c=10∨c=34∨c=35∨c=39∨c=40∨c=41∨c=92∨c=120)(n10:c≠10)(n34:c≠34)(n35:c≠35)(n39:c≠39)(n40:c≠40)(n41:c≠41)(n120:c≠120):c=92:=by
 rcases h with h|h|h|h|h|h|h|h
 ·exact absurd h n10
 ·exact absurd h n34
 ·exact absurd h n35
 ·exact absurd h n39
 ·exact absurd h n40
 ·exact absurd h n41
 ·exact h
 ·exact absurd h n120
def OuI (k g b:Nat)(Wc:List Nat→aa)(x:Str)(m:Nat)(τ:Sg'):Prop:=∃i s ct r1 r2 r3 r4,m=(sg x).length-i∧iq x i s ct∧τ=⟨slots k g b x ct s.lv s.ln i (sg x).length [r1,r2,r3,r4],Wc s.gd⟩
theorem sK (C:Cel Wc k g b pr)(hl:∀i c,(sg x)[i]?=some c→i+1=(sg x).length→c=10)(hend:sg x≠[]→(sg x)[(sg x).length-1]?=some 10)(hsg:vL x)(hbig:(sg x).length+5≤big){n:Nat}{r:List (Option V)}(hr:r=[none,none,none,none]){K:F→Sg'→Prop}
  (hK:∀s ct r,iq x (sg x).length s ct→s=scan st0 (sg x)→K .next ⟨slots k g b x ct s.lv s.ln (sg x).length (sg x).length r,Wc s.gd⟩) :
  wpS P pr (n+100) v8 ⟨slots k g b x 0 0 0 0 (sg x).length r,Wc [0]⟩ K:=by
 have hlen:(sg x).length=x.length:=by simp[sg,Str.length]
 have hxb:x.length≤big:=R63 hbig
 unfold v8
 refine⟨OuI k g b Wc x,_,⟨0,st0,0,none,none,none,none,rfl,.inl ⟨⟨rfl,Zj _,fun c _=>rfl,fun _=>.inl rfl⟩,rfl⟩,by rw[hr];rfl⟩,?_⟩
 rintro _ _ ⟨i,s,ct,r1,r2,r3,r4,rfl,h0,rfl⟩
 refine⟨fun hlt=>?_,fun hge=>?_⟩
 ·have hlt:i<(sg x).length:=by have:=of_decide_eq_true hlt;exact R62 this
  obtain⟨h,hct⟩:Out x i s∧ct=0:=by
   rcases h0 with ⟨h,e⟩|⟨h,_⟩
   ·exact⟨h,by rw[e,if_neg (fun q=>Nat.ne_of_lt hlt q.2)]⟩
   ·exact (R87 hlt h).elim
  subst hct
  obtain⟨c,hc⟩:∃c,(sg x)[i]?=some c:=⟨_,Qk hlt⟩
  have hi2:=cn hc
  have hstep:scan st0 ((sg x).take (i+1))=aY s c:=by rw[aI hc,←h.1,h.2.2.1 c hc]
  have again:∀i' s' ct' r1 r2 r3 r4 (lv ln:Nat) gd,i<i'→iq x i' s' ct'→i'≤(sg x).length→lv=s'.lv→ln=s'.ln→gd=s'.gd→∃k' υ',k'<(sg x).length-i∧Wk pr ⟨slots k g b x ct' lv ln i' (sg x).length [r1,r2,r3,r4],Wc gd⟩ υ'∧
    OuI k g b Wc x k' υ':=by
   rintro i' s' ct' r1 r2 r3 r4 _ _ _ h1 h2 h3 rfl rfl rfl
   exact⟨_,_,by exact R61 h1 h3,xi C,i',s',ct',none,none,none,none,rfl,h2,rfl⟩
  have hgd:s.gd.length≤big:=by rw[h.1];exact sI hbig
  have hsl:Txt.slice x (some ((i:Int)+1-1)) (some ((i:Int)+1+2))=⟨(((sg x).drop i).take 3).toArray⟩:=by
   have:=iH x (a:=i) (b:=i+3) (R86) (R58 hlt)
   simp only[show (i:Int)+1-1=(i:Int) by exact R57,show ((i:Int)+1+2)=((i+3:Nat):Int) by exact R85,this]
   congr 3;exact R84
  have neu:∀s',s'=scan st0 ((sg x).take (i+1))→s'.md=.N→iq x (i+1) s' 0:=fun s' e1 e2=>
   .inl ⟨⟨e1,by exact R82 hlt,fun c _=>by unfold step;rw[e2],fun _=>.inl e2⟩,by rw[if_neg (fun q=>by rw[e2] at q;cases q.1)]⟩
  show wpB P pr (n+99) qz ⟨slots k g b x 0 s.lv s.ln i (sg x).length [r1,r2,r3,r4],Wc s.gd⟩ _
  conv=>whnf
  refine⟨by exact R54,by exact R53 hlt,hxb,?_⟩
  conv=>whnf
  refine⟨fun h1=>?_,fun h1=>?_⟩
  ·have hc1:=fP hi2 h1
   subst hc1
   exact again (i+1) _ 0 _ _ _ _ s.lv s.ln s.gd (R43) (neu (aY s 120) hstep.symm rfl) (R82 hlt) rfl rfl rfl
  have n120:=fR hi2 h1
  conv=>whnf
  refine⟨fun h1=>?_,fun h1=>?_⟩
  ·have hc1:=fP hi2 h1
   subst hc1
   conv=>whnf
   refine⟨fun hz=>?_,fun hz=>?_⟩
   ·have hz:s.lv=0:=by have:=beq_iff_eq.mp hz;exact R49 this
    have e:(aY s 10).gd=s.gd++[s.ln+1]:=by show (if s.lv=0 then _ else _)=_;rw[if_pos hz]
    refine ve C (n:=n+86) (gd:=s.gd) (m:=s.ln) rfl rfl hgd ?_
    exact again (i+1) _ 0 _ _ _ _ s.lv (s.ln+1) _ (R43) (neu (aY s 10) hstep.symm rfl) (R82 hlt) rfl rfl e.symm
   ·have hz:¬s.lv=0:=by have:=beq_eq_false_iff_ne.mp hz;exact R48 this
    have e:(aY s 10).gd=s.gd:=by show (if s.lv=0 then _ else _)=_;rw[if_neg hz]
    exact again (i+1) _ 0 _ _ _ _ s.lv (s.ln+1) s.gd (R43) (neu (aY s 10) hstep.symm rfl) (R82 hlt) rfl rfl e.symm
  have n10:=fR hi2 h1
  conv=>whnf
  refine⟨fun h1=>?_,fun h1=>?_⟩
  ·have hc1:=fP hi2 h1
   subst hc1
   exact again (i+1) _ 0 _ _ _ _ (s.lv+1) s.ln s.gd (R43) (neu (aY s 40) hstep.symm rfl) (R82 hlt) rfl rfl rfl
  have n40:=fR hi2 h1
  conv=>whnf
  refine⟨fun h1=>?_,fun h1=>?_⟩
  ·have hc1:=fP hi2 h1
   subst hc1
   conv=>whnf
   refine⟨fun hz=>?_,fun hz=>?_⟩
   ·have hz:s.lv≠0:=by have:=bne_iff_ne.mp hz;exact R48 this
    have:=again (i+1) _ 0 (some (.d (.str (Txt.item x i)))) r2 r3 r4 (s.lv-1) s.ln s.gd (R43) (neu (aY s 41) hstep.symm rfl) (R82 hlt) rfl rfl rfl
    have e:((s.lv-1:Nat):Int)=(s.lv:Int)-1:=R83 hz
    unfold slots at this
    rw[e] at this
    exact this
   ·have hz:s.lv=0:=by have:=bne_eq_false_iff_eq.mp hz;exact R49 this
    exact again (i+1) _ 0 _ _ _ _ s.lv s.ln s.gd (R43) (neu (aY s 41) hstep.symm rfl) (R82 hlt) (by show s.lv=s.lv-1;exact R81 hz) rfl rfl
  have n41:=fR hi2 h1
  have fin:∀i' s' (ct':Int) ch r2 r3 r4,i+1≤i'→(Out x i' s'∧s'.md≠.Nb∧ct'=0∨i'=(sg x).length∧s'=scan st0 (sg x)∧∃f,ci s'.md=some f∧ct'=if s'.ln=f+1 then 2 else 3)→
    ∃k' υ',k'<(sg x).length-i∧Wk pr ⟨slots k g b x ct' s'.lv s'.ln i' (sg x).length [ch,r2,r3,r4],Wc s'.gd⟩ υ'∧OuI k g b Wc x k' υ':=by
   intro i' s' ct' ch r2 r3 r4 hi q
   refine again i' s' ct' ch r2 r3 r4 s'.lv s'.ln s'.gd (R74 hi) ?_ ?_ rfl rfl rfl
   ·rcases q with ⟨q1,q2,rfl⟩|q
    ·exact .inl ⟨q1,by rw[if_neg (fun e=>q2 e.1)]⟩
    ·exact .inr q
   ·rcases q with ⟨q1,q2,rfl⟩|q
    ·exact q1.2.1
    ·exact Nat.le_of_eq q.1
  have quo:∀(d:Bool) (n':Nat) (K0:F→Sg'→Prop),c=qc d→(∀i' s' (ct':Int) ch r2 r3 r4,i+1≤i'→(Out x i' s'∧s'.md≠.Nb∧ct'=0∨i'=(sg x).length∧s'=scan st0 (sg x)∧∃f,ci s'.md=some f∧ct'=if s'.ln=f+1 then 2 else 3)→K0 .cont ⟨slots k g b x ct' s'.lv s'.ln i' (sg x).length [ch,r2,r3,r4],Wc s'.gd⟩)→wpB P pr (n'+90) [
    .asg 10 (.v 9),
    .if_ (.cmp .Eq (.slice (.v 1) (.bin .Sub (.v 7) (.c (.int 1))) (.bin .Add (.v 7) (.c (.int 2)))) (.bin .Mult (.v 10) (.c (.int 3)))) [
     .asg 10 (.bin .Mult (.v 10) (.c (.int 3)))] [],
    .asg 11 (.v 4),
    .asg 12 (.bin .Sub (.call (.g (.bi .len)) [(.v 10)] none) (.c (.int 1))),
    .asg 7 (.bin .Add (.v 7) (.v 12)),
    inW,
    .cont] ⟨slots k g b x 0 s.lv s.ln (i+1) (sg x).length [some (.d (.str (Txt.item x i))),r2,r3,r4],Wc s.gd⟩ K0:=by
   intro d n' K0 hcd hK0
   subst hcd
   rw[hi2]
   obtain⟨hb1,hb2⟩:=oj (n:=n) h hc
   refine ao (n:=n'+88) (.d (.str ⟨#[qc d]⟩)) (fun K' h=>h) ?_
   conv=>whnf
   refine⟨hxb,?_⟩
   conv=>whnf
   refine⟨⟨by decide,by decide⟩,rfl,?_⟩
   conv=>whnf
   refine⟨fun hq=>?_,fun hq=>?_⟩
   ·conv=>whnf
    refine⟨⟨by decide,by decide⟩,rfl,?_⟩
    obtain⟨s',hin,h2,h3,h4⟩:=hb1 (xZ (d:=0) hc hsl hq)
    have:=fun K0=>ll (P:=P) (pr:=pr) C hl hbig (d:=d) (w:=2) (i:=i+1) (s:=s') (n:=n'+28) (.inr rfl) (by rw[h3];exact hin) (ch:=some (.d (.str ⟨#[qc d]⟩))) (f':=r3) (w':=r4) (K:=K0)
    rw[h2,h3,h4] at this
    refine this _ ?_
    intro i' s' ct' ch r2 r3 r4 hi q
    exact hK0 i' s' ct' ch r2 r3 r4 (R80 hi) q
   ·obtain⟨s',hin,h2,h3,h4⟩:=hb2 (wi (d:=0) hc hsl hq)
    have:=fun K0=>ll (P:=P) (pr:=pr) C hl hbig (d:=d) (w:=0) (i:=i+1) (s:=s') (n:=n'+28) (.inl rfl) (by rw[h3];exact hin) (ch:=some (.d (.str ⟨#[qc d]⟩))) (f':=r3) (w':=r4) (K:=K0)
    rw[h2,h3,h4] at this
    refine this _ ?_
    intro i' s' ct' ch r2 r3 r4 hi q
    exact hK0 i' s' ct' ch r2 r3 r4 (R79 hi) q
  conv=>whnf
  refine⟨fun h1=>?_,fun h1=>?_⟩
  ·have hc1:=fP hi2 h1
   conv=>whnf
   refine⟨fun _=>?_,fun q=>by cases q⟩
   exact quo true (n+1) _ hc1 fin
  have n34:=fR hi2 h1
  conv=>whnf
  refine⟨fun h1=>?_,fun h1=>?_⟩
  ·have hc1:=fP hi2 h1
   exact quo false (n+1) _ hc1 fin
  have n39:=fR hi2 h1
  conv=>whnf
  refine⟨fun h1=>?_,fun h1=>?_⟩
  ·have hc1:=fP hi2 h1
   subst hc1
   obtain⟨j,hf,hj1,hj2,hj3⟩:=u8 (x:=x) (i:=i+1) ⟨(sg x).length-1,by
    rcases Nat.lt_or_ge (i+1) (sg x).length with q|q
    ·exact R78 q
    ·exact absurd (hl i 35 hc (R47 hlt q)) (by decide),hend (fun e=>by rw[e] at hlt;contradiction)⟩
   have hjl:j+1≤(sg x).length:=bb hj2
   have hsc:scan st0 ((sg x).take j)={s with md:=.C}:=by
    have e1:(sg x).take j=(sg x).take (i+1)++((sg x).take j).drop (i+1):=by
     conv=>lhs;rw[←List.take_append_drop (i+1) ((sg x).take j)]
     rw[List.take_take,Nat.min_eq_left hj1]
    rw[e1,aV,hstep]
    refine qS rfl _ fun c hcm e=>?_
    subst e
    obtain⟨m,hm⟩:=List.mem_iff_getElem?.mp hcm
    rw[Zx] at hm
    have hlt2:i+1+m<j:=by
     have:=(Qw.mp hm).1
     simp only[List.length_take] at this;exact R77 this
    rw[List.getElem?_take,if_pos hlt2] at hm
    exact hj3 (i+1+m) (R76) hlt2 hm
   have hO:iq x j {s with md:=.C} 0:=.inl ⟨⟨hsc.symm,by exact R73 hjl,fun c hc'=>by rw[hj2] at hc';(injection hc' with hc';subst hc');rfl,fun q=>by exact (R75 hjl q).elim⟩,by rw[if_neg (fun q=>by cases q.1)]⟩
   have fin:=again j _ 0 (some (.d (.str (Txt.item x i)))) r2 r3 r4 s.lv s.ln s.gd (R74 hj1) hO (R73 hjl) rfl rfl rfl
   unfold slots at fin
   rw[←hf] at fin
   conv=>whnf
   refine⟨rfl,?_⟩
   conv=>whnf
   refine⟨rfl,?_⟩
   conv=>whnf
   refine⟨show decide ((0:Int)≤Txt.find3 x ⟨#[10]⟩ ((i+1:Nat):Int))=true from decide_eq_true (by simp only[hf];exact R72),?_⟩
   exact fin
  have n35:=fR hi2 h1
  have hc1:=zB (hsg c (Qg hc)) n10 n34 n35 n39 n40 n41 n120
  subst hc1
  have hlt2:i+1<(sg x).length:=by
   rcases Nat.lt_or_ge (i+1) (sg x).length with q|q
   ·exact q
   ·exact absurd (hl i 92 hc (R47 hlt q)) (by decide)
  obtain⟨e,he⟩:∃e,(sg x)[i+1]?=some e:=⟨_,Qk hlt2⟩
  have he2:Txt.item x ((i+1:Nat):Int)=⟨#[e]⟩:=cn he
  have hsc:scan st0 ((sg x).take (i+2))=if e=10 then {s with md:=.Nb,ln:=s.ln+1} else {s with md:=.N}:=by
   simp only[aI he,hstep];rfl
  conv=>whnf
  refine⟨show (Txt.item x i==⟨#[92]⟩)=true from by rw[hi2];rfl,?_⟩
  conv=>whnf
  refine⟨show decide (((i+1:Nat):Int)<(sg x).length)=true from decide_eq_true (R70 hlt2),?_⟩
  conv=>whnf
  refine⟨show -(x.length:Int)≤((i+1:Nat):Int) by exact R71,show ((i+1:Nat):Int)<x.length by exact R70 hlt2,hxb,?_⟩
  conv=>whnf
  refine⟨fun h1=>?_,fun h1=>?_⟩
  ·have he3:=fP he2 h1
   rw[if_pos he3] at hsc
   conv=>whnf
   refine⟨fun h2=>?_,fun h2=>?_⟩
   ·have h2:i+2=(sg x).length:=by have:=beq_iff_eq.mp h2;exact R69 this
    have hO:iq x (i+2) {s with md:=.Nb,ln:=s.ln+1} 1:=.inl ⟨⟨hsc.symm,by exact R68 h2,fun c _=>rfl,fun _=>.inr rfl⟩,by rw[if_pos ⟨rfl,h2⟩]⟩
    exact again (i+2) _ 1 _ _ _ _ s.lv (s.ln+1) s.gd (R44) hO (R68 h2) rfl rfl rfl
   ·have h2:i+2≠(sg x).length:=by have:=beq_eq_false_iff_ne.mp h2;exact R67 this
    have hO:iq x (i+2) {s with md:=.Nb,ln:=s.ln+1} 0:=.inl ⟨⟨hsc.symm,by exact R66 hlt2,fun c _=>rfl,fun _=>.inr rfl⟩,by rw[if_neg (fun q=>h2 q.2)]⟩
    exact again (i+2) _ 0 _ _ _ _ s.lv (s.ln+1) s.gd (R44) hO (R66 hlt2) rfl rfl rfl
  ·have he3:=fR he2 h1
   rw[if_neg he3] at hsc
   have hO:iq x (i+2) {s with md:=.N} 0:=.inl ⟨⟨hsc.symm,by exact R66 hlt2,fun c _=>rfl,fun _=>.inl rfl⟩,by rw[if_neg (fun q=>by cases q.1)]⟩
   exact again (i+2) _ 0 _ _ _ _ s.lv s.ln s.gd (R44) hO (R66 hlt2) rfl rfl rfl
 ·have hge:i=(sg x).length:=by
   have h1:=of_decide_eq_false hge
   rcases h0 with ⟨h,_⟩|⟨h,_⟩
   ·have:=h.2.1;exact R42 h1 this
   ·exact h
  subst hge
  have hs:s=scan st0 (sg x):=by
   rcases h0 with ⟨h,_⟩|⟨_,h,_⟩
   ·simp only[h.1,List.take_length]
   ·exact h
  exact hK s ct _ h0 hs
end
theorem celW_iff {c c':aa}:∀{r:aa},bX c c' r↔∀p∈r,∃o,ae c p.1=some o∧oW c c' o p.2
 | []=>by simp[bX]
 | (k,o)::r=>by
  show (_∧bX c c' r)↔_
  rw[celW_iff]
  simp
theorem xe {c U U':aa}(h:∀k∈dom c,k∈dom U'){v v':V}(w:vW c c v v'):vW U U' v v':=by
 rcases w with ⟨e,o⟩|⟨k,xs,rfl,h1,_,h3⟩
 ·refine .inl ⟨e,?_⟩
  cases v<;>first|exact h _ o|trivial
 ·exact absurd (ah h1) h3
theorem bP {c U U':aa}(h:∀k∈dom c,k∈dom U'):∀{a a':List (Str×V)},fsW c c a a'→fsW U U' a a'
 | [],[],_=>trivial
 | (_,_)::_,(_,_)::_,⟨h1,h2,h3⟩=>⟨h1,xe h h2,bP h h3⟩
 | [],_::_,q=>q.elim
 |_::_,[],q=>q.elim
theorem eC {c U U':aa}(h:∀k∈dom c,k∈dom U'){o o':O}(w:oW c c o o'):oW U U' o o':=by
 cases o<;>cases o'<;>first|exact w|exact bP h w|exact⟨w.1,w.2.1,h _ w.2.2⟩
theorem aB {c c':aa}{x:Str}{v v':V}(hv:vW c c' v v'):∀{a a':List (Str×V)},fsW c c' a a'→fsW c c' (put a x v) (put a' x v')
 | [],[],_=>⟨rfl,hv,trivial⟩
 | (y,u)::r,(y',u')::r',⟨h1,h2,h3⟩=>by
  subst h1
  dsimp only[put]
  by_cases e:y'=x
  ·rw[if_pos e,if_pos e];exact⟨rfl,hv,h3⟩
  ·rw[if_neg e,if_neg e];exact⟨rfl,h2,aB hv h3⟩
 | [],_::_,q=>q.elim
 |_::_,[],q=>q.elim
theorem lD {c:aa}{k:Nat}{o:O}(h:ae c k=some o):(k,o)∈c:=by
 induction c with
 |nil=>contradiction
 |cons p r ih=>
  obtain⟨j,u⟩:=p
  dsimp only[ae] at h
  by_cases e:j=k
  ·rw[if_pos e] at h;(injection h with h;subst h);rw[e];exact .head _
  ·rw[if_neg e] at h;exact .tail _ (ih h)
theorem gq {c:aa}(nd:(dom c).Nodup){k:Nat}{o:O}{p:Nat×O}(h:p∈cset c k o):p=(k,o)∨(p∈c∧p.1≠k):=by
 induction c with
 |nil=>contradiction
 |cons q r ih=>
  obtain⟨j,u⟩:=q
  obtain⟨n1,n2⟩:=List.nodup_cons.mp (show (j::dom r).Nodup from nd)
  dsimp only[cset] at h
  by_cases e:j=k
  ·rw[if_pos e] at h
   rcases Qy.mp h with h|h
   ·exact .inl (by rw[h,e])
   ·refine .inr ⟨.tail _ h,fun q=>n1 ?_⟩
    rw[e,←q];exact List.mem_map.mpr ⟨p,h,rfl⟩
  ·rw[if_neg e] at h
   rcases Qy.mp h with h|h
   ·exact .inr ⟨by rw[h];exact .head _,by rw[h];exact e⟩
   ·rcases ih n2 h with h|h
    ·exact .inl h
    ·exact .inr ⟨.tail _ h.1,h.2⟩
theorem aX {c r:aa}{k:Nat}(h:k∈dom c)(o:O):cset (c++r) k o=cset c k o++r:=by
 induction c with
 |nil=>contradiction
 |cons p c ih=>
  obtain⟨j,u⟩:=p
  show (if j=k then _ else _)=(if j=k then _ else _)++r
  by_cases e:j=k
  ·rw[if_pos e,if_pos e];rfl
  ·rw[if_neg e,if_neg e]
   have:k∈dom c:=by
    rcases Qy.mp (show k∈j::dom c from h) with q|q
    ·exact absurd q.symm e
    ·exact q
   show (j,u)::cset (c++r) k o=_
   rw[ih this];rfl
theorem a8 (c:aa)(k:Nat)(o o':O):cset (cset c k o) k o'=cset c k o':=by
 induction c with
 |nil=>rfl
 |cons p c ih=>
  obtain⟨j,u⟩:=p
  dsimp only[cset]
  by_cases e:j=k
  ·rw[if_pos e];dsimp only[cset];rw[if_pos e,if_pos e]
  ·rw[if_neg e];dsimp only[cset];rw[if_neg e,if_neg e,ih]
structure Wf (c:aa):Prop where
 w:bX c c c
 nd:(dom c).Nodup
theorem Wf.fs {c:aa}(W:Wf c){k:Nat}{fs:List (Str×V)}(h:ae c k=some (.ns fs)):fsW c c fs fs:=by
 obtain⟨o,h1,h2⟩:=celW_iff.mp W.w _ (lD h)
 rw[h] at h1;(injection h1 with h1;subst h1)
 exact h2
theorem Wf.out {c U:aa}(W:Wf c){dk:Nat}{fs fs':List (Str×V)}(hdk:ae c dk=some (.ns fs)){f:List (Str×V)}(hU:∀j,j≠dk→j∈dom c→ae U j=ae c j)(hU2:ae U dk=some (.ns f))(hf:fsW U (cset c dk (.ns fs')) f fs') :
  bX U (cset c dk (.ns fs')) (cset c dk (.ns fs')):=by
 rw[celW_iff]
 intro p hp
 rcases gq W.nd hp with rfl|⟨h1,h2⟩
 ·exact⟨_,hU2,hf⟩
 ·obtain⟨o,h3,h4⟩:=celW_iff.mp W.w p h1
  refine⟨o,by rw[hU p.1 h2 (ah h3)];exact h3,eC (fun k hk=>by rw[ai];exact hk) h4⟩
section
variable {c:aa}{k dk g b:Nat}{C:Addr}{fs f:List (Str×V)}
noncomputable def Wcs (c:aa)(dk g b:Nat)(f:List (Str×V))(gd:List Nat):aa:=cset c dk (.ns f)++[(g,.list (gd.map fun m:Nat=>D.int m))]++[(b,.bound "list.append" g)]
theorem cx (gd:List Nat):dom (Wcs c dk g b f gd)=dom c++[g]++[b]:=by unfold Wcs;rw[af,af,ai]
theorem m0 (hg:g∉dom c)(hb:b∉dom c)(hgb:g≠b)(hdk:dk∈dom c)(gd:List Nat)(j:Nat) :
  ae (Wcs c dk g b f gd) j=if j=b then some (.bound "list.append" g) else if j=g then some (.list (gd.map fun m:Nat=>D.int m)) else if j=dk then some (.ns f) else ae c j:=by
 unfold Wcs
 rw[aD (by rw[af,ai];simp[hb,Ne.symm hgb]),aD (by rw[ai];exact hg),av hdk]
theorem m7 (W:Wf c)(hk:k∈dom c)(hg:g∉dom c)(hb:b∉dom c)(hgb:g≠b)(hdk:ae c dk=some (.ns fs))(hf:fsW (Wcs c dk g b f []) (Wcs c dk g b f []) f f):Cel (Wcs c dk g b f) k g b (dom c):=by
 have hdm:=ah hdk
 have ngd:g≠dk:=fun e=>hg (e▸hdm)
 have nbd:b≠dk:=fun e=>hb (e▸hdm)
 have get:=fun gd j=>m0 (c:=c) (f:=f) hg hb hgb hdm gd j
 refine⟨fun gd=>by rw[get,if_pos rfl],fun gd=>by rw[get,if_neg hgb,if_pos rfl],fun gd m=>?_,fun gd=>?_,fun gd j hj=>by rw[cx];simp[hj],fun gd=>by rw[cx];simp[hk]⟩
 ·unfold Wcs
  rw[aX (by rw[af];simp),d0 (by rw[ai];exact hg)]
  simp
 ·rw[celW_iff]
  have sub:∀j∈dom c,j∈dom (Wcs c dk g b f gd):=fun j hj=>by rw[cx];simp[hj]
  intro p hp
  unfold Wcs at hp
  rcases Qu.mp hp with hp|hp
  ·rcases Qu.mp hp with hp|hp
   ·rcases gq W.nd hp with rfl|⟨h1,h2⟩
    ·refine⟨.ns f,by rw[get,if_neg (Ne.symm nbd),if_neg (Ne.symm ngd),if_pos rfl],?_⟩
     have dd:∀a a',fsW (Wcs c dk g b f []) (Wcs c dk g b f []) a a'→fsW (Wcs c dk g b f gd) (Wcs c dk g b f gd) a a':=fun a a' q=>bP (fun j hj=>by rw[cx] at hj ⊢;exact hj) q
     exact dd f f hf
    ·obtain⟨o,h3,h4⟩:=celW_iff.mp W.w p h1
     have hm:=ah h3
     refine⟨o,by rw[get,if_neg (fun e:p.1=b=>hb (by rw[←e];exact hm)),if_neg (fun e:p.1=g=>hg (by rw[←e];exact hm)),if_neg h2];exact h3,eC sub h4⟩
   ·have:p=(g,.list (gd.map fun m:Nat=>D.int m)):=by simpa using hp
    subst this
    exact⟨.list (gd.map fun m:Nat=>D.int m),by rw[get,if_neg hgb,if_pos rfl],rfl⟩
  ·have:p=(b,.bound "list.append" g):=by simpa using hp
   subst this
   exact⟨.bound "list.append" g,by rw[get,if_pos rfl],rfl,rfl,by rw[cx];simp⟩
end
noncomputable def aS (s:St):Int:=match ci s.md with
 |some f=>if s.ln=f+1 then 2 else 3
 |none=>if 0<s.lv then 4 else if s.md=.Nb then 1 else 0
noncomputable def aU (s:St):List Nat:=if s.gd.getLast?=some s.ln then s.gd else s.gd++[s.ln]
theorem wl (s:St)(c:Nat)(h:∃m,s.gd.getLast?=some m∧m≤s.ln):∃m,(step s c).gd.getLast?=some m∧m≤(step s c).ln:=by
 obtain⟨m,h1,h2⟩:=h
 have hn:∃m,(nl s).gd.getLast?=some m∧m≤(nl s).ln:=by
  unfold nl;dsimp only
  split
  ·exact⟨s.ln+1,by simp,Zv _⟩
  ·exact⟨m,h1,Nat.le_succ_of_le h2⟩
 have hN:∃m,(aY s c).gd.getLast?=some m∧m≤(aY s c).ln:=by
  unfold aY
  repeat' split
  all_goals first|exact hn|exact⟨m,h1,h2⟩
 have hS:∀d f,∃m,(bm s d f c).gd.getLast?=some m∧m≤(bm s d f c).ln:=fun d f=>by
  unfold bm
  repeat' split
  all_goals first|exact hn|exact⟨m,h1,h2⟩
 unfold step
 split<;>first|exact hN|exact hS _ _|skip
 all_goals repeat' split
 all_goals first|exact hN|exact hS _ _|exact hn|exact⟨m,h1,h2⟩|exact⟨m,h1,Nat.le_succ_of_le h2⟩
theorem mV (l:List Nat):∀s:St,(∃m,s.gd.getLast?=some m∧m≤s.ln)→∃m,(scan s l).gd.getLast?=some m∧m≤(scan s l).ln:=by
 induction l with
 |nil=>exact fun s h=>h
 |cons c l ih=>exact fun s h=>ih (step s c) (wl s c h)
theorem vg (s:St)(h:∃m,s.gd.getLast?=some m∧m≤s.ln):(aS (step s 10)=0)↔(step s 10).gd.getLast?=some (step s 10).ln:=by
 obtain⟨m,h1,h2⟩:=h
 have hn:(aS (nl s)=0)↔(nl s).gd.getLast?=some (nl s).ln:=by
  unfold nl aS ci;dsimp only
  by_cases hz:s.lv=0
  ·simp[hz]
  ·have:0<s.lv:=Nat.pos_of_ne_zero hz
   simp only[hz,this,if_true,if_false,h1]
   constructor
   ·intro q;exact absurd q (by decide)
   ·intro q;have:m=s.ln+1:=by injection q
    exact (R89 h2 this).elim
 have ne:s.gd.getLast?≠some (s.ln+1):=fun q=>by simp only[h1] at q;injection q with q;exact R89 h2 q
 have hq:∀d,¬10=qc d:=fun d=>by rcases dg d with q|q<;>rw[q]<;>decide
 obtain⟨md,lv,ln,gd⟩:=s
 cases md with
 |N=>exact hn
 |Nb=>exact hn
 |C=>exact hn
 |E=>
  have e:step ⟨.E,lv,ln,gd⟩ 10=⟨.Nb,lv,ln+1,gd⟩:=rfl
  rw[e]
  unfold aS ci;dsimp only
  refine⟨fun q=>?_,fun q=>absurd q ne⟩
  split at q<;>simp at q
 |Q1 d f=>
       have e:step ⟨.Q1 d f,lv,ln,gd⟩ 10=nl ⟨.Q1 d f,lv,ln,gd⟩:=by simp[step,bm,hq d]
       rw[e];exact hn
 |Q2 d f=>
       have e:step ⟨.Q2 d f,lv,ln,gd⟩ 10=nl ⟨.Q2 d f,lv,ln,gd⟩:=by simp[step,aY,hq d]
       rw[e];exact hn
 |S1 d f=>
       have e:step ⟨.S1 d f,lv,ln,gd⟩ 10=nl ⟨.S1 d f,lv,ln,gd⟩:=by simp[step,bm,hq d]
       rw[e];exact hn
 |S1e d f=>
  have e:step ⟨.S1e d f,lv,ln,gd⟩ 10=⟨.S1 d f,lv,ln+1,gd⟩:=rfl
  rw[e]
  unfold aS ci;dsimp only
  refine⟨fun q=>?_,fun q=>absurd q ne⟩
  split at q<;>contradiction
 |S3 d k f=>
  have e:step ⟨.S3 d k f,lv,ln,gd⟩ 10=⟨.S3 d 0 f,lv,ln+1,gd⟩:=by simp[step,hq d]
  rw[e]
  unfold aS ci;dsimp only
  refine⟨fun q=>?_,fun q=>absurd q ne⟩
  split at q<;>contradiction
 |S3e d f=>
  have e:step ⟨.S3e d f,lv,ln,gd⟩ 10=⟨.S3 d 0 f,lv,ln+1,gd⟩:=rfl
  rw[e]
  unfold aS ci;dsimp only
  refine⟨fun q=>?_,fun q=>absurd q ne⟩
  split at q<;>contradiction
theorem su {l:List Nat}(h:l=[]∨l.getLast?=some 10):(aS (scan st0 l)=0)↔(scan st0 l).gd.getLast?=some (scan st0 l).ln:=by
 rcases h with rfl|h
 ·exact⟨fun _=>rfl,fun _=>rfl⟩
 ·obtain⟨a,rfl⟩:∃a,l=a++[10]:=by
   refine⟨l.dropLast,?_⟩
   have hne:l≠[]:=fun e=>by rw[e] at h;contradiction
   have:=List.dropLast_concat_getLast hne
   rw[List.getLast?_eq_some_getLast hne] at h
   injection h with h
   rw[h] at this;exact this.symm
  rw[aV]
  exact vg _ (mV a st0 ⟨0,rfl,Zv _⟩)
section
variable {P:Pm}{pr:List Nat}
theorem bQ {n i:Nat}{e:IE}{r:List IS}{l:Sl}{c c':aa}{K:F→Sg'→Prop}(v:V)(he:∀K':V→aa→Prop,K' v c'→wpE P n e l c K')(h:wpB P pr (n+1) r ⟨l.set i (some v),c'⟩ K):wpB P pr (n+2) (.asg i e::r) ⟨l,c⟩ K:=by
 exact he _ h
theorem a9 {n:Nat}{t:IE}{a b r:List IS}{l:Sl}{c c':aa}{K:F→Sg'→Prop}(q:Bool)(ht:∀K':Bool→aa→Prop,K' q c'→wpT P n t l c K')
  (h:wpB P pr n (if q then a else b) ⟨l,c'⟩ (fun f τ=>match f with | .next=>wpB P pr (n+1) r τ K|f=>K f τ)):wpB P pr (n+2) (.if_ t a b::r) ⟨l,c⟩ K:=by
 refine ht _ ⟨fun e=>?_,fun e=>?_⟩
 ·subst e;exact h
 ·subst e;exact h
theorem al {n:Nat}{σ:Sg'}{K:F→Sg'→Prop}(h:K .next σ):wpB P pr (n+1) [] σ K:=by
 exact h
theorem cg {n:Nat}{t:IE}{r:List IS}{l:Sl}{c c':aa}{K:F→Sg'→Prop}(ht:∀K':Bool→aa→Prop,K' true c'→wpT P n t l c K')
  (h:wpB P pr (n+1) r ⟨l,c'⟩ K):wpB P pr (n+2) (.assert t::r) ⟨l,c⟩ K:=by
 exact ht _ ⟨rfl,h⟩
theorem cM {c:aa}{k dk:Nat}{fs:List (Str×V)}{nm:Str}{v:V}{K:aa→Prop}(hk:ae c k=some (.inst P.C dk))(hdk:ae c dk=some (.ns fs))(hat:P.attr nm=true)(hsz:fs.length≤1000)(h:K (cset c dk (.ns (put fs nm v)))):bj P c (.obj k) nm v K:=by
 show eD (ae c k) _
 rw[hk]
 refine⟨rfl,hat,?_⟩
 rw[hdk]
 exact⟨hsz,h⟩
theorem cQ {n:Nat}{o e:IE}{nm:Str}{r:List IS}{l:Sl}{c c':aa}{K:F→Sg'→Prop}(v:V){k dk:Nat}{fs:List (Str×V)}(he:∀K':V→aa→Prop,K' v c'→wpE P n e l c K')(ho:∀K':V→aa→Prop,K' (.obj k) c'→wpE P n o l c' K')
  (hk:ae c' k=some (.inst P.C dk)) (hdk:ae c' dk=some (.ns fs)) (hat:P.attr nm=true) (hsz:fs.length≤1000)
  (h:wpB P pr (n+1) r ⟨l,cset c' dk (.ns (put fs nm v))⟩ K):wpB P pr (n+2) (.asgA o nm e::r) ⟨l,c⟩ K:=by
 exact he _ (ho _ (cM hk hdk hat hsz h))
theorem sQ {n j:Nat}{o e:IE}{nm:Str}{r:List IS}{l:Sl}{c c':aa}{K:F→Sg'→Prop}(v:V){k dk:Nat}{fs:List (Str×V)}(he:∀K':V→aa→Prop,K' v c'→wpE P n e l c K')(ho:∀K':V→aa→Prop,K' (.obj k) c'→wpE P n o l c' K')
  (hk:ae c' k=some (.inst P.C dk)) (hdk:ae c' dk=some (.ns fs)) (hat:P.attr nm=true) (hsz:fs.length≤1000)
  (h:wpB P pr (n+1) r ⟨l.set j (some v),cset c' dk (.ns (put fs nm v))⟩ K):wpB P pr (n+2) (.asgA2 o nm j e::r) ⟨l,c⟩ K:=by
 exact he _ (ho _ (cM hk hdk hat hsz h))
theorem uR {n:Nat}{o:IE}{nm:Str}{l:Sl}{c:aa}{k dk:Nat}{fs:List (Str×V)}{v:V}(ho:∀K':V→aa→Prop,K' (.obj k) c→wpE P n o l c K')
  (hk:ae c k=some (.inst P.C dk)) (hdk:ae c dk=some (.ns fs)) (hat:P.attr nm=true) (hl:look fs nm=some v) (hv:iM v=true) (K':V→aa→Prop) (h:K' v c):wpE P (n+1) (.attr o nm) l c K':=by
 refine ho _ ⟨hat,?_⟩
 show eD (ae c k) _
 rw[hk]
 refine⟨rfl,?_⟩
 rw[hdk]
 show aw (look fs nm) _
 rw[hl]
 exact⟨hv,h⟩
theorem du {n i:Nat}{nm:Str}{l:Sl}{c:aa}{k dk:Nat}{fs:List (Str×V)}{v:V}(hi:aF l i=some (.obj k))
  (hk:ae c k=some (.inst P.C dk)) (hdk:ae c dk=some (.ns fs)) (hat:P.attr nm=true) (hl:look fs nm=some v) (hv:iM v=true) (K':V→aa→Prop) (h:K' v c):wpE P (n+2) (.attr (.v i) nm) l c K':=
 uR (n:=n+1) (k:=k) (bD hi) hk hdk hat hl hv K' h
theorem uV {n i j:Nat}{e:IE}{r:List IS}{l:Sl}{c c':aa}{K:F→Sg'→Prop}(v:V)(he:∀K':V→aa→Prop,K' v c'→wpE P n e l c K')(h:wpB P pr (n+1) r ⟨(l.set i (some v)).set j (some v),c'⟩ K):wpB P pr (n+2) (.asg2 i j e::r) ⟨l,c⟩ K:=by
 exact he _ h
theorem nj {n i j:Nat}{a b:IE}{r:List IS}{l:Sl}{c:aa}{K:F→Sg'→Prop}(u v:D)(ha:∀K':V→aa→Prop,K' (.d u) c→wpE P n a l c K')(hb:∀K':V→aa→Prop,K' (.d v) c→wpE P n b l c K')
  (h:wpB P pr (n+1) r ⟨(l.set j (some (.d v))).set i (some (.d u)),c⟩ K):wpB P pr (n+2) (.unp2 i j a b::r) ⟨l,c⟩ K:=by
 exact ha _ (hb _ ⟨⟨_,_,rfl,rfl⟩,h⟩)
theorem vH {n i b j:Nat}{l:Sl}{c:aa}{xs:List D}(hi:aF l i=some (.obj j))(hj:ae c j=some (.list xs))(hb:b∉dom c)(K':V→aa→Prop)(h:K' (.obj b) (c++[(b,.bound "list.append" j)])):wpE P (n+2) (.bnd (.v i) b) l c K':=by
 refine bD (P:=P) (n:=n) hi (fun u c1=>gy u fun j=>cG (ae c1 j) fun _=>b∉dom c1∧K' (.obj b) (c1++[(b,.bound "list.append" j)])) ?_
 show cG (ae c j) _
 rw[hj]
 exact⟨hb,h⟩
theorem ph {c:aa}{g:Nat}{gd:List Nat}{m:Nat}(hg:ae c g=some (.list (gd.map fun m:Nat=>D.int m)))(hm:gd.getLast?=some m)(hl:gd.length≤big){K:D→Prop}(h:K (.int m)):ef c (.obj g) (.d (.int (-1))) K:=by
 have hne:gd≠[]:=fun e=>by rw[e] at hm;contradiction
 have hpos:=List.length_pos_iff.mpr hne
 have hs:b8 c (.obj g)=some (false,gd.map fun m:Nat=>D.int m):=by
  show (match ae c g with|some (.list xs)=>some (false,xs)|_=>none)=_
  rw[hg]
 show aw (b8 c (.obj g)) _
 rw[hs]
 refine⟨by rw[Zu];exact hl,gd.length-1,.int m,?_,?_,h⟩
 ·rw[Zu]
  unfold seqIndex?
  dsimp only[show ((-1:Int)<0) from by decide,if_true]
  rw[if_pos (by simp only[Xv,decide_eq_true_eq];exact R38 hpos)]
  congr 1;exact R26
 ·rw[Qp] at hm
  rw[Xy,hm];rfl
theorem vD (U U':aa)(d:D):vW U U' (.d d) (.d d):=.inl ⟨rfl,trivial⟩
theorem b6 {n:Nat}{op:CmpOp}{a b:IE}{l:Sl}{c:aa}{K:Bool→aa→Prop}(u v:V)(ha:∀K':V→aa→Prop,K' u c→wpE P n a l c K')(hb:∀K':V→aa→Prop,K' v c→wpE P n b l c K')(h:fA c op u v (fun r=>K r c)):wpT P (n+1) (.cmp op a b) l c K:=by
 exact ha _ (hb _ h)
theorem nv {n:Nat}{op:CmpOp}{a b:IE}{l:Sl}{c:aa}{K:V→aa→Prop}(u v:V)(ha:∀K':V→aa→Prop,K' u c→wpE P n a l c K')(hb:∀K':V→aa→Prop,K' v c→wpE P n b l c K')(h:fA c op u v (fun r=>K (.d (.bool r)) c)):wpE P (n+1) (.cmp op a b) l c K:=by
 exact ha _ (hb _ h)
theorem bd {n:Nat}{a b:IE}{l:Sl}{c:aa}{K:V→aa→Prop}(u v:V)(ha:∀K':V→aa→Prop,K' u c→wpE P n a l c K')(hb:∀K':V→aa→Prop,K' v c→wpE P n b l c K')(h:ef c u v (fun d=>K (.d d) c)):wpE P (n+1) (.item a b) l c K:=by
 exact ha _ (hb _ h)
noncomputable abbrev nSl:Str:=Qq "study_level"
noncomputable abbrev cV:Str:=Qq "code"
noncomputable abbrev nGl:Str:=Qq "goodlines"
noncomputable abbrev nCt:Str:=Qq "continuation"
noncomputable def aR (l:List Nat):List D:=l.map fun m:Nat=>D.int m
noncomputable def trS (x:Str):Str:=⟨x.cps.map tr⟩
noncomputable def fin (x:Str):St:=scan st0 ((sg x).map tr)
noncomputable def studied (fs:List (Str×V))(x:Str):List (Str×V):=
 put (put (put fs nSl (.d (.int 1))) nGl (.d (.lst (aR (aU (fin x)))))) nCt (.d (.int (aS (fin x))))
structure TextOk (x:Str):Prop where
 ascii:∀ch∈sg x,ch<128
 ends:sg x=[]∨(sg x).getLast?=some 10
 len:(sg x).length+5≤big
structure AttrOk (P:Pm):Prop where
 sl:P.attr nSl=true
 co:P.attr cV=true
 gl:P.attr nGl=true
 ct:P.attr nCt=true
theorem eT:cV≠nSl:=by decide +kernel
theorem dw (fs:List (Str×V))(x:Str)(v:V):(put fs x v).length≤fs.length+1:=by
 rw[gF];split<;>omega
theorem aE (x:Str):(sg x).length=x.length:=by simp[sg,Str.length]
theorem dp {x y z:Str}(hy:y.length≠0)(h:(sg z).length≤(sg y).length){m:Nat}(hx:x.length≤m):(Txt.replace x y z).length≤m:=by
 have:=bU (x:=x) hy h
 rw[aE,aE] at this;exact R98 hx this
theorem jp (x:Str):sg (trS x)=(sg x).map tr:=by simp[sg,trS]
theorem uP (c:Nat):tr c=10∨tr c=34∨tr c=35∨tr c=39∨tr c=40∨tr c=41∨tr c=92∨tr c=120:=by
 unfold tr
 split
 ·simp
 split
 ·simp
 split
 ·rename_i h;rcases h with rfl|rfl|rfl|rfl|rfl<;>simp
 ·simp
structure SqOk (y:Str)(s:St):Prop where
 last:sg y=[]∨(sg y).getLast?=some 10
 signs:vL y
 len:(sg y).length+5≤big
 scan:scan st0 (sg y)=s
theorem zh {x:Str}(T:TextOk x):SqOk (cJ (trS x)) (fin x):=by
 have hl:sg (trS x)=[]∨(sg (trS x)).getLast?=some 10:=by
  rw[jp]
  rcases T.ends with h|h
  ·exact .inl (by rw[h];rfl)
  ·exact .inr (by rw[List.getLast?_map,h];rfl)
 have hn:(sg (trS x)).getLast?≠some 120:=by
  rcases hl with h|h<;>rw[h]<;>simp
 have hlen:(sg (cJ (trS x))).length≤(sg (trS x)).length:=by
  unfold cJ
  refine Zk (bU (by decide) (by decide)) (Zk (bU (by decide) (by decide)) (Zk (bU (by decide) (by decide)) (Zk (bU (by decide) (by decide)) (bU (by decide) (by decide)))))
 have hlen2:(sg (trS x)).length=(sg x).length:=by rw[jp,Zu]
 refine⟨?_,fun c hc=>?_,by have:=T.len;exact R97 hlen hlen2 this,by rw[kY _ hn,jp];rfl⟩
 ·rcases hl with h|h
  ·refine .inl (List.length_eq_zero_iff.mp ?_)
   rw[h] at hlen;exact Nat.le_zero.mp hlen
  ·exact .inr (by rw[km _ hn,h])
 ·rcases lP hc with h|h|h
  ·simp[h]
  ·simp[h]
  ·rw[jp] at h
   obtain⟨a,_,rfl⟩:=List.mem_map.mp h
   exact uP a
theorem wn {y:Str}{s:St}{ct:Int}(hO:iq y (sg y).length s ct):aS s=if (ct≠2∧ct≠3∧0<s.lv) then 4 else ct:=by
 rcases hO with ⟨h,e⟩|⟨_,_,f,h,e⟩
 ·have hm:=h.2.2.2 rfl
  have ho:ci s.md=none:=by rcases hm with q|q<;>rw[q]<;>rfl
  unfold aS
  rw[ho]
  dsimp only
  rcases hm with q|q
  ·rw[q,if_neg (fun q=>by cases q.1)] at e
   subst e
   rw[q]
   by_cases hz:0<s.lv
   ·rw[if_pos hz,if_pos ⟨by decide,by decide,hz⟩]
   ·rw[if_neg hz,if_neg (show ¬Md.N=Md.Nb by simp),if_neg (fun q=>hz q.2.2)]
  ·rw[q,if_pos ⟨rfl,rfl⟩] at e
   subst e
   rw[q]
   by_cases hz:0<s.lv
   ·rw[if_pos hz,if_pos ⟨by decide,by decide,hz⟩]
   ·rw[if_neg hz,if_pos (show Md.Nb=Md.Nb from rfl),if_neg (fun q=>hz q.2.2)]
 ·unfold aS
  rw[h]
  dsimp only
  rw[←e,if_neg]
  intro q
  rw[e] at q
  split at q
  ·exact q.1 rfl
  ·exact q.2.1 rfl
noncomputable def vz:List IS:=[
 .if_ (.and (.cmp .NotEq (.v 2) (.g (.d (.int 2)))) (.and (.cmp .NotEq (.v 2) (.g (.d (.int 3)))) (.cmp .Gt (.v 3) (.c (.int 0))))) [
  .asg 2 (.g (.d (.int 4)))] [],
 .asgA (.v 0) (Qq "continuation") (.v 2),
 .assert (.cmp .Eq (.cmp .Eq (.v 2) (.g (.d (.int 0)))) (.cmp .Eq (.item (.v 5) (.c (.int (-1)))) (.v 4))),
 .if_ (.cmp .NotEq (.item (.v 5) (.c (.int (-1)))) (.v 4)) [
  .expr (.call (.v 6) [(.v 4)] none)] []]
theorem oo {k dk g b n:Nat}{c:aa}{fs f2:List (Str×V)}{x y:Str}(A:AttrOk P)(W:Wf c)(hk:ae c k=some (.inst P.C dk))(hdk:ae c dk=some (.ns fs))(hsz:fs.length≤900)
  (hg:g∉dom c) (hb:b∉dom c) (hgb:g≠b) (hf2:put (put fs nSl (.d (.int 1))) nGl (.obj g)=f2) (T:TextOk x) (hsc:scan st0 (sg y)=fin x) (hlast:sg y=[]∨(sg y).getLast?=some 10) (hlen:(sg y).length+5≤big)
  {s:St} {ct:Int} {r:List (Option V)} (hO:iq y (sg y).length s ct) (hs:s=scan st0 (sg y)) {K:V→aa→Prop} (hK:K (.d .none) (cset c dk (.ns (studied fs x)))) :
  wpB P (dom c) (n+100) vz ⟨slots k g b y ct s.lv s.ln (sg y).length (sg y).length r,Wcs c dk g b f2 s.gd⟩ (fun f τ=>∃v' c',vW τ.c c' (eg f) v'∧bX τ.c c' c'∧(∀j∈dom c,j∈dom c')∧K v' c'):=by
 have kne:k≠dk:=fun e=>by rw[e,hdk] at hk;simp at hk
 have kd:=ah hk
 have dkd:=ah hdk
 have ngk:k≠g:=fun e=>hg (e▸kd)
 have ngd:dk≠g:=fun e=>hg (e▸dkd)
 have nbk:k≠b:=fun e=>hb (e▸kd)
 have nbd:dk≠b:=fun e=>hb (e▸dkd)
 have hce:=wn hO
 have get:=fun (f:List (Str×V)) gd j=>m0 (c:=c) (f:=f) hg hb hgb dkd gd j
 have hgd:s.gd.length≤big:=by
  rw[hs];have:=sd st0 (sg y);have h3:st0.gd.length=1:=rfl;exact R96 hlen this h3
 obtain⟨m,hm1,hm2⟩:=mV (sg y) st0 ⟨0,rfl,Zv _⟩
 rw[←hs] at hm1 hm2
 have hel:=su hlast
 rw[←hs] at hel
 unfold vz
 have tail:∀n',wpB P (dom c) (n'+90) [
   .asgA (.v 0) (Qq "continuation") (.v 2),
   .assert (.cmp .Eq (.cmp .Eq (.v 2) (.g (.d (.int 0)))) (.cmp .Eq (.item (.v 5) (.c (.int (-1)))) (.v 4))),
   .if_ (.cmp .NotEq (.item (.v 5) (.c (.int (-1)))) (.v 4)) [
    .expr (.call (.v 6) [(.v 4)] none)] []] ⟨slots k g b y (aS s) s.lv s.ln (sg y).length (sg y).length r,Wcs c dk g b f2 s.gd⟩ (fun f τ=>∃v' c',vW τ.c c' (eg f) v'∧bX τ.c c' c'∧(∀j∈dom c,j∈dom c')∧K v' c'):=by
  intro n'
  have hf2l:f2.length≤1000:=by
   rw[←hf2]
   have h1:=dw (put fs nSl (.d (.int 1))) nGl (.obj g)
   have h2:=dw fs nSl (.d (.int 1))
   exact R95 hsz h1 h2
  refine cQ (n:=n'+88) (.d (.int (aS s))) (k:=k) (dk:=dk) (fs:=f2) (c':=Wcs c dk g b f2 s.gd) (fun K' h=>h) (fun K' h=>h)
   (by rw[get,if_neg nbk,if_neg ngk,if_neg kne];exact hk) (by rw[get,if_neg nbd,if_neg ngd,if_pos rfl]) A.ct hf2l ?_
  have e3:cset (Wcs c dk g b f2 s.gd) dk (.ns (put f2 nCt (.d (.int (aS s)))))=Wcs c dk g b (put f2 nCt (.d (.int (aS s)))) s.gd:=by
   unfold Wcs
   rw[aX (by rw[af,ai];simp[dkd]),aX (by rw[ai];exact dkd),a8]
  rw[e3]
  generalize hf3:put f2 nCt (.d (.int (aS s)))=f3
  have f3w:∀U U',(∀j∈dom c,j∈dom U')→g∈dom U'→fsW U U' f3 f3:=fun U U' h1 h2=>by
   rw[←hf3,←hf2]
   have v1:vW U U' (.obj g) (.obj g):=.inl ⟨rfl,h2⟩
   have v2:vW U U' (.d (.int 1)) (.d (.int 1)):=.inl ⟨rfl,trivial⟩
   have v3:vW U U' (.d (.int (aS s))) (.d (.int (aS s))):=.inl ⟨rfl,trivial⟩
   exact aB v3 (aB v1 (aB v2 (bP h1 (W.fs hdk))))
  have CE:Cel (Wcs c dk g b f3) k g b (dom c):=m7 W kd hg hb hgb hdk (f3w _ _ (fun j hj=>by rw[cx];simp[hj]) (by rw[cx];simp))
  have fine:∀gd,gd=aU s→∃v' c',vW (Wcs c dk g b f3 gd) c' (.d .none) v'∧bX (Wcs c dk g b f3 gd) c' c'∧(∀j∈dom c,j∈dom c')∧K v' c':=by
   intro gd hgd'
   refine⟨.d .none,cset c dk (.ns (studied fs x)),.inl ⟨rfl,trivial⟩,?_,fun j hj=>by rw[ai];exact hj,hK⟩
   refine W.out hdk (f:=f3) (fun j h1 h2=>?_) (by rw[get,if_neg nbd,if_neg ngd,if_pos rfl]) ?_
   ·rw[get,if_neg (fun e:j=b=>hb (by rw[←e];exact h2)),if_neg (fun e:j=g=>hg (by rw[←e];exact h2)),if_neg h1]
   ·rw[←hf3,←hf2]
    unfold studied
    have hfin:fin x=s:=by rw[hs,hsc]
    rw[hfin]
    have v1:vW (Wcs c dk g b (put (put (put fs nSl (.d (.int 1))) nGl (.obj g)) nCt (.d (.int (aS s)))) gd) (cset c dk (.ns (put (put (put fs nSl (.d (.int 1))) nGl (.d (.lst (aR (aU s))))) nCt (.d (.int (aS s)))))) (.obj g) (.d (.lst (aR (aU s)))):=
     .inr ⟨g,aR (aU s),rfl,by rw[get,if_neg hgb,if_pos rfl,hgd'];rfl,rfl,by rw[ai];exact hg⟩
    refine aB (vD _ _ _) (aB v1 (aB (vD _ _ _) (bP (fun j hj=>by rw[ai];exact hj) (W.fs hdk))))
  have itl:∀n'' (K':V→aa→Prop),K' (.d (.int m)) (Wcs c dk g b f3 s.gd)→wpE P (n''+2) (.item (.v 5) (.c (.int (-1)))) (slots k g b y (aS s) s.lv s.ln (sg y).length (sg y).length r) (Wcs c dk g b f3 s.gd) K':=fun n'' K' h=>
   bd (n:=n''+1) (.obj g) (.d (.int (-1))) (fun K' h=>h) (fun K' h=>h) (ph (CE.g_ s.gd) hm1 hgd h)
  refine cg (n:=n'+87) (c':=Wcs c dk g b f3 s.gd) (fun K' h=>?_) ?_
  ·refine b6 (n:=n'+86) (.d (.bool (aS s==0))) (.d (.bool ((m:Int)==s.ln))) (fun K' h=>h) (fun K' h=>nv (n:=n'+85) (.d (.int m)) (.d (.int s.ln)) (itl (n'+83)) (fun K' h=>h) h) ?_
   have:((aS s==0)==((m:Int)==s.ln))=true:=by
    rw[hm1] at hel
    by_cases hme:m=s.ln
    ·rw[hel.mpr (by rw[hme])]
     simp[hme]
    ·have h1:(aS s==0)=false:=beq_eq_false_iff_ne.mpr fun e=>hme (by have:=hel.mp e;injection this)
     have h2:((m:Int)==s.ln)=false:=beq_eq_false_iff_ne.mpr fun e=>hme (R94 e)
     rw[h1,h2];rfl
   show K' ((aS s==0)==((m:Int)==s.ln)) _
   rw[this];exact h
  refine a9 (n:=n'+86) (c':=Wcs c dk g b f3 s.gd) (decide (m≠s.ln)) (fun K' h=>?_) ?_
  ·refine b6 (n:=n'+85) (.d (.int m)) (.d (.int s.ln)) (itl (n'+83)) (fun K' h=>h) ?_
   show K' ((m:Int) != s.ln) _
   have:((m:Int) != s.ln)=decide (m≠s.ln):=by
    by_cases hme:m=s.ln
    ·simp[hme]
    ·have h2:((m:Int) != s.ln)=true:=bne_iff_ne.mpr fun e=>hme (R94 e)
     rw[h2];simp[hme]
   rw[this];exact h
  ·by_cases hme:m=s.ln
   ·rw[if_neg (by simp[hme])]
    refine al (al (fine _ ?_))
    unfold aU
    rw[hm1,hme,if_pos rfl]
   ·rw[if_pos (by simp[hme])]
    refine j5 (n:=n'+81) CE (m:=s.ln) rfl rfl hgd (al (fine _ ?_))
    unfold aU
    rw[hm1,if_neg (fun q=>hme (by injection q))]
 have hq:∀n' (K':Bool→aa→Prop) cc,K' (decide (ct≠2∧ct≠3∧0<s.lv)) cc→wpT P (n'+20) (.and (.cmp .NotEq (.v 2) (.g (.d (.int 2)))) (.and (.cmp .NotEq (.v 2) (.g (.d (.int 3)))) (.cmp .Gt (.v 3) (.c (.int 0))))) (slots k g b y ct s.lv s.ln (sg y).length (sg y).length r) cc K':=by
  intro n' K' cc h
  conv=>whnf
  refine⟨fun h1=>?_,fun h1=>?_⟩
  ·have h1:ct=2:=bne_eq_false_iff_eq.mp h1
   rw[decide_eq_false (fun q=>q.1 h1)] at h;exact h
  have h1:ct≠2:=bne_iff_ne.mp h1
  conv=>whnf
  refine⟨fun h2=>?_,fun h2=>?_⟩
  ·have h2:ct=3:=bne_eq_false_iff_eq.mp h2
   rw[decide_eq_false (fun q=>q.2.1 h2)] at h;exact h
  have h2:ct≠3:=bne_iff_ne.mp h2
  show K' (decide ((0:Int)<s.lv)) cc
  have:decide ((0:Int)<s.lv)=decide (ct≠2∧ct≠3∧0<s.lv):=by
   by_cases hz:0<s.lv
   ·rw[decide_eq_true (R93 hz),decide_eq_true ⟨h1,h2,hz⟩]
   ·rw[decide_eq_false (R92 hz),decide_eq_false (fun q=>hz q.2.2)]
  rw[this];exact h
 refine a9 (n:=n+98) (c':=Wcs c dk g b f2 s.gd) _ (fun K' h=>hq (n+78) K' _ h) ?_
 by_cases hz:ct≠2∧ct≠3∧0<s.lv
 ·rw[if_pos (by rw[decide_eq_true hz])]
  rw[if_pos hz] at hce
  refine ao (n:=n+96) (.d (.int 4)) (fun K' h=>h) (al ?_)
  have:=tail (n+9)
  rw[hce] at this
  exact this
 ·rw[if_neg (by rw[decide_eq_false hz];decide)]
  rw[if_neg hz] at hce
  refine al (n:=n+97) ?_
  have:=tail (n+9)
  rw[hce] at this
  exact this
theorem rx {k dk g b td n:Nat}{c:aa}{fs:List (Str×V)}{x:Str}(A:AttrOk P)(htd:td=P.td)(htr:P.tr=tr)(W:Wf c)(hk:ae c k=some (.inst P.C dk))(hdk:ae c dk=some (.ns fs))(hsz:fs.length≤900)
  (hlv:look fs nSl=some (.d (.int 0))) (hco:look fs cV=some (.d (.str x))) (T:TextOk x) (hg:g∉dom c) (hb:b∉dom c) (hgb:g≠b) {K:V→aa→Prop} (hK:K (.d .none) (cset c dk (.ns (studied fs x)))) :
  wpB P (dom c) (n+130) (dX td g b) ⟨start [.obj k] 12,c⟩ (fun f τ=>∃v' c',vW τ.c c' (eg f) v'∧bX τ.c c' c'∧(∀j∈dom c,j∈dom c')∧K v' c'):=by
 have kne:k≠dk:=fun e=>by rw[e,hdk] at hk;simp at hk
 have kd:=ah hk
 have dkd:=ah hdk
 have hxb:x.length≤big:=by have:=T.len;rw[aE] at this;exact R63 this
 unfold dX
 refine a9 (n:=n+128) false (c':=c) (fun K' h=>?_) (al ?_)
 ·rw[gf];exact du (n:=n+125) rfl hk hdk A.sl hlv rfl _ h
 refine cQ (n:=n+127) (.d (.int 1)) (c':=c) (k:=k) (fun K' h=>h) (fun K' h=>h) hk hdk A.sl (R91 hsz) ?_
 have hk1:ae (cset c dk (.ns (put fs nSl (.d (.int 1))))) k=some (.inst P.C dk):=by rw[av dkd,if_neg kne];exact hk
 have hdk1:ae (cset c dk (.ns (put fs nSl (.d (.int 1))))) dk=some (.ns (put fs nSl (.d (.int 1)))):=by rw[av dkd,if_pos rfl]
 refine ao (n:=n+126) (.d (.str x)) (fun K' h=>du (n:=n+124) rfl hk1 hdk1 A.co (by rw[am,if_neg eT];exact hco) rfl _ h) ?_
 have htx:(⟨x.cps.map P.tr⟩:Str)=trS x:=by rw[htr];rfl
 refine ao (n:=n+125) (.d (.str (trS x))) (fun K' h=>⟨htd,T.ascii,hxb,by rw[htx];exact h⟩) ?_
 have l0:(trS x).length≤big:=by show (x.cps.map tr).size≤big;rw[Array.size_map];exact hxb
 have l1:=dp (y:=X 8) (z:=X 1) (by decide) (by decide) l0
 have l2:=dp (y:=X 4) (z:=X 1) (by decide) (by decide) l1
 have l3:=dp (y:=X 2) (z:=X 1) (by decide) (by decide) l2
 have l4:=dp (y:=X 2) (z:=X 1) (by decide) (by decide) l3
 refine ao (n:=n+124) (.d (.str _)) (fun K' h=>⟨l0,by decide,by decide,h⟩) ?_
 refine ao (n:=n+123) (.d (.str _)) (fun K' h=>⟨l1,by decide,by decide,h⟩) ?_
 refine ao (n:=n+122) (.d (.str _)) (fun K' h=>⟨l2,by decide,by decide,h⟩) ?_
 refine ao (n:=n+121) (.d (.str _)) (fun K' h=>⟨l3,by decide,by decide,h⟩) ?_
 refine ao (n:=n+120) (.d (.str (cJ (trS x)))) (fun K' h=>⟨l4,by decide,by decide,h⟩) ?_
 have SQ:=zh T
 generalize cJ (trS x)=y at SQ ⊢
 have hyb:y.length≤big:=by have:=SQ.len;rw[aE] at this;exact R63 this
 refine ao (n:=n+119) (.d (.int 0)) (fun K' h=>h) ?_
 refine uV (n:=n+118) (.d (.int 0)) (fun K' h=>h) ?_
 have d1:dom (cset c dk (.ns (put fs nSl (.d (.int 1)))))=dom c:=ai ..
 have hg1:g∉dom (cset c dk (.ns (put fs nSl (.d (.int 1))))):=by rw[d1];exact hg
 have ngk:k≠g:=fun e=>hg (e▸kd)
 have ngd:dk≠g:=fun e=>hg (e▸dkd)
 refine sQ (n:=n+117) (.obj g) (k:=k) (dk:=dk) (fs:=put fs nSl (.d (.int 1))) (c':=cset c dk (.ns (put fs nSl (.d (.int 1))))++[(g,.list [.int 0])]) (fun K' h=>⟨by decide,hg1,h⟩) (fun K' h=>h)
  (by rw[aD hg1,if_neg ngk];exact hk1) (by rw[aD hg1,if_neg ngd];exact hdk1) A.gl (by have:=dw fs nSl (.d (.int 1));exact R90 hsz this) ?_
 have e2:cset (cset c dk (.ns (put fs nSl (.d (.int 1))))++[(g,.list [.int 0])]) dk (.ns (put (put fs nSl (.d (.int 1))) nGl (.obj g)))=cset c dk (.ns (put (put fs nSl (.d (.int 1))) nGl (.obj g)))++[(g,.list [.int 0])]:=by
  rw[aX (by rw[d1];exact dkd),a8]
 rw[e2]
 generalize hf2:put (put fs nSl (.d (.int 1))) nGl (.obj g)=f2
 have d2:dom (cset c dk (.ns f2))=dom c:=ai ..
 refine bQ (n:=n+116) (.obj b) (c':=Wcs c dk g b f2 [0]) (fun K' h=>vH (n:=n+114) (xs:=[.int 0]) rfl (by rw[aD (by rw[d2];exact hg),if_pos rfl]) (by rw[af,d2];simp[hb,Ne.symm hgb]) _ h) ?_
 refine nj (n:=n+115) (.int 0) (.int ((sg y).length:Nat)) (fun K' h=>h) (fun K' h=>⟨hyb,by rw[←aE];exact h⟩) ?_
 have vok:∀(U:aa) (v:D),vW U U (.d v) (.d v):=fun U v=>.inl ⟨rfl,trivial⟩
 have f2w:∀U U',(∀j∈dom c,j∈dom U')→g∈dom U'→fsW U U' f2 f2:=fun U U' h1 h2=>by
  rw[←hf2]
  have v1:vW U U' (.obj g) (.obj g):=.inl ⟨rfl,h2⟩
  have v2:vW U U' (.d (.int 1)) (.d (.int 1)):=.inl ⟨rfl,trivial⟩
  exact aB v1 (aB v2 (bP h1 (W.fs hdk)))
 have CE:Cel (Wcs c dk g b f2) k g b (dom c):=m7 W kd hg hb hgb hdk (f2w _ _ (fun j hj=>by rw[cx];simp[hj]) (by rw[cx];simp))
 have hl:∀i c,(sg y)[i]?=some c→i+1=(sg y).length→c=10:=fun i c' h1 h2=>by
  rcases SQ.last with q|q
  ·rw[q] at h1;simp at h1
  ·rw[Qp,←h2,Nat.add_sub_cancel,h1] at q
   injection q
 have hend:sg y≠[]→(sg y)[(sg y).length-1]?=some 10:=fun h1=>by
  rcases SQ.last with q|q
  ·exact absurd q h1
  ·rw[←Qp];exact q
 refine dn (n:=n+115) (sK (n:=n+15) CE hl hend SQ.signs SQ.len (r:=[none,none,none,none]) rfl fun s ct r hO hs=>?_)
 exact oo A W hk hdk hsz hg hb hgb hf2 T (SQ.scan) SQ.last SQ.len hO hs hK
end
section
variable {P:Pm}{pr:List Nat}
theorem Wf.set {c:aa}(W:Wf c){dk:Nat}{fs fs':List (Str×V)}(hdk:ae c dk=some (.ns fs))(hf:fsW (cset c dk (.ns fs')) (cset c dk (.ns fs')) fs' fs'):Wf (cset c dk (.ns fs')):=
 ⟨W.out hdk (f:=fs') (fun j h1 h2=>by rw[av (ah hdk),if_neg h1]) (by rw[av (ah hdk),if_pos rfl]) hf,by rw[ai];exact W.nd⟩
noncomputable def jA:List IS:=[
 .asgA (.v 0) (Qq "indentwidth") (.v 1),
 .asgA (.v 0) (Qq "tabwidth") (.v 2)]
noncomputable def nZ:List IS:=[
 .assert (.or (.cmp .Eq (.call (.g (.bi .len)) [(.v 1)] none) (.c (.int 0))) (.cmp .Eq (.item (.v 1) (.c (.int (-1)))) (.c (.str ⟨#[10]⟩)))),
 .asgA (.v 0) (Qq "code") (.v 1),
 .asgA (.v 0) (Qq "study_level") (.c (.int 0))]
noncomputable def fs0:List (Str×V):=[(Qq "indentwidth",.d (.int 4)),(Qq "tabwidth",.d (.int 8))]
def EndP (c:aa)(K:V→aa→Prop):F→Sg'→Prop:=fun f τ=>∃v' c',vW τ.c c' (eg f) v'∧bX τ.c c' c'∧(∀j∈dom c,j∈dom c')∧K v' c'
theorem EndP.same {c c':aa}{K:V→aa→Prop}{f:F}{l:Sl}(W:Wf c')(hd:∀j∈dom c,j∈dom c'){d:D}(hr:eg f=.d d)(h:K (.d d) c'):EndP c K f ⟨l,c'⟩:=
 ⟨.d d,c',by rw[hr];exact vD _ _ _,W.w,hd,h⟩
theorem uO {k dk n:Nat}{c:aa}(h1:P.attr (Qq "indentwidth")=true) (h2:P.attr (Qq "tabwidth")=true) (W:Wf c) (hk:ae c k=some (.inst P.C dk)) (hdk:ae c dk=some (.ns []))
  {K:V→aa→Prop} (hK:K (.d .none) (cset c dk (.ns fs0))):wpB P (dom c) (n+10) jA ⟨start [.obj k,.d (.int 4),.d (.int 8)] 0,c⟩ (EndP c K):=by
 have kne:k≠dk:=fun e=>by rw[e,hdk] at hk;simp at hk
 have dkd:=ah hdk
 unfold jA
 refine cQ (n:=n+8) (.d (.int 4)) (c':=c) (k:=k) (fun K' h=>h) (fun K' h=>h) hk hdk h1 (by decide) ?_
 refine cQ (n:=n+7) (.d (.int 8)) (c':=cset c dk (.ns (put [] (Qq "indentwidth") (.d (.int 4))))) (k:=k) (dk:=dk) (fs:=put [] (Qq "indentwidth") (.d (.int 4))) (fun K' h=>h) (fun K' h=>h)
  (by rw[av dkd,if_neg kne];exact hk) (by rw[av dkd,if_pos rfl]) h2 (by decide) ?_
 rw[a8]
 have e:put (put [] (Qq "indentwidth") (V.d (.int 4))) (Qq "tabwidth") (V.d (.int 8))=fs0:=by
  unfold fs0
  dsimp only[put]
  rw[if_neg (by decide +kernel)]
 rw[e]
 exact al (EndP.same (W.set hdk ⟨rfl,vD _ _ _,rfl,vD _ _ _,trivial⟩) (fun j hj=>by rw[ai];exact hj) rfl hK)
noncomputable def setd (fs:List (Str×V))(x:Str):List (Str×V):=put (put fs cV (.d (.str x))) nSl (.d (.int 0))
theorem xz {k dk n:Nat}{c:aa}{fs:List (Str×V)}{x:Str}(A:AttrOk P)(W:Wf c)(hk:ae c k=some (.inst P.C dk))(hdk:ae c dk=some (.ns fs))(hsz:fs.length≤900)(T:TextOk x)
  {K:V→aa→Prop} (hK:K (.d .none) (cset c dk (.ns (setd fs x)))):wpB P (dom c) (n+20) nZ ⟨start [.obj k,.d (.str x)] 0,c⟩ (EndP c K):=by
 have kne:k≠dk:=fun e=>by rw[e,hdk] at hk;simp at hk
 have dkd:=ah hdk
 have hxb:x.length≤big:=by have:=T.len;rw[aE] at this;exact R63 this
 unfold nZ
 refine cg (n:=n+18) (c':=c) (fun K' h=>?_) ?_
 ·conv=>whnf
  refine⟨hxb,?_⟩
  conv=>whnf
  refine⟨fun q=>h,fun q=>?_⟩
  have hne:sg x≠[]:=fun e=>by
   have:x.length=0:=by rw[←aE,e];rfl
   have q':((x.length:Int)==0)=false:=q
   rw[this] at q';contradiction
  have hlast:(sg x).getLast?=some 10:=T.ends.resolve_left hne
  have hpos:0<x.length:=by rw[←aE];exact List.length_pos_iff.mpr hne
  conv=>whnf
  refine⟨show -(x.length:Int)≤-1 by exact R100 hpos,show (-1:Int)<x.length by exact R99,hxb,?_⟩
  show K' (Txt.item x (-1)==⟨#[10]⟩) c
  rw[pM hlast]
  exact h
 refine cQ (n:=n+17) (.d (.str x)) (c':=c) (k:=k) (fun K' h=>h) (fun K' h=>h) hk hdk A.co (R91 hsz) ?_
 refine cQ (n:=n+16) (.d (.int 0)) (c':=cset c dk (.ns (put fs cV (.d (.str x))))) (k:=k) (dk:=dk) (fs:=put fs cV (.d (.str x))) (fun K' h=>h) (fun K' h=>h)
  (by rw[av dkd,if_neg kne];exact hk) (by rw[av dkd,if_pos rfl]) A.sl (by have:=dw fs cV (.d (.str x));exact R90 hsz this) ?_
 rw[a8]
 refine al (EndP.same (W.set hdk ?_) (fun j hj=>by rw[ai];exact hj) rfl hK)
 exact aB (vD _ _ _) (aB (vD _ _ _) (bP (fun j hj=>by rw[ai];exact hj) (W.fs hdk)))
theorem kN {k dk g b td n:Nat}{c:aa}{fs:List (Str×V)}(A:AttrOk P)(W:Wf c)(hk:ae c k=some (.inst P.C dk))(hdk:ae c dk=some (.ns fs))
  (hlv:look fs nSl=some (.d (.int 1))) {K:V→aa→Prop} (hK:K (.d .none) c):wpB P (dom c) (n+130) (dX td g b) ⟨start [.obj k] 12,c⟩ (EndP c K):=by
 unfold dX
 refine a9 (n:=n+128) true (c':=c) (fun K' h=>?_) ?_
 ·rw[gf];exact du (n:=n+125) rfl hk hdk A.sl hlv rfl _ h
 ·exact⟨.d .none,c,vD _ _ _,W.w,fun _ h=>h,hK⟩
end
noncomputable abbrev nS1:Str:=Qq "_study1"
structure ParAt (C:Addr)(c:aa)(k dk:Nat)(fs:List (Str×V)):Prop where
 w:Wf c
 k_:ae c k=some (.inst C dk)
 d_:ae c dk=some (.ns fs)
 no:look fs nS1=none
structure Fresh (fs:List (Str×V))(x:Str):Prop where
 sl:look fs nSl=some (.d (.int 0))
 co:look fs cV=some (.d (.str x))
 t:TextOk x
 len:fs.length≤900
structure Read (fs:List (Str×V))(s:St):Prop where
 sl:look fs nSl=some (.d (.int 1))
 gl:look fs nGl=some (.d (.lst (aR (aU s))))
 ct:look fs nCt=some (.d (.int (aS s)))
noncomputable def dU (C:Addr)(g b:Nat):Spec:=fun vs c K=>∃k dk fs,vs=[.obj k]∧ParAt C c k dk fs∧
 ((look fs nSl=some (.d (.int 1))∧K (.d .none) c)∨∃x,Fresh fs x∧g∉dom c∧b∉dom c∧K (.d .none) (cset c dk (.ns (studied fs x))))
noncomputable def gU (C:Addr):Spec:=fun vs c K=>∃k dk,vs=[.obj k,.d (.int 4),.d (.int 8)]∧Wf c∧ae c k=some (.inst C dk)∧ae c dk=some (.ns [])∧K (.d .none) (cset c dk (.ns fs0))
noncomputable def jN (C:Addr):Spec:=fun vs c K=>∃k dk fs x,vs=[.obj k,.d (.str x)]∧ParAt C c k dk fs∧fs.length≤900∧TextOk x∧K (.d .none) (cset c dk (.ns (setd fs x)))
theorem ne1:nSl≠nGl:=by decide +kernel
theorem ne2:nSl≠nCt:=by decide +kernel
theorem ne3:nGl≠nCt:=by decide +kernel
theorem ne4:nS1≠nCt:=by decide +kernel
theorem ne5:nS1≠nGl:=by decide +kernel
theorem ne6:nS1≠nSl:=by decide +kernel
theorem ne7:nS1≠cV:=by decide +kernel
theorem jg (fs:List (Str×V))(x:Str):Read (studied fs x) (fin x):=by
 unfold studied
 exact⟨by rw[am,if_neg ne2,am,if_neg ne1,am,if_pos rfl],by rw[am,if_neg ne3,am,if_pos rfl],by rw[am,if_pos rfl]⟩
theorem ms {fs:List (Str×V)}(x:Str)(h:look fs nS1=none):look (studied fs x) nS1=none:=by
 unfold studied
 rw[am,if_neg ne4,am,if_neg ne5,am,if_neg ne6];exact h
theorem uf {fs:List (Str×V)}(x:Str)(h:look fs nS1=none):look (setd fs x) nS1=none:=by
 unfold setd
 rw[am,if_neg ne6,am,if_neg ne7];exact h
theorem mA {fs:List (Str×V)}{x:Str}(T:TextOk x)(h:fs.length≤890):Fresh (setd fs x) x:=by
 unfold setd
 refine⟨by rw[am,if_pos rfl],by rw[am,if_neg eT,am,if_pos rfl],T,?_⟩
 have h1:=dw (put fs cV (.d (.str x))) nSl (.d (.int 0))
 have h2:=dw fs cV (.d (.str x))
 exact R101 h h1 h2
section
variable {C:Addr}{c:aa}{k dk:Nat}{fs:List (Str×V)}
theorem ParAt.set (p:ParAt C c k dk fs){fs':List (Str×V)}(hf:fsW (cset c dk (.ns fs')) (cset c dk (.ns fs')) fs' fs')(no:look fs' nS1=none):ParAt C (cset c dk (.ns fs')) k dk fs':=by
 have dkd:=ah p.d_
 have kne:k≠dk:=fun e=>by have:=p.k_;rw[e,p.d_] at this;simp at this
 exact⟨p.w.set p.d_ hf,by rw[av dkd,if_neg kne];exact p.k_,by rw[av dkd,if_pos rfl],no⟩
theorem ParAt.studied (p:ParAt C c k dk fs)(x:Str):ParAt C (cset c dk (.ns (studied fs x))) k dk (studied fs x):=by
 refine p.set ?_ (ms x p.no)
 unfold Mine.studied
 exact aB (vD _ _ _) (aB (vD _ _ _) (aB (vD _ _ _) (bP (fun j hj=>by rw[ai];exact hj) (p.w.fs p.d_))))
theorem ParAt.setd (p:ParAt C c k dk fs)(x:Str):ParAt C (cset c dk (.ns (setd fs x))) k dk (setd fs x):=by
 refine p.set ?_ (uf x p.no)
 unfold Mine.setd
 exact aB (vD _ _ _) (aB (vD _ _ _) (bP (fun j hj=>by rw[ai];exact hj) (p.w.fs p.d_)))
end
section
variable {P:Pm}{pr:List Nat}
theorem d7 {n:Nat}{e:IE}{r:List IS}{l:Sl}{c c':aa}{K:F→Sg'→Prop}(v:V)(he:∀K':V→aa→Prop,K' v c'→wpE P n e l c K')(h:wpB P pr (n+1) r ⟨l,c'⟩ K):wpB P pr (n+2) (.expr e::r) ⟨l,c⟩ K:=by
 exact he _ h
theorem gV {n:Nat}{e:IE}{r:List IS}{l:Sl}{c c':aa}{K:F→Sg'→Prop}(v:V)(he:∀K':V→aa→Prop,K' v c'→wpE P n e l c K')(h:K (.ret v) ⟨l,c'⟩):wpB P pr (n+2) (.ret (some e)::r) ⟨l,c⟩ K:=by
 exact he _ h
theorem kj {c:aa}{k dk:Nat}{fs:List (Str×V)}{K:List (Str×V)→Prop}(hk:ae c k=some (.inst P.C dk))(hdk:ae c dk=some (.ns fs))(h:K fs):gC P c (.obj k) K:=by
 show eD (ae c k) _
 rw[hk]
 refine⟨rfl,?_⟩
 rw[hdk]
 exact h
theorem gp {n i:Nat}{f:Addr}{nm:Str}{l:Sl}{c:aa}{k dk:Nat}{fs:List (Str×V)}(hi:aF l i=some (.obj k))(hk:ae c k=some (.inst P.C dk))(hdk:ae c dk=some (.ns fs))(hno:look fs nm=none)(hf:P.isFn f=true)(K':V→aa→Prop)
  (h:P.fn f [.obj k] c (fun v c3=>eJ c c3∧K' v c3)):wpE P (n+3) (.umeth (.v i) f nm []) l c K':=by
 rw[iL]
 refine bD (n:=n+1) hi _ ?_
 refine⟨kj hk hdk hno,?_⟩
 exact⟨hf,h⟩
theorem lL {n i:Nat}{st:Addr}{g b:Nat}{l:Sl}{c:aa}{k dk:Nat}{fs:List (Str×V)}(hi:aF l i=some (.obj k))(p:ParAt P.C c k dk fs)(hf:P.isFn st=true)(hfn:P.fn st=dU P.C g b)(K':V→aa→Prop)
  (h:(look fs nSl=some (.d (.int 1))∧K' (.d .none) c)∨∃x,Fresh fs x∧g∉dom c∧b∉dom c∧K' (.d .none) (cset c dk (.ns (studied fs x)))):wpE P (n+3) (.umeth (.v i) st nS1 []) l c K':=by
 refine gp hi p.k_ p.d_ p.no hf K' ?_
 rw[hfn]
 refine⟨k,dk,fs,rfl,p,?_⟩
 rcases h with ⟨h1,h2⟩|⟨x,h1,h2,h3,h4⟩
 ·exact .inl ⟨h1,fun _ q=>q,h2⟩
 ·exact .inr ⟨x,h1,h2,h3,fun j q=>by rw[ai];exact q,h4⟩
end
noncomputable def fW (K:Frag)(a:Addr):FuncData:=(fj K a).getD default
theorem eB:∀(names:List (Str×NameKind)) (n:Nat) (acc:List (Str×Addr)) (x:Str),(acc.lookup x).isSome=true→((cellsFrom n names acc).lookup x).isSome=true
 | [],n,acc,x,h=>h
 | (name,kind)::r,n,acc,x,h=>by
  unfold cellsFrom
  split
  ·refine eB r _ _ x ?_
   rw[Zq]
   split
   ·rfl
   ·exact h
  ·exact eB r _ _ x h
theorem d6:∀(names:List (Str×NameKind)) (n:Nat) (acc:List (Str×Addr)) (x:Str),(x,NameKind.cell)∈names→((cellsFrom n names acc).lookup x).isSome=true
 | (name,kind)::r,n,acc,x,h=>by
  unfold cellsFrom
  rcases Qy.mp h with h|h
  ·cases h
   rw[if_pos (by decide)]
   refine eB r _ _ name ?_
   simp
  ·split
   ·exact d6 r _ _ x h
   ·exact d6 r _ _ x h
noncomputable def vu (K:Frag)(a:Addr)(ps:List Str):Bool:=
 let fd:=fW K a
 (fj K a).isSome&&codeIn K fd.code fd.qualname&&fd.closure.isEmpty&&(match fd.body with | .stmts _=>true|_=>false)&&decide ps.Nodup &&
 (ps.all fun p=>fd.scope.names.lookup p==some .local||fd.scope.names.lookup p==some .cell)&&!fd.scope.isCoroutine&&!fd.scope.isGenerator&&fd.scope.kind==.function&&fd.globals==mainGlobals&&fd.builtins==builtinsNs
theorem eG {K:Frag}{hb:Heap}(X:K.In hb)(lim:hb.NoLimit){a:Addr}{T:Tb}{ib:List IS}{m:Nat}{ps rest:List Str}(chk:vu K a ps=true)
  (hbind:∀ws:List Value,ws.length=ps.length→bindArgs (fW K a) ⟨ws,[]⟩=pure (ps.zip ws)) (hT:T.kinds=eX K a) (hn:T.names=ps++rest) (nd:decide T.names.Nodup=true) (comp:bL m T (bA K a)=some ib) :
  FnT hb a T ib ps rest (fW K a) (bA K a) m:=by
 unfold vu at chk
 simp only[Xv] at chk
 obtain⟨⟨⟨⟨⟨⟨⟨⟨⟨⟨c1,c2⟩,c3⟩,c4⟩,c5⟩,c6⟩,c7⟩,c8⟩,c9⟩,c10⟩,c11⟩:=chk
 obtain⟨fd,hfd⟩:=Option.isSome_iff_exists.mp c1
 have e:fW K a=fd:=by unfold fW;rw[hfd];rfl
 have hk:eX K a=fd.scope.names:=by unfold eX;rw[hfd]
 have hb':fd.body=.stmts (bA K a):=by
  unfold bA;rw[hfd];dsimp only
  rw[e] at c4
  split at c4
  ·rename_i b q;rw[q]
  ·contradiction
 rw[e] at c2 c3 c6 c7 c8 c9 c10 c11 hbind ⊢
 have at_:∃o,hb.get? a=some o∧o.data=.func fd:=by
  unfold fj at hfd
  split at hfd
  ·rename_i o ho
   split at hfd
   ·rename_i fd' hd;cases hfd;exact⟨o,X _ _ ho,hd⟩
   ·contradiction
  ·contradiction
 refine⟨⟨at_,lim,codeRec_of X c2,hb',List.isEmpty_iff.mp c3,hbind,of_decide_eq_true c5,fun p hp=>?_,by simpa using c7,by simpa using c8,beq_iff_eq.mp c9⟩,hT.trans hk,hn,of_decide_eq_true nd,fun p hp hc n=>?_,beq_iff_eq.mp c10,beq_iff_eq.mp c11,comp⟩
 ·have:=Xu.mp c6 p hp
  simp only[Bool.or_eq_true] at this
  rcases this with q|q
  ·exact .inl (beq_iff_eq.mp q)
  ·exact .inr ⟨beq_iff_eq.mp q,fun n=>d6 _ _ _ _ (mem_of_lookup (beq_iff_eq.mp q))⟩
 ·obtain⟨x,k⟩:=p
  subst hc
  exact d6 _ _ _ _ hp
theorem nP {prog:Program}{w:World}{hb:Heap}{mg:Str→Option Value}(hg:hb.Ns mainGlobals mg){x:Str}{g:Value}{v:V}(e:mg x=some g)(iv:∀c α h,IsV c α h v g):dO prog w hb x v:=by
 refine⟨g,iv,fun env A s Q EO h1 h2 hk base hq=>?_⟩
 rw[loadName_read EO.kind hk]
 refine Calls.loadGlobal_global (mg:=mg) ?_ e hq
 rw[h1];exact hg.keeps base
theorem uQ {prog:Program}{w:World}{hb:Heap}{mg mb:Str→Option Value}(hg:hb.Ns mainGlobals mg)(hb':hb.Ns builtinsNs mb){x:Str}{g:Value}{v:V}(e:mg x=none)(e2:mb x=some g)(iv:∀c α h,IsV c α h v g):dO prog w hb x v:=by
 refine⟨g,iv,fun env A s Q EO h1 h2 hk base hq=>?_⟩
 rw[loadName_read EO.kind hk]
 refine Calls.loadGlobal_builtin (mg:=mg) (mb:=mb) ?_ e ?_ e2 hq
 ·rw[h1];exact hg.keeps base
 ·rw[h2];exact hb'.keeps base
theorem mg_of {K:Frag}{hb:Heap}(X:K.In hb){mg:Str→Option Value}(hg:hb.Ns mainGlobals mg)(hk:(K.lookup mainGlobals).isSome=true)(x:Str):mg x=nsFind (nsOf K mainGlobals) x:=by
 obtain⟨o,ho⟩:=Option.isSome_iff_exists.mp hk
 obtain⟨o',es,ep,h1,h2,h3,h4⟩:=hg
 rw[X _ _ ho] at h1;(injection h1 with h1;subst h1)
 unfold nsOf
 rw[ho];dsimp only
 rw[h2]
 exact (h4 x).symm
end Mine
end
section
namespace Mine
open PySem PyProof.Rows PySem.W PySem.StrLaws PySem.Builtin.Str
theorem i9 (x:Str){hi i:Nat}(hh:hi≤x.length):StrLaws.At x ⟨#[10]⟩ hi i↔(sg x)[i]?=some 10∧i<hi:=by
 have h:=subAt_one x 10 i
 constructor
 ·rintro⟨h1,h2⟩
  have h1':i+1≤hi:=h1
  exact⟨h.mp ⟨Zk h1 hh,h2⟩,by exact R74 h1'⟩
 ·rintro⟨h1,h2⟩
  exact⟨(show i+1≤hi by exact R82 h2),(h.mpr h1).2⟩
theorem rM {x:Str}{hi:Nat}(hh:hi≤x.length):(cS x ⟨#[10]⟩ 0 hi=-1∧∀i,i<hi→(sg x)[i]?≠some 10)∨∃i:Nat,cS x ⟨#[10]⟩ 0 hi=(i:Int)∧i<hi∧(sg x)[i]?=some 10∧∀k,i<k→k<hi→(sg x)[k]?≠some 10:=by
 unfold cS
 rw[last_eq]
 have key:=last_run x ⟨#[10]⟩ hi (List.range' 0 (hi+1-0)) [] none (fun _ h=>nomatch h) (fun _ h=>nomatch h) (by simpa using List.pairwise_lt_range' (s:=0) (n:=hi+1-0))
 have mem:∀i,i<hi→i∈[]++List.range' 0 (hi+1-0):=fun i h=>by simp[List.mem_range'];exact R141 h
 cases hr:(forIn (List.range' 0 (hi+1-0)) none (lastBody x ⟨#[10]⟩ hi)).run with
 |none=>simp only[hr] at key;exact .inl ⟨rfl,fun i h q=>key i (mem i h) ((i9 x hh).mpr ⟨q,h⟩)⟩
 |some a=>
  simp only[hr] at key
  obtain⟨h1,h2⟩:=(i9 x hh).mp key.1
  exact .inr ⟨a,rfl,h2,h1,fun k hk h q=>key.2 k (mem k h) hk ((i9 x hh).mpr ⟨q,h⟩)⟩
theorem mL {x:Str}{i hi:Nat}(hh:hi≤x.length)(h:∃j:Nat,i≤j∧j<hi∧(sg x)[j]?=some 10):∃j:Nat,eF x ⟨#[10]⟩ i hi=(j:Int)∧i≤j∧j<hi∧(sg x)[j]?=some 10∧∀m:Nat,i≤m→m<j→(sg x)[m]?≠some 10:=by
 unfold eF
 rw[occ_eq,f8 x ⟨#[10]⟩ hi _ i (fun m hm=>by have:=List.mem_range'_1.mp hm;exact R33 this)]
 have iff1:∀m,(decide (m+(⟨#[10]⟩:Str).length≤hi)&&subAt x ⟨#[10]⟩ m)=true↔(sg x)[m]?=some 10∧m<hi:=fun m=>by
  simp only[Xv,decide_eq_true_eq];exact i9 x hh
 cases hf:(List.range' i (hi+1-i)).find? (fun i=>decide (i+(⟨#[10]⟩:Str).length≤hi)&&subAt x ⟨#[10]⟩ i) with
 |none=>
  refine aG fun G9 back9=>?_;obtain⟨j,hj,hl,hc⟩:=h;refine back9 ?_
  exact absurd ((iff1 j).mpr ⟨hc,hl⟩) (List.find?_eq_none.mp hf j (List.mem_range'_1.mpr (R32 hj hl)))
 |some j=>
  obtain⟨hp,as,bs,hl,hall⟩:=List.find?_eq_some_iff_append.mp hf
  obtain⟨h1,h2⟩:=(iff1 j).mp hp
  have hmem:j∈List.range' i (hi+1-i):=by rw[hl];simp
  have hij:=(List.mem_range'_1.mp hmem).1
  refine⟨j,rfl,hij,h2,h1,fun m hm hlt q=>?_⟩
  have hm':m∈List.range' i (hi+1-i):=List.mem_range'_1.mpr (R140 h2 hm hlt)
  rw[hl] at hm'
  have pw:(as++j::bs).Pairwise (·<·):=by rw[←hl];exact List.pairwise_lt_range'
  rcases Qu.mp hm' with hm'|hm'
  ·have:=hall m hm'
   rw[(iff1 m).mpr ⟨q,by exact R123 h2 hlt⟩] at this
   contradiction
  ·rcases Qy.mp hm' with rfl|hm'
   ·exact R30 hlt
   ·have:=(List.pairwise_cons.mp (List.pairwise_append.mp pw).2.1).1 m hm'
    exact R29 hlt this
noncomputable def au:List Nat→Nat→Nat
 |_,0=>0
 | [],_+1=>0
 |c::l,n+1=>if c=10 then 1+au l n else 1+au l (n+1)
noncomputable def nls:List Nat→Nat
 | []=>0
 |c::l=>(if c=10 then 1 else 0)+nls l
theorem cb (l:List Nat):au l 0=0:=by cases l<;>rfl
theorem fL:∀(l:List Nat) (n:Nat),n<nls l→au l n<au l (n+1)∧l[au l (n+1)-1]?=some 10∧∀k,au l n≤k→k<au l (n+1)-1→l[k]?≠some 10
 | [],n,h=>absurd h (Nat.not_lt_zero _)
 |c::l,n,h=>by
  unfold nls at h
  by_cases hc:c=10
  ·subst hc
   rw[if_pos rfl] at h
   cases n with
   |zero=>
    have e:au (10::l) 1=1:=by unfold au;rw[if_pos rfl];cases l<;>rfl
    rw[show (0:Nat)+1=1 from rfl,e]
    rw[cb]
    exact⟨by exact R139,rfl,fun k _ hk=>by exact (R138 hk).elim⟩
   |succ n=>
    obtain⟨h1,h2,h3⟩:=fL l n (R137 h)
    have e1:au (10::l) (n+1)=1+au l n:=by rw[au,if_pos rfl]
    have e2:au (10::l) (n+1+1)=1+au l (n+1):=by rw[au,if_pos rfl]
    rw[e1,e2]
    refine⟨by exact R132 h1,?_,fun k hk hlt=>?_⟩
    ·simp only[show 1+au l (n+1)-1=(au l (n+1)-1)+1 by exact R136 h1,List.getElem?_cons_succ];exact h2
    ·rw[show k=(k-1)+1 by exact R130 hk,List.getElem?_cons_succ];exact h3 (k-1) (R129 hk) (R128 hk hlt)
  ·rw[if_neg hc,Nat.zero_add] at h
   obtain⟨h1,h2,h3⟩:=fL l n h
   have e2:au (c::l) (n+1)=1+au l (n+1):=by rw[au,if_neg hc]
   have ep:0<au l (n+1):=R135 h1
   rw[e2]
   cases n with
   |zero=>
    rw[cb]
    rw[cb] at h3
    refine⟨by exact R134,?_,fun k hk hlt=>?_⟩
    ·simp only[show 1+au l (0+1)-1=(au l (0+1)-1)+1 by exact R131 ep,List.getElem?_cons_succ];exact h2
    ·cases k with
     |zero=>simp[hc]
     |succ k=>simp only[List.getElem?_cons_succ];exact h3 k (Zj _) (R133 hlt)
   |succ n=>
    have e1:au (c::l) (n+1)=1+au l (n+1):=by rw[au,if_neg hc]
    rw[e1]
    refine⟨by exact R132 h1,?_,fun k hk hlt=>?_⟩
    ·simp only[show 1+au l (n+1+1)-1=(au l (n+1+1)-1)+1 by exact R131 ep,List.getElem?_cons_succ];exact h2
    ·rw[show k=(k-1)+1 by exact R130 hk,List.getElem?_cons_succ];exact h3 (k-1) (R129 hk) (R128 hk hlt)
theorem lU:∀(l:List Nat),(l=[]∨l.getLast?=some 10)→au l (nls l)=l.length
 | [],_=>rfl
 | [c],h=>by
  have:c=10:=by simpa using h
  subst this;rfl
 |c::d::l,h=>by
  have h':(d::l).getLast?=some 10:=by simpa [List.getLast?_cons_cons] using h
  have ih:=lU (d::l) (.inr h')
  have hp:0<nls (d::l):=by
   cases hn:nls (d::l) with
   |zero=>rw[hn] at ih;contradiction
   |succ n=>exact R127
  unfold nls
  by_cases hc:c=10
  ·rw[if_pos hc,Nat.add_comm 1,au,if_pos hc,ih];dsimp only[Qz];exact R126
  ·rw[if_neg hc,Nat.zero_add]
   obtain⟨m,hm⟩:∃m,nls (d::l)=m+1:=⟨_,(Nat.succ_pred_eq_of_pos hp).symm⟩
   rw[hm] at ih ⊢
   rw[au,if_neg hc,ih];dsimp only[Qz];exact R126
theorem eH (l:List Nat){m n:Nat}(h:m<n)(hn:n≤nls l):au l m<au l n:=by
 induction n with
 |zero=>exact (R125 h).elim
 |succ n ih=>
  have:=(fL l n (R74 hn)).1
  by_cases q:m=n
  ·subst q;exact this
  ·have:=ih (R124 h q) (R73 hn);exact R123 ‹_› this
theorem iN (l:List Nat):∀n,n≤nls l→au l n≤l.length
 |0,_=>by rw[cb];exact Zj _
 |n+1,h=>by
  obtain⟨h1,h2,_⟩:=fL l n h
  have:=bb h2
  exact R122 this
theorem ya {x:Str}{m:Nat}(h:m<nls (sg x)):cS x ⟨#[10]⟩ 0 (au (sg x) (m+1)-1)+1=(au (sg x) m:Nat):=by
 obtain⟨h1,h2,h3⟩:=fL (sg x) m h
 have hle:=iN (sg x) (m+1) h
 have hl:=aE x
 rcases rM (x:=x) (hi:=au (sg x) (m+1)-1) (R121 hle) with ⟨e,hn⟩|⟨i,e,hi,hc,hn⟩
 ·rw[e]
  cases m with
  |zero=>rw[cb];rfl
  |succ m=>
   obtain⟨g1,g2,_⟩:=fL (sg x) m (R120 h)
   exact absurd g2 (hn _ (R119 h1 g1))
 ·rw[e]
  cases m with
  |zero=>exact absurd hc (h3 i (by rw[cb];exact Zj _) hi)
  |succ m=>
   obtain⟨g1,g2,g3⟩:=fL (sg x) m (R120 h)
   have hnot:¬au (sg x) (m+1)≤i:=fun q=>h3 i q hi hc
   have hnot2:¬i<au (sg x) (m+1)-1:=fun q=>hn _ q (R119 h1 g1) g2
   exact R118 hnot hnot2
theorem n7 (s:St)(c:Nat):(step s c).ln=s.ln+if c=10 then 1 else 0:=by
 obtain⟨md,lv,ln,gd⟩:=s
 unfold step
 by_cases hc:c=10
 ·subst hc
  simp only[if_pos rfl]
  cases md with
  |Q1 d f=>cases d<;>rfl
  |Q2 d f=>cases d<;>rfl
  |S1 d f=>cases d<;>rfl
  |S1e d f=>cases d<;>rfl
  |S3 d k f=>cases d<;>rfl
  |S3e d f=>cases d<;>rfl
  |_=>rfl
 ·have hN:∀s:St,(aY s c).ln=s.ln:=fun s=>by
   unfold aY
   rw[if_neg hc]
   repeat (first | (split<;>try rfl))
  have hS:∀(s:St) d f,(bm s d f c).ln=s.ln:=fun s d f=>by
   unfold bm
   split
   ·rfl
   ·split<;>rfl
  have e:(if c=10 then 1 else 0:Nat)=0:=if_neg hc
  rw[e,Nat.add_zero]
  cases md with
  |N=>exact hN _
  |Nb=>exact hN _
  |E=>dsimp only;rw[if_neg hc];rfl
  |C=>dsimp only;rw[if_neg hc];rfl
  |Q1 d f=>dsimp only;split<;>first|rfl|exact hS _ _ _
  |Q2 d f=>dsimp only;split<;>first|rfl|exact hN _
  |S1 d f=>exact hS _ _ _
  |S1e d f=>dsimp only;rw[if_neg hc];rfl
  |S3 d k f=>
   dsimp only
   split
   ·split<;>rfl
   ·first | (split<;>rfl) | (rw[if_neg hc];split<;>rfl)
  |S3e d f=>dsimp only;rw[if_neg hc];rfl
theorem jS:∀(l:List Nat) (s:St),(scan s l).ln=s.ln+nls l
 | [],s=>rfl
 |c::l,s=>by simp only[aZ,jS l,n7,nls];exact R117
theorem kt (s:St)(c:Nat):(step s c).gd=s.gd∨((step s c).gd=s.gd++[s.ln+1]∧(step s c).ln=s.ln+1):=by
 obtain⟨md,lv,ln,gd⟩:=s
 have hnl:∀s:St,(nl s).gd=s.gd∨((nl s).gd=s.gd++[s.ln+1]∧(nl s).ln=s.ln+1):=fun s=>by
  unfold nl
  by_cases h:s.lv=0
  ·exact .inr ⟨if_pos h,rfl⟩
  ·exact .inl (if_neg h)
 have hN:∀s:St,(aY s c).gd=s.gd∨((aY s c).gd=s.gd++[s.ln+1]∧(aY s c).ln=s.ln+1):=fun s=>by
  unfold aY
  by_cases h:c=10
  ·rw[if_pos h];exact hnl s
  ·rw[if_neg h];left;repeat (first | (split<;>try rfl))
 have hS:∀(s:St) d f,(bm s d f c).gd=s.gd∨((bm s d f c).gd=s.gd++[s.ln+1]∧(bm s d f c).ln=s.ln+1):=fun s d f=>by
  unfold bm
  split
  ·exact .inl rfl
  ·split
   ·exact hnl s
   ·left;split<;>rfl
 unfold step
 cases md with
 |N=>exact hN _
 |Nb=>exact hN _
 |E=>dsimp only;left;split<;>rfl
 |C=>dsimp only;split<;>first|exact hnl _|exact .inl rfl
 |Q1 d f=>dsimp only;split<;>first|exact .inl rfl|exact hS _ _ _
 |Q2 d f=>dsimp only;split<;>first|exact .inl rfl|exact hN _
 |S1 d f=>exact hS _ _ _
 |S1e d f=>dsimp only;left;split<;>rfl
 |S3 d k f=>dsimp only;left;split<;>(split<;>first|rfl | (split<;>rfl))
 |S3e d f=>dsimp only;left;split<;>rfl
structure GdOk (s:St):Prop where
 up:s.gd.Pairwise (·<·)
 le:∀m∈s.gd,m≤s.ln
 hd:s.gd.head?=some 0
theorem GdOk.step {s:St}(h:GdOk s)(c:Nat):GdOk (step s c):=by
 have hl:=n7 s c
 rcases kt s c with e|⟨e,e2⟩
 ·exact⟨by rw[e];exact h.up,fun m hm=>by rw[e] at hm;have:=h.le m hm;exact R116 hl this,by rw[e];exact h.hd⟩
 ·refine⟨?_,fun m hm=>?_,?_⟩
  ·rw[e,List.pairwise_append]
   exact⟨h.up,List.pairwise_singleton _ _,fun a ha b hb=>by
                                  have:=h.le a ha;have:b=s.ln+1:=by simpa using hb
                                  exact R115 ‹_› this⟩
  ·rw[e] at hm
   rcases Qu.mp hm with hm|hm
   ·have:=h.le m hm;exact R114 e2 this
   ·have:m=s.ln+1:=by simpa using hm
    exact R113 e2 this
  ·simp only[e,List.head?_append,h.hd];rfl
theorem GdOk.scan:∀(l:List Nat) {s:St},GdOk s→GdOk (scan s l)
 | [],s,h=>h
 |c::l,s,h=>by simp only[aZ];exact GdOk.scan l (h.step c)
theorem gd0:GdOk st0:=by
 refine⟨List.pairwise_singleton _ _,fun m hm=>?_,rfl⟩
 have:m=0:=by simpa [st0] using hm
 exact R112 this
theorem l7:∀l:List Nat,nls (l.map tr)=nls l
 | []=>rfl
 |c::l=>by
  show (if tr c=10 then 1 else 0)+nls (l.map tr)=_
  simp only[l7 l,nls]
  congr 1
  by_cases h:c=10
  ·subst h;rfl
  ·rw[if_neg h,if_neg]
   unfold tr
   split
   ·exact R111
   ·split
    ·exact R110
    ·split
     ·exact R109 h
     ·exact R108
structure GoodOk (x:Str)(gl:List Nat):Prop where
 up:gl.Pairwise (·<·)
 hd:gl.head?=some 0
 last:gl.getLast?=some (nls (sg x))
theorem ti (x:Str):GoodOk x (aU (fin x)):=by
 have G:GdOk (fin x):=GdOk.scan _ gd0
 have e:(fin x).ln=nls (sg x):=by unfold fin;rw[jS,l7];show 0+_=_;exact R107
 unfold aU
 split
 ·rename_i h;exact⟨G.up,G.hd,by rw[h,e]⟩
 ·rename_i h
  refine⟨?_,by rw[List.head?_append,G.hd];rfl,by rw[Qb,e];rfl⟩
  rw[List.pairwise_append]
  refine⟨G.up,List.pairwise_singleton _ _,fun a ha b hb=>?_⟩
  have hb:b=(fin x).ln:=by simpa using hb
  subst hb
  refine Nat.lt_of_le_of_ne (G.le a ha) fun q=>h ?_
  obtain⟨i,hi,hg⟩:=List.getElem_of_mem ha
  rw[Qp]
  by_cases hl:i=(fin x).gd.length-1
  ·simp only[←hl,Qk hi,hg,q]
  ·have:=List.pairwise_iff_getElem.mp G.up i ((fin x).gd.length-1) hi (R105 hi) (R106 hi hl)
   have h2:=G.le ((fin x).gd[(fin x).gd.length-1]'(R105 hi)) (List.getElem_mem _)
   simp only[hg] at this;exact (R104 q this h2).elim
theorem GoodOk.at_ {x:Str}{gl:List Nat}(G:GoodOk x gl){i a b:Nat}(ha:gl[i]?=some a)(hb:gl[i+1]?=some b):a<b∧b≤nls (sg x):=by
 obtain⟨h1,e1⟩:=Qw.mp ha
 obtain⟨h2,e2⟩:=Qw.mp hb
 refine⟨e1▸e2▸List.pairwise_iff_getElem.mp G.up i (i+1) h1 h2 (R43),?_⟩
 have hl:=G.last
 rw[Qp] at hl
 obtain⟨h3,e3⟩:=Qw.mp hl
 by_cases q:i+1=gl.length-1
 ·have:b=nls (sg x):=by
   rw[←q] at hl
   rw[hl] at hb;(injection hb with hb;subst hb);rfl
  exact R14 this
 ·have:=List.pairwise_iff_getElem.mp G.up (i+1) (gl.length-1) h2 h3 (R103 h2 q)
  exact R102 e2 e3 this
end Mine
end
section
namespace Mine
namespace Re
open PySem PySem.Sre
structure Z where
 code:Array Nat
 text:Array Nat
 lim:Nat
 start:Nat
structure Fr where
 wait:Wait
 pc:Nat
 pos:Nat
 om:Bool
 count:Int:=0
 whole:Bool:=false
 loop:Nat:=0
 began:Option Nat:=none
noncomputable def Fr.f (x:Fr):Sre.Frame:={wait:=x.wait,pc:=x.pc,pos:=x.pos,outermost:=x.om,count:=x.count,kept:={whole:=x.whole},loop:=x.loop,began:=x.began}
structure A where
 pc:Nat
 pos:Nat
 handed:Nat
 om:Bool
 loops:Array Loop
 inner:Option Nat
 frames:List Fr
 answer:Option Bool
noncomputable def mk (z:Z)(a:A)(se:Seen):M:=
 {code:=z.code,text:=z.text,lim:=z.lim,start:=z.start,pc:=a.pc,pos:=a.pos,handed:=a.handed,outermost:=a.om,marks:=#[],loops:=a.loops,inner:=a.inner,
  frames:=a.frames.map Fr.f,weight:=a.frames.length,answer:=a.answer,seen:=se}
noncomputable def it:Nat→M→M
 |0,m=>m
 |n+1,m=>it n m.step
def End (z:Z)(r:Option Nat)(m:M):Prop:=
 m.start=z.start∧m.lastindex=-1∧match r with
 |some e=>m.outcome=some .matched∧m.handed=e
 |none=>m.outcome=some .failed
def Ends (z:Z)(r:Option Nat)(N:Nat)(a:A):Prop:=∀se,∃n,n≤N∧End z r (it n (mk z a se))
theorem bv {z:Z}{r:Option Nat}{N:Nat}{a a':A}(h:∀se,∃se',(mk z a se).step=mk z a' se')(k:Ends z r N a'):Ends z r (N+1) a:=by
 intro se
 obtain⟨se',e⟩:=h se
 obtain⟨n,hn,q⟩:=k se'
 exact⟨n+1,by exact R11 hn,by show End z r (it n (mk z a se).step);rw[e];exact q⟩
theorem Ends.mono {z:Z}{r:Option Nat}{N N':Nat}{a:A}(h:Ends z r N a)(l:N≤N'):Ends z r N' a:=by
 intro se
 obtain⟨n,hn,q⟩:=h se
 exact⟨n,by exact R98 l hn,q⟩
section
variable {z:Z}{r:Option Nat}{N pc pos handed:Nat}{om:Bool}{loops:Array Loop}{inner:Option Nat}{fs:List Fr}
theorem uA:Ends z (some handed) 1 ⟨pc,pos,handed,om,loops,inner,[],some true⟩:=fun se=>⟨1,by exact R142,rfl,rfl,rfl,rfl⟩
theorem fin_no:Ends z none 1 ⟨pc,pos,handed,om,loops,inner,[],some false⟩:=fun se=>⟨1,by exact R142,rfl,rfl,rfl⟩
noncomputable def Fr.passes (f:Fr):Bool:=match f.wait with
 | .nextBranch | .giveBack | .closeLoop | .maxMore | .maxTail=>true
 |_=>false
theorem dC:∀{fs:List Fr} (hp:∀f∈fs,f.passes=true) {pc pos:Nat} {om:Bool} {loops:Array Loop} {inner:Option Nat},Ends z (some handed) (fs.length+1) ⟨pc,pos,handed,om,loops,inner,fs,some true⟩
 | [],_,_,_,_,_,_=>uA
 |f::fs,hp,pc,pos,om,loops,inner=>by
  obtain⟨wait,fpc,fpos,fom,count,whole,loop,began⟩:=f
  have ih:=fun {pc pos om loops inner}=>dC (fs:=fs) (fun f hf=>hp f (.tail _ hf)) (pc:=pc) (pos:=pos) (om:=om) (loops:=loops) (inner:=inner)
  have h0:=hp _ (.head _)
  cases wait with
  |nextBranch=>exact bv (a':=⟨fpc,fpos,handed,fom,loops,inner,fs,some true⟩) (fun se=>⟨se,rfl⟩) ih
  |giveBack=>exact bv (a':=⟨fpc,fpos,handed,fom,loops,inner,fs,some true⟩) (fun se=>⟨se,rfl⟩) ih
  |closeLoop=>exact bv (a':=⟨fpc,fpos,handed,fom,loops.pop,(loops.getD loop {pc:=0,outer:=none}).outer,fs,some true⟩) (fun se=>⟨se,rfl⟩) ih
  |maxMore=>exact bv (a':=⟨fpc,fpos,handed,fom,loops.modify loop fun l=>{l with began:=began},inner,fs,some true⟩) (fun se=>⟨se,rfl⟩) ih
  |maxTail=>exact bv (a':=⟨fpc,fpos,handed,fom,loops,some loop,fs,some true⟩) (fun se=>⟨se,rfl⟩) ih
  |_=>exact Bool.noConfusion h0
theorem cf {a:A}{se:Seen}(ha:a.answer=none)(hc:a.pc<z.code.size):(mk z a se).step=(mk z a se).exec:=by
 obtain⟨pc,pos,handed,om,loops,inner,fs,ans⟩:=a
 (subst ha)
 show (if pc<z.code.size then (mk z ⟨pc,pos,handed,om,loops,inner,fs,none⟩ se).exec else _)=_
 rw[if_pos hc]
noncomputable def okB:Except String (Bool×Seen)→Option Bool
 | .ok p=>some p.1
 | .error _=>none
theorem wW {x:Except String (Bool×Seen)}{b:Bool}(h:okB x=some b):∃se,x=.ok (b,se):=by
 cases x with
 |error e=>contradiction
 |ok p=>obtain⟨c,se⟩:=p;(injection h with h;subst h);exact⟨se,rfl⟩
theorem gI (code:Array Nat)(c:Nat):∀(fuel i:Nat) (yes:Bool) (se se':Seen),okB (inSet code c fuel i yes se)=okB (inSet code c fuel i yes se')
 |0,_,_,_,_=>rfl
 |fuel+1,i,yes,se,se'=>by
  have ih:=gI code c fuel
  conv=>lhs;arg 1;whnf
  conv=>rhs;arg 1;whnf
  cases ops[code.getD (i+0) 0]? with
  |none=>rfl
  |some op=>
   cases op with
   |NEGATE=>exact ih _ _ _ _
   |LITERAL=>dsimp only;by_cases q:(c==code.getD (i+1) 0)=true<;>simp only[q,if_true,Bool.false_eq_true,if_false]<;>first|rfl|exact ih _ _ _ _
   |RANGE=>dsimp only;split<;>first|rfl|exact ih _ _ _ _
   |RANGE_UNI_IGNORE=>dsimp only;split<;>first|rfl|exact ih _ _ _ _
   |CHARSET=>dsimp only;split<;>first|rfl|exact ih _ _ _ _
   |BIGCHARSET=>dsimp only;split<;>first|rfl|exact ih _ _ _ _
   |CATEGORY=>
    dsimp only
    cases category (code.getD (i+1) 0) c with
    |error e=>rfl
    |ok b=>cases b<;>first|rfl|exact ih _ _ _ _
   |_=>rfl
end
end Re
end Mine
end
section
namespace Mine
namespace Re
open PySem PySem.Sre
section
variable {z:Z}{r:Option Nat}{N pc pos handed:Nat}{om:Bool}{loops:Array Loop}{inner:Option Nat}{fs:List Fr}
noncomputable def acc (code:Array Nat)(pc c:Nat):Option Bool:=okB (accepts code pc c {})
theorem lT {code:Array Nat}{pc c:Nat}{b:Bool}(h:acc code pc c=some b)(se:Seen):∃se',accepts code pc c se=.ok (b,se'):=by
 refine wW (h▸?_)
 unfold acc accepts
 dsimp only
 cases ops[code.getD pc 0]? with
 |none=>rfl
 |some op=>cases op<;>first|rfl|exact gI ..
noncomputable def m5:Op→Bool
 | .ANY | .ANY_ALL | .LITERAL | .IN=>true
 |_=>false
theorem b7 {a:A}{se:Seen}{op:Op}(h:ops[z.code.getD a.pc 0]?=some op):ops[(mk z a se).word 0]?=some op:=h
theorem jb {op:Op}(ho:ops[z.code.getD pc 0]?=some op)(h1:m5 op=true)(hc:pc<z.code.size)(hl:pos<z.lim)(ha:acc z.code pc (z.text.getD pos 0)=some true)
  (k:Ends z r N ⟨pc+itemWidth z.code pc,pos+1,handed,om,loops,inner,fs,none⟩):Ends z r (N+1) ⟨pc,pos,handed,om,loops,inner,fs,none⟩:=by
 refine bv (fun se=>?_) k
 rw[cf rfl hc]
 unfold M.exec
 rw[b7 ho]
 obtain⟨se',e⟩:=lT ha (se.add (z.code.getD pc 0))
 refine⟨se',?_⟩
 cases op<;>first
  |exact Bool.noConfusion h1
  | (show (if pos ≥ z.lim then _ else match accepts z.code pc (z.text.getD pos 0) (se.add (z.code.getD pc 0)) with | .error why=>_ | .ok (false,seen)=>_ | .ok (true,seen)=>_)=_;rw[if_neg (R145 hl),e];rfl)
theorem mx {op:Op}(ho:ops[z.code.getD pc 0]?=some op)(h1:m5 op=true)(hc:pc<z.code.size)(ha:pos<z.lim→acc z.code pc (z.text.getD pos 0)=some false)
  (k:Ends z r N ⟨pc,pos,handed,om,loops,inner,fs,some false⟩):Ends z r (N+1) ⟨pc,pos,handed,om,loops,inner,fs,none⟩:=by
 refine bv (fun se=>?_) k
 rw[cf rfl hc]
 unfold M.exec
 rw[b7 ho]
 by_cases hl:pos<z.lim
 ·obtain⟨se',e⟩:=lT (ha hl) (se.add (z.code.getD pc 0))
  refine⟨se',?_⟩
  cases op<;>first
   |exact Bool.noConfusion h1
   | (show (if pos ≥ z.lim then _ else match accepts z.code pc (z.text.getD pos 0) (se.add (z.code.getD pc 0)) with | .error why=>_ | .ok (false,seen)=>_ | .ok (true,seen)=>_)=_;rw[if_neg (R145 hl),e];rfl)
 ·refine⟨se.add (z.code.getD pc 0),?_⟩
  cases op<;>first
   |exact Bool.noConfusion h1
   | (show (if pos ≥ z.lim then _ else match accepts z.code pc (z.text.getD pos 0) (se.add (z.code.getD pc 0)) with | .error why=>_ | .ok (false,seen)=>_ | .ok (true,seen)=>_)=_;rw[if_pos (R144 hl)];rfl)
theorem dv (ho:ops[z.code.getD pc 0]?=some .SUCCESS)(hc:pc<z.code.size)(k:Ends z r N ⟨pc,pos,pos,om,loops,inner,fs,some true⟩):Ends z r (N+1) ⟨pc,pos,handed,om,loops,inner,fs,none⟩:=by
 refine bv (fun se=>⟨se.add (z.code.getD pc 0),?_⟩) k
 rw[cf rfl hc]
 unfold M.exec
 rw[b7 ho]
 cases om<;>rfl
theorem sf (ho:ops[z.code.getD pc 0]?=some .JUMP)(hc:pc<z.code.size)(k:Ends z r N ⟨pc+1+z.code.getD (pc+1) 0,pos,handed,om,loops,inner,fs,none⟩):Ends z r (N+1) ⟨pc,pos,handed,om,loops,inner,fs,none⟩:=by
 refine bv (fun se=>⟨se.add (z.code.getD pc 0),?_⟩) k
 rw[cf rfl hc]
 unfold M.exec
 rw[b7 ho]
 rfl
def room (fs:List Fr):Prop:=fs.length<16777216
theorem bu {a:A}{se:Seen}{x:Fr}{t p:Nat}{om:Bool}(hr:room a.frames):(mk z a se).attempt x.f t p om=mk z ⟨t,p,p,om,a.loops,a.inner,x::a.frames,a.answer⟩ se:=by
 unfold M.attempt
 have:¬(mk z a se).weight+1+x.f.kept.marks.size > 16777216:=by
  unfold room at hr;exact R143 hr
 rw[if_neg this];rfl
theorem lM (ho:ops[z.code.getD pc 0]?=some .BRANCH)(hc:pc<z.code.size)(hr:room fs)(h0:(z.code.getD (pc+1) 0==0)=false)
  (k:Ends z r N ⟨pc+1+1,pos,pos,om,loops,inner,{wait:=.nextBranch,pc:=pc+1,pos,om,whole:=inner.isSome}::fs,none⟩):Ends z r (N+1) ⟨pc,pos,handed,om,loops,inner,fs,none⟩:=by
 refine bv (fun se=>⟨se.add (z.code.getD pc 0),?_⟩) k
 rw[cf rfl hc]
 unfold M.exec
 rw[b7 ho]
 show (if (z.code.getD (pc+1) 0==0)=true then _ else _)=_
 rw[if_neg (by rw[h0];exact Bool.false_ne_true)]
 cases inner<;>exact bu (a:=⟨pc,pos,handed,om,loops,_,fs,none⟩) (x:={wait:=.nextBranch,pc:=pc+1,pos,om,whole:=_}) hr
end
end Re
end Mine
end
section
namespace Mine
namespace Re
open PySem PySem.Sre
def At (z:Z)(pos:Nat)(w:List Nat):Prop:=pos+w.length=z.lim∧∀i c,w[i]?=some c→z.text.getD (pos+i) 0=c
theorem At.lt {z:Z}{pos c:Nat}{w:List Nat}(h:At z pos (c::w)):pos<z.lim:=by have:=h.1;simp only[Qz] at this;exact R156 this
theorem At.sign {z:Z}{pos c:Nat}{w:List Nat}(h:At z pos (c::w)):z.text.getD pos 0=c:=h.2 0 c rfl
theorem At.next {z:Z}{pos c:Nat}{w:List Nat}(h:At z pos (c::w)):At z (pos+1) w:=
 ⟨by have:=h.1;simp only[Qz] at this;exact R155 this,fun i d e=>by have:=h.2 (i+1) d e;rw[show pos+1+i=pos+(i+1) by exact R23];exact this⟩
theorem At.drop {z:Z}:∀{n pos:Nat} {w:List Nat},At z pos w→n≤w.length→At z (pos+n) (w.drop n)
 |0,_,_,h,_=>h
 |n+1,pos,[],h,l=>absurd l (by simp)
 |n+1,pos,c::w,h,l=>by
  have:=h.next.drop (n:=n) (by simpa using l)
  simp only[show pos+(n+1)=pos+1+n by exact R154];exact this
theorem At.nil {z:Z}{pos:Nat}(h:At z pos []):pos=z.lim:=by have:=h.1;simpa using this
section
variable {z:Z}{r:Option Nat}{N pc pos handed:Nat}{om:Bool}{loops:Array Loop}{inner:Option Nat}{fs:List Fr}
noncomputable abbrev dfl:Loop:={pc:=0,outer:=none}
theorem eW {alt p pc0 pos0:Nat}{om0 wh:Bool}(hr:room fs)(h0:(z.code.getD (alt+z.code.getD alt 0) 0==0)=false)
  (k:Ends z r N ⟨alt+z.code.getD alt 0+1,p,p,om,loops,inner,{wait:=.nextBranch,pc:=alt+z.code.getD alt 0,pos:=p,om,whole:=wh}::fs,none⟩) :
  Ends z r (N+1) ⟨pc0,pos0,handed,om0,loops,inner,{wait:=.nextBranch,pc:=alt,pos:=p,om,whole:=wh}::fs,some false⟩:=by
 refine bv (fun se=>⟨se,?_⟩) k
 cases wh <;>
 ·show (if (z.code.getD (alt+z.code.getD alt 0) 0==0)=true then _ else _)=_
  rw[if_neg (by rw[h0];exact Bool.false_ne_true)]
  exact bu (a:=⟨alt,p,handed,om,loops,inner,fs,none⟩) (x:={wait:=.nextBranch,pc:=alt+z.code.getD alt 0,pos:=p,om,whole:=_}) hr
theorem xI {alt p pc0 pos0:Nat}{om0 wh:Bool}(h0:(z.code.getD (alt+z.code.getD alt 0) 0==0)=true)
  (k:Ends z r N ⟨alt,p,handed,om,loops,inner,fs,some false⟩):Ends z r (N+1) ⟨pc0,pos0,handed,om0,loops,inner,{wait:=.nextBranch,pc:=alt,pos:=p,om,whole:=wh}::fs,some false⟩:=by
 refine bv (fun se=>⟨se,?_⟩) k
 cases wh <;>
 ·show (if (z.code.getD (alt+z.code.getD alt 0) 0==0)=true then _ else _)=_
  rw[if_pos h0];rfl
theorem lQ {f:Nat→Bool}{i:Nat}:∀{n:Nat} {w:List Nat} {pos:Nat},At z pos w→(∀c∈w,acc z.code i c=some (f c))→n≤w.length→∀found se,∃se',Sre.run z.code z.text i n pos found se=.ok (found+((w.take n).takeWhile f).length,se')
 |0,w,pos,h,ha,hn,found,se=>⟨se,rfl⟩
 |n+1,[],pos,h,ha,hn,found,se=>absurd hn (by simp)
 |n+1,c::w,pos,h,ha,hn,found,se=>by
  obtain⟨se1,e⟩:=lT (ha c (.head _)) se
  obtain⟨se2,e2⟩:=lQ h.next (fun d hd=>ha d (.tail _ hd)) (n:=n) (by simpa using hn) (found+1) se1
  unfold Sre.run
  simp only[h.sign,e]
  show ∃se',(if f c=true then Sre.run z.code z.text i n (pos+1) (found+1) se1 else pure (found,se1))=_
  simp only[List.take_succ_cons,Xw]
  by_cases q:f c=true
  ·rw[if_pos q,if_pos q,e2];exact⟨se2,by simp only[Qz];congr 2;exact R23⟩
  ·rw[if_neg q,if_neg q];exact⟨se1,rfl⟩
theorem cT (ho:ops[z.code.getD pc 0]?=some .REPEAT_ONE)(hc:pc<z.code.size)(hr:room fs){f:Nat→Bool}{w:List Nat}(hw:At z pos w)(ha:∀c∈w,acc z.code (pc+4) c=some (f c)){n m:Nat}
  (hm:min (z.code.getD (pc+3) 0) w.length=m) (hn:((w.take m).takeWhile f).length=n) (hl:z.code.getD (pc+2) 0≤n) (hl':z.code.getD (pc+2) 0≤w.length)
  (k:Ends z r N ⟨pc+1+z.code.getD (pc+1) 0,pos+n,pos+n,om,loops,inner,{wait:=.giveBack,pc,pos:=pos+n,om,count:=n,whole:=inner.isSome}::fs,none⟩):Ends z r (N+1) ⟨pc,pos,handed,om,loops,inner,fs,none⟩:=by
 refine bv (fun se=>?_) k
 rw[cf rfl hc]
 unfold M.exec
 rw[b7 ho]
 have hroom:((z.lim:Int)-(pos:Int)).toNat=w.length:=by have:=hw.1;exact R151 this
 obtain⟨se',e⟩:=lQ (n:=m) hw ha (R150 hm) 0 ((se.add (z.code.getD pc 0)).add (z.code.getD (pc+4) 0))
 refine⟨se',?_⟩
 show (if ((z.code.getD (pc+2) 0:Nat):Int) > (z.lim:Int)-(pos:Int) then _ else match Sre.run z.code z.text (pc+4) (min (z.code.getD (pc+3) 0) ((z.lim:Int)-(pos:Int)).toNat) pos 0 ((se.add (z.code.getD pc 0)).add (z.code.getD (pc+4) 0)) with | .error why=>_ | .ok (n,seen)=>_)=_
 simp only[if_neg (by have:=hw.1;exact R153 hl' this),hroom,hm,e]
 rw[if_neg (by exact R152 hn hl),hn,Nat.zero_add]
 cases inner<;>exact bu (a:=⟨pc,pos+n,handed,om,loops,_,fs,none⟩) (x:={wait:=.giveBack,pc,pos:=pos+n,om,count:=n,whole:=_}) hr
theorem ou (ho:ops[z.code.getD pc 0]?=some .REPEAT_ONE)(hc:pc<z.code.size){f:Nat→Bool}{w:List Nat}(hw:At z pos w)(ha:∀c∈w,acc z.code (pc+4) c=some (f c)){m:Nat}
  (hm:min (z.code.getD (pc+3) 0) w.length=m) (hl:((w.take m).takeWhile f).length<z.code.getD (pc+2) 0)
  (k:∀p,Ends z r N ⟨pc,p,handed,om,loops,inner,fs,some false⟩):Ends z r (N+1) ⟨pc,pos,handed,om,loops,inner,fs,none⟩:=by
 refine bv (fun se=>?_) (k pos)
 rw[cf rfl hc]
 unfold M.exec
 rw[b7 ho]
 have hroom:((z.lim:Int)-(pos:Int)).toNat=w.length:=by have:=hw.1;exact R151 this
 obtain⟨se',e⟩:=lQ (n:=m) hw ha (R150 hm) 0 ((se.add (z.code.getD pc 0)).add (z.code.getD (pc+4) 0))
 by_cases q:((z.code.getD (pc+2) 0:Nat):Int) > (z.lim:Int)-(pos:Int)
 ·refine⟨se.add (z.code.getD pc 0),?_⟩
  show (if ((z.code.getD (pc+2) 0:Nat):Int) > (z.lim:Int)-(pos:Int) then _ else match Sre.run z.code z.text (pc+4) (min (z.code.getD (pc+3) 0) ((z.lim:Int)-(pos:Int)).toNat) pos 0 ((se.add (z.code.getD pc 0)).add (z.code.getD (pc+4) 0)) with | .error why=>_ | .ok (n,seen)=>_)=_
  rw[if_pos q];rfl
 ·refine⟨se',?_⟩
  show (if ((z.code.getD (pc+2) 0:Nat):Int) > (z.lim:Int)-(pos:Int) then _ else match Sre.run z.code z.text (pc+4) (min (z.code.getD (pc+3) 0) ((z.lim:Int)-(pos:Int)).toNat) pos 0 ((se.add (z.code.getD pc 0)).add (z.code.getD (pc+4) 0)) with | .error why=>_ | .ok (n,seen)=>_)=_
  rw[if_neg q,hroom,hm,e]
  show (if 0+((w.take m).takeWhile f).length<z.code.getD (pc+2) 0 then _ else _)=_
  rw[if_pos (R149 hl)];rfl
theorem oF {pc0 pos0 p n:Nat}{om0 wh:Bool}(hr:room fs)(hl:z.code.getD (pc+2) 0≤n)
  (k:Ends z r N ⟨pc+1+z.code.getD (pc+1) 0,p,p,om,loops,inner,{wait:=.giveBack,pc,pos:=p,om,count:=n,whole:=wh}::fs,none⟩) :
  Ends z r (N+1) ⟨pc0,pos0,handed,om0,loops,inner,{wait:=.giveBack,pc,pos:=p+1,om,count:=(n+1:Nat),whole:=wh}::fs,some false⟩:=by
 refine bv (fun se=>⟨se,?_⟩) k
 have e:(((n+1:Nat):Int)-1)=(n:Int):=R88
 cases wh <;>
 ·show (if ((n+1:Nat):Int)-1<((z.code.getD (pc+2) 0:Nat):Int) then _ else _)=_
  rw[if_neg (R148 hl)]
  exact (bu (a:=⟨pc,p,handed,om,loops,inner,fs,none⟩) (x:={wait:=.giveBack,pc,pos:=p,om,count:=((n+1:Nat):Int)-1,whole:=_}) hr).trans (by simp only[e];rfl)
theorem oi {pc0 pos0 p n:Nat}{om0 wh:Bool}(hl:n≤z.code.getD (pc+2) 0)(k:Ends z r N ⟨pc,p,handed,om,loops,inner,fs,some false⟩) :
  Ends z r (N+1) ⟨pc0,pos0,handed,om0,loops,inner,{wait:=.giveBack,pc,pos:=p,om,count:=(n:Nat),whole:=wh}::fs,some false⟩:=by
 refine bv (fun se=>⟨se,?_⟩) k
 cases wh <;>
 ·show (if ((n:Nat):Int)-1<((z.code.getD (pc+2) 0:Nat):Int) then _ else _)=_
  rw[if_pos (R147 hl)];rfl
theorem rep (ho:ops[z.code.getD pc 0]?=some .REPEAT)(hc:pc<z.code.size)(hr:room fs)
  (k:Ends z r N ⟨pc+1+z.code.getD (pc+1) 0,pos,pos,om,loops.push {pc,outer:=inner},some loops.size,{wait:=.closeLoop,pc,pos,om,loop:=loops.size}::fs,none⟩):Ends z r (N+1) ⟨pc,pos,handed,om,loops,inner,fs,none⟩:=by
 refine bv (fun se=>⟨se.add (z.code.getD pc 0),?_⟩) k
 rw[cf rfl hc]
 unfold M.exec
 rw[b7 ho]
 exact bu (a:=⟨pc,pos,handed,om,loops.push {pc,outer:=inner},some loops.size,fs,none⟩) (x:={wait:=.closeLoop,pc,pos,om,loop:=loops.size}) hr
theorem bT (ho:ops[z.code.getD pc 0]?=some .MAX_UNTIL)(hc:pc<z.code.size)(hr:room fs){i:Nat}{l:Loop}(hl:loops.getD i dfl=l)(h0:decide (l.count+1<((z.code.getD (l.pc+2) 0:Nat):Int))=false)
  (hm:decide (l.count+1<((z.code.getD (l.pc+3) 0:Nat):Int))=true) (hb:l.began≠some pos)
  (k:Ends z r N ⟨l.pc+4,pos,pos,om,loops.modify i (fun l=>{l with count:=l.count+1,began:=some pos}),some i,{wait:=.maxMore,pc:=pc+1,pos,om,loop:=i,count:=l.count+1,whole:=true,began:=l.began}::fs,none⟩) :
  Ends z r (N+1) ⟨pc,pos,handed,om,loops,some i,fs,none⟩:=by
 refine bv (fun se=>⟨se.add (z.code.getD pc 0),?_⟩) k
 rw[cf rfl hc]
 unfold M.exec
 rw[b7 ho]
 have hmod:(loops.modify i fun l'=>{l' with count:=l.count+1,began:=some pos})=loops.modify i (fun l=>{l with count:=l.count+1,began:=some pos}):=by
  subst hl
  apply Array.ext
  ·simp
  ·intro j h1 h2
   simp only[Array.getElem_modify,Array.getElem_modify]
   by_cases e:i=j
   ·subst e;rw[if_pos rfl,if_pos rfl]
    have:i<loops.size:=by simpa using h1
    simp[Array.getD,this]
   ·simp only[if_neg e,if_neg e]
 subst hl
 show (if (loops.getD i dfl).count+1<((z.code.getD ((loops.getD i dfl).pc+2) 0:Nat):Int) then _ else if (!true)=true then _ else if ((decide ((loops.getD i dfl).count+1<((z.code.getD ((loops.getD i dfl).pc+3) 0:Nat):Int))||z.code.getD ((loops.getD i dfl).pc+3) 0==maxRepeat)&&(loops.getD i dfl).began != some pos)=true then _ else _)=_
 rw[if_neg (of_decide_eq_false h0),if_neg (by decide),if_pos (by simp only[hm,Bool.true_or,Bool.true_and];exact bne_iff_ne.mpr hb)]
 simp only[←hmod]
 exact bu (a:=⟨pc+1,pos,handed,om,_,some i,fs,none⟩) (x:={wait:=.maxMore,pc:=pc+1,pos,om,loop:=i,count:=(loops.getD i dfl).count+1,whole:=true,began:=(loops.getD i dfl).began}) hr
theorem gE (ho:ops[z.code.getD pc 0]?=some .MAX_UNTIL)(hc:pc<z.code.size)(hr:room fs){i:Nat}{l:Loop}(hl:loops.getD i dfl=l)(h0:decide (l.count+1<((z.code.getD (l.pc+2) 0:Nat):Int))=false)
  (hm:decide (l.count+1<((z.code.getD (l.pc+3) 0:Nat):Int))=false) (hx:(z.code.getD (l.pc+3) 0==maxRepeat)=false)
  (k:Ends z r N ⟨pc+1,pos,pos,om,loops,l.outer,{wait:=.maxTail,pc:=pc+1,pos,om,loop:=i,count:=l.count+1}::fs,none⟩) :
  Ends z r (N+1) ⟨pc,pos,handed,om,loops,some i,fs,none⟩:=by
 refine bv (fun se=>⟨se.add (z.code.getD pc 0),?_⟩) k
 rw[cf rfl hc]
 unfold M.exec
 rw[b7 ho]
 subst hl
 show (if (loops.getD i dfl).count+1<((z.code.getD ((loops.getD i dfl).pc+2) 0:Nat):Int) then _ else if (!true)=true then _ else if ((decide ((loops.getD i dfl).count+1<((z.code.getD ((loops.getD i dfl).pc+3) 0:Nat):Int))||z.code.getD ((loops.getD i dfl).pc+3) 0==maxRepeat)&&(loops.getD i dfl).began != some pos)=true then _ else _)=_
 rw[if_neg (of_decide_eq_false h0),if_neg (by decide),if_neg (by simp only[hm,hx];exact Bool.false_ne_true)]
 exact bu (a:=⟨pc+1,pos,handed,om,loops,(loops.getD i dfl).outer,fs,none⟩) (x:={wait:=.maxTail,pc:=pc+1,pos,om,loop:=i,count:=(loops.getD i dfl).count+1}) hr
theorem eZ {pc0 pos0:Nat}{om0:Bool}{i:Nat}{n:Int}{b:Option Nat}(hr:room fs){ls:Array Loop}(hls:(loops.modify i fun l=>{l with began:=b}).modify i (fun l=>{l with count:=n-1})=ls)
  (k:Ends z r N ⟨pc,pos,pos,om,ls,(ls.getD i dfl).outer,{wait:=.maxTail,pc,pos,om,loop:=i,count:=n}::fs,none⟩) :
  Ends z r (N+1) ⟨pc0,pos0,handed,om0,loops,inner,{wait:=.maxMore,pc,pos,om,loop:=i,count:=n,whole:=true,began:=b}::fs,some false⟩:=by
 refine bv (fun se=>⟨se,?_⟩) k
 subst hls
 exact bu (a:=⟨pc,pos,handed,om,_,_,fs,none⟩) (x:={wait:=.maxTail,pc,pos,om,loop:=i,count:=n}) hr
theorem tV {pc0 pos0:Nat}{om0 wh:Bool}{i:Nat}{n:Int}{b:Option Nat}(k:Ends z r N ⟨pc,pos,handed,om,loops,some i,fs,some false⟩) :
  Ends z r (N+1) ⟨pc0,pos0,handed,om0,loops,inner,{wait:=.maxTail,pc,pos,om,loop:=i,count:=n,whole:=wh,began:=b}::fs,some false⟩:=bv (fun se=>⟨se,rfl⟩) k
theorem sN {pc0 pos0:Nat}{om0 wh:Bool}{i:Nat}{n:Int}{b:Option Nat}(k:Ends z r N ⟨pc,pos,handed,om,loops.pop,(loops.getD i dfl).outer,fs,some false⟩) :
  Ends z r (N+1) ⟨pc0,pos0,handed,om0,loops,inner,{wait:=.closeLoop,pc,pos,om,loop:=i,count:=n,whole:=wh,began:=b}::fs,some false⟩:=bv (fun se=>⟨se,rfl⟩) k
theorem gG (ho:ops[z.code.getD pc 0]?=some .ASSERT_NOT)(hc:pc<z.code.size)(hr:room fs)(h2:z.code.getD (pc+2) 0=0)
  (k:Ends z r N ⟨pc+3,pos,pos,false,loops,inner,{wait:=.lookNot,pc,pos,om,whole:=inner.isSome}::fs,none⟩):Ends z r (N+1) ⟨pc,pos,handed,om,loops,inner,fs,none⟩:=by
 refine bv (fun se=>⟨se.add (z.code.getD pc 0),?_⟩) k
 rw[cf rfl hc]
 unfold M.exec
 rw[b7 ho]
 show (if pos<z.code.getD (pc+2) 0 then _ else M.attempt _ _ (pc+3) (pos-z.code.getD (pc+2) 0) false)=_
 rw[h2,if_neg (R146)]
 cases inner<;>exact bu (a:=⟨pc,pos,handed,om,loops,_,fs,none⟩) (x:={wait:=.lookNot,pc,pos,om,whole:=_}) hr
theorem sJ {pc0 pos0:Nat}{om0 wh:Bool}{i:Nat}{n:Int}{b:Option Nat}(k:Ends z r N ⟨pc,pos,handed,om,loops,inner,fs,some false⟩) :
  Ends z r (N+1) ⟨pc0,pos0,handed,om0,loops,inner,{wait:=.lookNot,pc,pos,om,loop:=i,count:=n,whole:=wh,began:=b}::fs,some true⟩:=bv (fun se=>⟨se,rfl⟩) k
theorem tY {pc0 pos0:Nat}{om0 wh:Bool}{i:Nat}{n:Int}{b:Option Nat}(k:Ends z r N ⟨pc+1+z.code.getD (pc+1) 0,pos,handed,om,loops,inner,fs,none⟩) :
  Ends z r (N+1) ⟨pc0,pos0,handed,om0,loops,inner,{wait:=.lookNot,pc,pos,om,loop:=i,count:=n,whole:=wh,began:=b}::fs,some false⟩:=by
 cases wh<;>exact bv (fun se=>⟨se,rfl⟩) k
end
end Re
end Mine
end
section
namespace Mine
namespace Re
open PySem PySem.Sre
noncomputable def chewC:Array Nat:=#[14,4,0,1,4294967295,24,17,1,4294967295,13,12,21,9,0,908,939524096,671088640,0,0,0,0,0,1,1]
noncomputable def junkC:Array Nat:=#[14,4,0,1,4294967295,24,11,0,4294967295,13,6,16,32,16,9,0,1,23,16,0,1,16,35,13,4,8,13,0,24,5,0,4294967295,2,1,18,16,10,1]
noncomputable def special (c:Nat):Bool:=c==91||c==93||c==40||c==41||c==123||c==125||c==35||c==39||c==34||c==92
noncomputable def ord_ (c:Nat):Bool:=!special c
noncomputable def bF (c:Nat):Bool:=c==32||c==9
noncomputable def gw (c:Nat):Bool:=(9≤c&&c≤13)||(28≤c&&c≤31)||c==32
theorem wY {p:Nat→Bool}(h:(List.range 128).all p=true){c:Nat}(hc:c<128):p c=true:=Xu.mp h c (List.mem_range.mpr hc)
theorem dq {code:Array Nat}{pc:Nat}{f:Nat→Bool}(h:((List.range 128).all fun c=>acc code pc c==some (f c))=true){c:Nat}(hc:c<128):acc code pc c=some (f c):=by
 simpa using wY h hc
theorem rI:((List.range 128).all fun c=>acc chewC 9 c==some (ord_ c))=true:=by decide +kernel
theorem mM:((List.range 128).all fun c=>acc junkC 9 c==some (bF c))=true:=by decide +kernel
theorem d9:((List.range 128).all fun c=>acc junkC 21 c==some (c==35))=true:=by decide +kernel
theorem jX:((List.range 128).all fun c=>acc junkC 23 c==some (!gw c))=true:=by decide +kernel
theorem pV:((List.range 128).all fun c=>acc junkC 32 c==some (c != 10))=true:=by decide +kernel
theorem jw:((List.range 128).all fun c=>acc junkC 35 c==some (c==10))=true:=by decide +kernel
def Low (w:List Nat):Prop:=∀c∈w,c<128
noncomputable def start (pc pos:Nat):A:=⟨pc,pos,pos,true,#[],none,[],none⟩
theorem ac {a b:Nat}(h:Nat.ble (a+1) b=true):a<b:=Nat.le_of_ble_eq_true h
theorem ng {a b:Nat}(h:Nat.ble a b=true):a≤b:=Nat.le_of_ble_eq_true h
theorem cP {n:Nat}(h:n≤4294967295):min 4294967295 n=n:=R163 h
theorem aj {f:Fr}{fs:List Fr}(h:f.passes=true)(k:∀f∈fs,f.passes=true):∀g∈f::fs,g.passes=true:=by
 intro g hg;cases hg with|head=>exact h|tail _ h=>exact k g h
theorem cB:∀f∈([]:List Fr),f.passes=true:=fun _ h=>by contradiction
theorem chew_ok {text:Array Nat}{lim st pos:Nat}{w:List Nat}(hw:At ⟨chewC,text,lim,st⟩ pos w)(hl:Low w)(hn:w.length≤4294967295) :
  Ends ⟨chewC,text,lim,st⟩ (if (w.takeWhile ord_).length=0 then none else some (pos+(w.takeWhile ord_).length)) 4 (start 5 pos):=by
 have ha:∀c∈w,acc chewC 9 c=some (ord_ c):=fun c hc=>dq rI (hl c hc)
 have ht:w.take w.length=w:=List.take_length
 by_cases q:(w.takeWhile ord_).length=0
 ·rw[if_pos q]
  refine (ou (N:=1) rfl (ac rfl) hw ha (m:=w.length) (cP hn) (by rw[ht,q];exact ac rfl) fun p=>fin_no).mono (by decide)
 ·rw[if_neg q]
  have hle:(w.takeWhile ord_).length≤w.length:=(List.takeWhile_sublist _).length_le
  refine (cT (N:=3) rfl (ac rfl) (ac rfl) hw ha (m:=w.length) (cP hn) (n:=(w.takeWhile ord_).length) (by rw[ht]) (Nat.pos_of_ne_zero q) (Zk (Nat.pos_of_ne_zero q) hle) ?_).mono (by decide)
  refine dv (pc:=23) rfl (ac rfl) ((dC (aj rfl cB)).mono (ng rfl))
noncomputable def hdB (f:Nat→Bool):List Nat→Bool
 | []=>false
 |c::_=>f c
noncomputable def junkB (w:List Nat):Bool:=hdB (fun a=>a==10||(a==35&&hdB (fun c=>!gw c) (w.dropWhile bF).tail)) (w.dropWhile bF)
section
variable {text:Array Nat}{lim st:Nat}
variable {p n N h:Nat}{w:List Nat}{r:Option Nat}
noncomputable abbrev jG (p n:Nat):Fr:={wait:=.giveBack,pc:=5,pos:=p,om:=true,count:=n}
noncomputable abbrev jC (p:Nat):Fr:={wait:=.closeLoop,pc:=17,pos:=p,om:=true,loop:=0}
noncomputable abbrev jM (p:Nat):Fr:={wait:=.maxMore,pc:=35,pos:=p,om:=true,loop:=0,count:=0,whole:=true}
noncomputable abbrev jZ (text:Array Nat) (lim st:Nat):Z:=⟨junkC,text,lim,st⟩
abbrev No (z:Z) (r:Option Nat) (N:Nat) (loops:Array Loop) (inner:Option Nat) (fs:List Fr):Prop:=∀h pc pos om,Ends z r N ⟨pc,pos,h,om,loops,inner,fs,some false⟩
theorem jh {z:Z}{pc pos N h:Nat}{om:Bool}{loops:Array Loop}{inner:Option Nat}{fs:List Fr}{op:Op}(ho:ops[z.code.getD pc 0]?=some op)(h1:m5 op=true)(hc:pc<z.code.size){f:Nat→Bool}
  (hf:((List.range 128).all fun c=>acc z.code pc c==some (f c))=true) {w:List Nat} (hw:At z pos w) (hl:Low w) (hno:∀c s,w=c::s→f c=false) (k:No z r N loops inner fs):Ends z r (N+1) ⟨pc,pos,h,om,loops,inner,fs,none⟩:=by
 refine mx ho h1 hc (fun hp=>?_) (k _ _ _ _)
 cases w with
 |nil=>have:=hw.nil;exact (R87 hp this).elim
 |cons c s=>rw[hw.sign,dq hf (hl c (.head _)),hno c s rfl]
theorem eV {z:Z}{pc pos N h c:Nat}{om:Bool}{loops:Array Loop}{inner:Option Nat}{fs:List Fr}{op:Op}(ho:ops[z.code.getD pc 0]?=some op)(h1:m5 op=true)(hc:pc<z.code.size){f:Nat→Bool}
  (hf:((List.range 128).all fun c=>acc z.code pc c==some (f c))=true) {w:List Nat} (hw:At z pos (c::w)) (hl:Low (c::w)) (hy:f c=true) (k:Ends z r N ⟨pc+itemWidth z.code pc,pos+1,h,om,loops,inner,fs,none⟩):Ends z r (N+1) ⟨pc,pos,h,om,loops,inner,fs,none⟩:=
 jb ho h1 hc hw.lt (by rw[hw.sign,dq hf (hl c (.head _)),hy]) k
theorem jT (hw:At (jZ text lim st) p w)(hl:Low w)(hno:∀c s,w=c::s→c≠10)(k:No (jZ text lim st) r N #[] none [jG p n]) :
  No (jZ text lim st) r (N+4) #[⟨17,0,some p,none⟩] (some 0) [jM p,jC p,jG p n]:=by
 intro h pc pos om
 refine eZ (ls:=#[⟨17,-1,none,none⟩]) (ac rfl) rfl ?_
 refine jh (op:=.LITERAL) rfl rfl (ac rfl) jw hw hl (fun c s e=>by simpa using hno c s e) fun h pc pos om=>?_
 exact tV (sN (k _ _ _ _))
theorem m4 (hw:At (jZ text lim st) p w)(hl:Low w)(hno:∀c s,w=c::s→c≠10∧(c=35→∀d t,s=d::t→gw d=true))(k:No (jZ text lim st) r N #[] none [jG p n]) :
  Ends (jZ text lim st) r (N+8) ⟨17,p,h,true,#[],none,[jG p n],none⟩:=by
 have k':=jT hw hl (fun c s e=>(hno c s e).1) k
 refine rep rfl (ac rfl) (ac rfl) ?_
 refine bT (pc:=34) (i:=0) (l:=⟨17,-1,none,none⟩) rfl (ac rfl) (ac rfl) rfl rfl rfl (fun e=>by contradiction) ?_
 by_cases q:∃s,w=35::s
 ·obtain⟨s,rfl⟩:=q
  refine eV (pc:=21) (op:=.LITERAL) rfl rfl (ac rfl) d9 hw hl rfl ?_
  exact jh (pc:=23) (op:=.IN) rfl rfl (ac rfl) jX hw.next (fun c hc=>hl c (.tail _ hc)) (fun d t e=>by rw[(hno 35 s rfl).2 rfl d t e];rfl) k'
 ·refine (jh (pc:=21) (op:=.LITERAL) rfl rfl (ac rfl) d9 hw hl (fun c s e=>?_) k').mono (R162)
  cases hc:(c==35) with
  |false=>rfl
  |true=>exact absurd ⟨s,by rw[e,eq_of_beq hc]⟩ q
theorem ka (hw:At (jZ text lim st) p (10::w))(hl:Low (10::w)):Ends (jZ text lim st) (some (p+1)) 10 ⟨17,p,h,true,#[],none,[jG p n],none⟩:=by
 refine (rep (N:=9) rfl (ac rfl) (ac rfl) ?_)
 refine bT (pc:=34) (i:=0) (l:=⟨17,-1,none,none⟩) rfl (ac rfl) (ac rfl) rfl rfl rfl (fun e=>by contradiction) ?_
 refine jh (pc:=21) (op:=.LITERAL) rfl rfl (ac rfl) d9 hw hl (fun c s e=>by (injection e with e;subst e);rfl) fun h pc pos om=>?_
 refine eZ (ls:=#[⟨17,-1,none,none⟩]) (ac rfl) rfl ?_
 refine eV (pc:=35) (op:=.LITERAL) rfl rfl (ac rfl) jw hw hl rfl ?_
 exact dv (pc:=37) rfl (ac rfl) ((dC (aj rfl (aj rfl (aj rfl cB)))).mono (ng rfl))
theorem jn {d:Nat}{u v:List Nat}(hw:At (jZ text lim st) p (35::d::(u++10::v)))(hl:Low (35::d::(u++10::v)))(hd:gw d=false)(hu:∀c∈u,(c != 10)=true)(hn:(u++10::v).length≤4294967295) :
  Ends (jZ text lim st) (some (p+2+u.length+1)) 14 ⟨17,p,h,true,#[],none,[jG p n],none⟩:=by
 refine (rep (N:=13) rfl (ac rfl) (ac rfl) ?_)
 refine bT (pc:=34) (i:=0) (l:=⟨17,-1,none,none⟩) rfl (ac rfl) (ac rfl) rfl rfl rfl (fun e=>by contradiction) ?_
 have l1:Low (d::(u++10::v)):=fun c hc=>hl c (.tail _ hc)
 have l2:Low (u++10::v):=fun c hc=>l1 c (.tail _ hc)
 refine eV (pc:=21) (op:=.LITERAL) rfl rfl (ac rfl) d9 hw hl rfl ?_
 refine eV (pc:=23) (op:=.IN) rfl rfl (ac rfl) jX hw.next l1 (by rw[hd];rfl) ?_
 have tw:(u++10::v).takeWhile (fun c=>c != 10)=u:=by
  rw[List.takeWhile_append_of_pos hu];simp
 refine cT (pc:=28) (f:=fun c=>c != 10) rfl (ac rfl) (ac rfl) hw.next.next (fun c hc=>dq pV (l2 c hc)) (cP hn) (n:=u.length) (by rw[List.take_length,tw]) (ng rfl) (Zj _) ?_
 refine gE (pc:=34) (i:=0) (l:=⟨17,0,some p,none⟩) rfl (ac rfl) (ac rfl) rfl rfl rfl rfl ?_
 have hw':=hw.next.next.drop (n:=u.length) (by simp)
 rw[List.drop_left] at hw'
 refine eV (pc:=35) (op:=.LITERAL) rfl rfl (ac rfl) jw hw' (fun c hc=>l2 c (List.mem_append_right _ hc)) rfl ?_
 exact dv (pc:=37) rfl (ac rfl) ((dC (aj rfl (aj rfl (aj rfl (aj rfl (aj rfl cB)))))).mono (ng rfl))
theorem tw_drop (f:Nat→Bool):∀w:List Nat,w.drop (w.takeWhile f).length=w.dropWhile f
 | []=>rfl
 |c::w=>by
  rw[Xw,List.dropWhile_cons]
  cases f c with
  |true=>exact tw_drop f w
  |false=>rfl
theorem tw_take (f:Nat→Bool):∀w:List Nat,w.take (w.takeWhile f).length=w.takeWhile f
 | []=>rfl
 |c::w=>by
  rw[Xw]
  cases f c with
  |true=>exact congrArg _ (tw_take f w)
  |false=>rfl
theorem tw_all (f:Nat→Bool):∀(w:List Nat) (c:Nat),c∈w.takeWhile f→f c=true
 | [],c,h=>by contradiction
 |d::w,c,h=>by
  rw[Xw] at h
  cases q:f d with
  |true=>
   rw[q] at h
   rcases Qy.mp h with h|h
   ·rw[h];exact q
   ·exact tw_all f w c h
  |false=>rw[q] at h;contradiction
theorem iF:∀{n:Nat},At (jZ text lim st) p w→Low w→n≤w.length→(∀c∈w.take n,bF c=true)→No (jZ text lim st) none (9*n+2) #[] none [jG (p+n) n]
 |0,hw,hl,hn,hb=>fun h pc pos om=>oi (Zj _) fin_no
 |n+1,hw,hl,hn,hb=>fun h pc pos om=>by
  have ih:=iF (n:=n) hw hl (R73 hn) (fun c hc=>hb c (by rw[List.take_add_one];exact List.mem_append_left _ hc))
  refine (oF (N:=9*n+2+8) (p:=p+n) (ac rfl) (Zj _) ?_).mono (R161)
  have hw':=hw.drop (n:=n) (R73 hn)
  refine m4 hw' (fun c hc=>hl c (List.mem_of_mem_drop hc)) (fun c s e=>?_) ih
  have hc:bF c=true:=by
   refine hb c ?_
   have:w[n]?=some c:=by rw[←List.head?_drop,e];rfl
   rw[List.take_add_one,this];exact List.mem_append_right _ (.head _)
  constructor
  ·rintro rfl;contradiction
  ·rintro rfl;contradiction
theorem junk_ok (hw:At (jZ text lim st) p w)(hl:Low w)(hn:w.length≤4294967295)(hnl:10∈w) :
  ∃r,r.isSome=junkB w∧Ends (jZ text lim st) r (9*w.length+20) (start 5 p):=by
 have e:w=w.takeWhile bF++w.dropWhile bF:=(List.takeWhile_append_dropWhile ..).symm
 have hlen:(w.takeWhile bF).length≤w.length:=(List.takeWhile_sublist _).length_le
 have hd:=tw_drop bF w
 have htk:=tw_take bF w
 have hall:=tw_all bF w
 have hw':=hw.drop (n:=(w.takeWhile bF).length) hlen
 rw[hd] at hw'
 have hl':Low (w.dropWhile bF):=fun c hc=>hl c ((List.dropWhile_sublist _).mem hc)
 have first:∀{r N},Ends (jZ text lim st) r N ⟨17,p+(w.takeWhile bF).length,p+(w.takeWhile bF).length,true,#[],none,[jG (p+(w.takeWhile bF).length) (w.takeWhile bF).length],none⟩→Ends (jZ text lim st) r (N+1) (start 5 p):=fun k=>
  cT (pc:=5) (f:=bF) rfl (ac rfl) (ac rfl) hw (fun c hc=>dq mM (hl c hc)) (cP hn) (n:=(w.takeWhile bF).length) (by rw[List.take_length]) (Zj _) (Zj _) k
 have noC:(∀c s,w.dropWhile bF=c::s→c≠10∧(c=35→∀d t,s=d::t→gw d=true))→Ends (jZ text lim st) none (9*w.length+20) (start 5 p):=fun hno=>
  (first (m4 hw' hl' hno (iF (n:=(w.takeWhile bF).length) hw hl hlen (by rw[htk];exact hall)))).mono (R160 hlen)
 unfold junkB
 cases e0:w.dropWhile bF with
 |nil=>exact⟨none,rfl,noC fun c s e1=>by rw[e0] at e1;contradiction⟩
 |cons a t0=>
 by_cases a10:a=10
 ·subst a10
  rw[e0] at hw' hl'
  exact⟨_,rfl,(first (ka hw' hl')).mono (R159)⟩
 have a10':(a==10)=false:=beq_eq_false_iff_ne.mpr a10
 by_cases a35:a=35
 rotate_left
 ·refine⟨none,?_,noC fun c s e1=>?_⟩
  ·show false=(a==10||(a==35&&_))
   rw[a10',beq_eq_false_iff_ne.mpr a35];rfl
  ·rw[e0] at e1;(injection e1 with e1 e1_;subst e1 e1_);exact⟨a10,fun q=>absurd q a35⟩
 ·subst a35
  cases t0 with
  |nil=>exact⟨none,rfl,noC fun c s e1=>by rw[e0] at e1;(injection e1 with e1 e1_;subst e1 e1_);exact⟨by decide,fun _ d t q=>by contradiction⟩⟩
  |cons c s=>
  have e1:=e0
  show ∃r:Option Nat,r.isSome=(!gw c)∧_
  cases hs:gw c with
  |true=>
   refine⟨none,rfl,noC fun a b e2=>?_⟩
   rw[e1] at e2;(injection e2 with e2 e2_;subst e2 e2_)
   exact⟨by decide,fun _ d t e3=>by (injection e3 with e3;subst e3);exact hs⟩
  |false=>
   have hin:10∈s:=by
    have h1:10∈w.dropWhile bF:=by
     rw[e] at hnl
     rcases Qu.mp hnl with h|h
     ·exact absurd (hall 10 h) (by decide)
     ·exact h
    rw[e1] at h1
    rcases Qy.mp h1 with h|h
    ·exact absurd h (by decide)
    ·rcases Qy.mp h with h|h
     ·rw[←h] at hs;exact absurd hs (by decide)
     ·exact h
   have hs1:s=s.takeWhile (fun c=>c != 10)++s.dropWhile (fun c=>c != 10):=(List.takeWhile_append_dropWhile ..).symm
   obtain⟨v,hv⟩:∃v,s.dropWhile (fun c=>c != 10)=10::v:=by
    cases hdw:s.dropWhile (fun c=>c != 10) with
    |nil=>
     rw[hdw,Zg] at hs1
     rw[hs1] at hin
     exact absurd (tw_all _ _ _ hin) (by decide)
    |cons a v=>
     have:=List.head?_dropWhile_not (fun c=>c != 10) s
     rw[hdw] at this
     have:a=10:=by simpa using this
     rw[this];exact⟨v,rfl⟩
   rw[hv] at hs1
   rw[e1] at hw' hl'
   have hlen2:s.length≤4294967295:=by
    have:(w.dropWhile bF).length≤w.length:=(List.dropWhile_sublist _).length_le
    rw[e1] at this;simp only[Qz] at this;exact R158 hn this
   rw[hs1] at hw' hl' hlen2
   exact⟨_,rfl,(first (jn hw' hl' hs (tw_all _ _) hlen2)).mono (R157)⟩
end
end Re
end Mine
end
section
namespace Mine
open PySem PyProof.Rows PySem.W PySem.Builtin PySem.Builtin.Re
noncomputable abbrev mId:String:="re.Pattern.match"
noncomputable abbrev xN (pv fv:Value) (tup:Addr):Obj:={cls:=.type "re.Pattern",data:=.fields #[pv,fv,.int 0 0,.none,.none,.ref tup,.int 0 0]}
noncomputable abbrev w9 (sv:Value) (pat:Addr) (a b:Nat) (tup:Addr):Obj:={cls:=.type "re.Match",data:=.fields #[sv,.ref pat,.int a 0,.int b 0,.int (-1) 0,.ref tup]}
theorem oZ:isSubtype (.type "re.Pattern") (.type "module")=pure false:=by rw[isSubtype_type];kernel_rfl
theorem l6:builtinKind mId=some .method:=by decide +kernel
theorem kP:entryFor table mId=some Builtin.«re.Pattern.match»:=entryFor_of_tree (by kernel_rfl)
theorem lz (a b c:Value):(match Manifest.signature? mId with|some sig=>Bind.checkArgs mId {sig with full:=toString (Bind.lastOf "re.Pattern")++toString "."++toString (Bind.lastOf mId)} ⟨[a,b,c],[]⟩|none=>pure ())=pure ():=by kernel_rfl
theorem lx (a b c d:Value):(match Manifest.signature? mId with|some sig=>Bind.checkArgs mId {sig with full:=toString (Bind.lastOf "re.Pattern")++toString "."++toString (Bind.lastOf mId)} ⟨[a,b,c,d],[]⟩|none=>pure ())=pure ():=by kernel_rfl
theorem wa (a b:Value):reNamed mId "match" ["string","pos","endpos"] 1 [a,b] []=pure [some a,some b,none]:=by rfl
theorem xf (a b c:Value):reNamed mId "match" ["string","pos","endpos"] 1 [a,b,c] []=pure [some a,some b,some c]:=by rfl
section
open Sre
theorem od {m:M}(h:m.outcome.isSome=true):m.step=m:=by unfold M.step;rw[if_pos h]
theorem ge {m:M}(h:m.outcome.isSome=true):∀n,Re.it n m=m
 |0=>rfl
 |n+1=>by show Re.it n m.step=m;rw[od h];exact ge h n
theorem iG:∀(n:Nat) (m:M),M.runFor n m=Re.it n m
 |0,m=>rfl
 |n+1,m=>by
  unfold M.runFor
  cases h:m.outcome.isSome with
  |true=>rw[if_pos rfl];exact (ge h _).symm
  |false=>rw[if_neg (by decide)];exact iG n m.step
theorem jJ:∀(a b:Nat) (m:M),Re.it (a+b) m=Re.it b (Re.it a m)
 |0,b,m=>by rw[Nat.zero_add];rfl
 |a+1,b,m=>by rw[Nat.add_right_comm];exact jJ a b m.step
end
section
variable {M:Model}{A:Around}{E:Value→Shared→Prop}{s:Shared}
theorem kK:∀{turns n:Nat} {m:Sre.M} {Q:Sre.M→Shared→Prop},n<4*turns→(Re.it n m).outcome.isSome=true→Q (Re.it n m) s→wpAny M A (reDrive turns m) Q E s
 |0,n,m,Q,hn,_,_=>absurd hn (R167)
 |turns+1,n,m,Q,hn,ho,h=>by
  unfold reDrive reTurnSteps
  show wpAny M A (if (Sre.M.runFor 4 m).outcome.isSome=true then pure (Sre.M.runFor 4 m) else _) Q E s
  rw[iG]
  by_cases q:n≤4
  ·have e:Re.it 4 m=Re.it n m:=by
    rw[show 4=n+(4-n) by exact R166 q,jJ];exact ge ho _
   rw[e,if_pos ho];exact Zp h
  ·cases hs:(Re.it 4 m).outcome.isSome with
   |true=>
    have e:Re.it n m=Re.it 4 m:=by rw[show n=4+(n-4) by exact R165 q,jJ];exact ge hs _
    rw[if_pos rfl];rw[e] at h;exact Zp h
   |false=>
    rw[if_neg (by decide)]
    refine Zb (wpAny_rule ?_)
    have e:Re.it n m=Re.it (n-4) (Re.it 4 m):=by rw[←jJ];congr 1;exact R165 q
    rw[e] at ho h
    exact kK (R164 hn q) ho h
theorem hV {m:Sre.M}{Q:PUnit→Shared→Prop}(h:Q ⟨⟩ s):∀(l:List Nat),wpAny M A (forIn l PUnit.unit fun i (_:PUnit)=>if m.seen.has i=true then (do rule (Sre.names.getD i "");pure (ForInStep.yield PUnit.unit)) else pure (ForInStep.yield PUnit.unit)) Q E s
 | []=>by rw[List.forIn_nil];exact Zp h
 |i::l=>by
  rw[List.forIn_cons]
  refine Zb ?_
  split
  ·exact Zb (wpAny_rule (Zp (hV h l)))
  ·exact Zp (hV h l)
theorem ut {z:Re.Z}{r:Option Nat}{N:Nat}{a:Re.A}{se:Sre.Seen}{Q:Option Sre.M→Shared→Prop}(h:Re.Ends z r N a)(hN:N<2 ^ 60)
  (hq:match r with|some e=>∀m:Sre.M,m.start=z.start→m.lastindex=-1→m.handed=e→Q (some m) s|none=>Q none s):wpAny M A (reRunToEnd (Re.mk z a se)) Q E s:=by
 obtain⟨n,hn,h1,h2,h3⟩:=h se
 unfold reRunToEnd
 refine Zb (kK (n:=n) (by omega) ?_ ?_)
 ·cases r with
  |none=>rw[h3];rfl
  |some e=>rw[h3.1];rfl
 ·refine Zb ?_
  refine hV ?_ _
  cases r with
  |none=>rw[h3];exact Zp hq
  |some e=>rw[h3.1];exact Zp (hq _ h1 h2 h3.2)
end
section
variable {M:Model}{A:Around}{E:Value→Shared→Prop}{s:Shared}
theorem g6 {i:Int}{t:Tok}{Q:Int→Shared→Prop}(h0:0≤i)(h1:i≤1048576)(h:Q i s):wpAny M A (reSsize (.int i t)) Q E s:=by
 unfold reSsize
 refine Zb (Jz (a:=i) rfl ?_)
 have e:(decide (i < -(2 ^ 63))||decide (i ≥ 2 ^ 63))=false:=by rw[decide_eq_false (by omega),decide_eq_false (by omega)];rfl
 show wpAny M A (if (decide (i < -(2 ^ 63))||decide (i ≥ 2 ^ 63))=true then _ else _) Q E s
 rw[e,if_neg (by decide)]
 exact Zp h
structure PatAt (h:Heap)(m pat:Addr)(code:Array Nat):Prop where
 fn:h.get? m=some (kf mId pat)
 ob:∃pv fv tup ep,h.get? pat=some (xN pv fv tup)∧h.get? tup=some (bq "tuple" (code.toList.map fun (w:Nat)=>rawInt w) ep)
theorem sq (code:Array Nat):(((code.toList.map fun (w:Nat)=>rawInt w).toArray).map reRawOf).map (·.toNat)=code:=by
 apply Array.ext
 ·simp
 ·intro i h1 h2;simp[rawInt,reRawOf]
theorem gJ {m pat:Addr}{code:Array Nat}(P:PatAt s.heap m pat code){x:Str}{t:Tok}{pos lim:Int}{Q:ReTarget→Shared→Prop}
  (h:Q {pattern:=.ref pat,string:=.str x t,code,text:=x.cps,kind:=0,groups:=0,pos:=min pos.toNat x.cps.size,lim:=min lim.toNat x.cps.size} s) :
  wpAny M A (do
   let fs ←fieldsOf (.ref pat)
   let (text,kind) ←reTextOf (.str x t)
   let want:=reRawNat (fs.getD 6 .none)
   if want==0&&kind==1 then raiseError "TypeError" "cannot use a string pattern on a bytes-like object"
   if want==1&&kind==0 then raiseError "TypeError" "cannot use a bytes pattern on a string-like object"
   reNoCollectionInside (.str x t) kind
   let clip (i:Int):Nat:=min i.toNat text.size
   pure {pattern:=.ref pat,string:=.str x t,code:=(←reRawItems (fs.getD 5 .none)).map (·.toNat),text,kind,groups:=reRawNat (fs.getD 2 .none),pos:=clip pos,lim:=clip lim:ReTarget}) Q E s:=by
 obtain⟨pv,fv,tup,ep,h1,h2⟩:=P.ob
 refine Zb (wpAny_fieldsOf h1 rfl ?_)
 refine Zb (Jz (a:=(x.cps,0)) rfl ?_)
 refine Zb (Jz (a:=()) rfl ?_)
 refine Zb ?_
 show wpAny M A (seqItems? (.ref tup)>>=fun o=>pure ((o.getD #[]).map reRawOf)) _ E s
 refine Zb (wpAny_seqItems h2 rfl (Zp ?_))
 show wpAny M A (pure {pattern:=.ref pat,string:=.str x t,code:=(((code.toList.map fun (w:Nat)=>rawInt w).toArray).map reRawOf).map (·.toNat),text:=x.cps,kind:=0,groups:=0,pos:=min pos.toNat x.cps.size,lim:=min lim.toNat x.cps.size:ReTarget}) Q E s
 rw[sq]
 exact Zp h
theorem vf {m pat:Addr}{code:Array Nat}(P:PatAt s.heap m pat code){x:Str}{t tp:Tok}{pos:Int}(h0:0≤pos)(h1:pos≤1048576)(hx:x.cps.size≤1048576){Q:ReTarget→Shared→Prop}
  (h:Q {pattern:=.ref pat,string:=.str x t,code,text:=x.cps,kind:=0,groups:=0,pos:=min pos.toNat x.cps.size,lim:=x.cps.size} s) :
  wpAny M A (reTarget mId "match" ⟨[.ref pat,.str x t,.int pos tp],[]⟩) Q E s:=by
 unfold reTarget
 refine Zb (Jz (wa _ _) ?_)
 refine Zb (g6 h0 h1 ?_)
 refine Zb (Jz (a:=(2 ^ 63-1:Int)) rfl ?_)
 refine gJ P ?_
 have e:min ((2 ^ 63-1:Int)).toNat x.cps.size=x.cps.size:=by
  have:((2 ^ 63-1:Int)).toNat=9223372036854775807:=by decide
  rw[this];exact R170 hx
 rw[e];exact h
theorem tZ {m pat:Addr}{code:Array Nat}(P:PatAt s.heap m pat code){x:Str}{t tp tq:Tok}{pos lim:Int}(h0:0≤pos)(h1:pos≤1048576)(h2:0≤lim)(h3:lim≤1048576){Q:ReTarget→Shared→Prop}
  (h:Q {pattern:=.ref pat,string:=.str x t,code,text:=x.cps,kind:=0,groups:=0,pos:=min pos.toNat x.cps.size,lim:=min lim.toNat x.cps.size} s) :
  wpAny M A (reTarget mId "match" ⟨[.ref pat,.str x t,.int pos tp,.int lim tq],[]⟩) Q E s:=by
 unfold reTarget
 refine Zb (Jz (xf _ _ _) ?_)
 refine Zb (g6 h0 h1 ?_)
 refine Zb (g6 h2 h3 ?_)
 exact gJ P h
def z4 (s:Shared)(sv:Value)(pat:Addr)(pos lim:Nat)(Q:Value→Shared→Prop):Option Nat→Prop
 |none=>Q .none s
 |some e=>Q (.ref (s.heap.objs.size+1)) {s with heap:=(s.heap.push (bq "tuple" [rawInt pos,rawInt e] 0)).push (w9 sv pat pos lim s.heap.objs.size)}
theorem kZ {code text:Array Nat}{pos lim:Nat}(h:(Sre.header code).1≤lim-pos):∃se,Sre.forMatch code text 0 pos lim false false=Re.mk ⟨code,text,lim,pos⟩ (Re.start (Sre.header code).2 pos) se:=by
 unfold Sre.forMatch
 refine⟨if (Sre.header code).2==0 then {} else ({}:Sre.Seen).add 14,?_⟩
 rw[if_neg (by simp only[Xv,decide_eq_true_eq,not_and];intro _ _;exact R169 h ‹_›)]
 rfl
theorem gx {code text:Array Nat}{pos lim:Nat}(hl:pos≤lim)(h:lim-pos<(Sre.header code).1):∃se,Sre.forMatch code text 0 pos lim false false=Re.mk ⟨code,text,lim,pos⟩ {Re.start (Sre.header code).2 pos with answer:=some false} se:=by
 unfold Sre.forMatch
 refine⟨if (Sre.header code).2==0 then {} else ({}:Sre.Seen).add 14,?_⟩
 rw[if_pos (by simp only[Xv,decide_eq_true_eq,bne_iff_ne];exact R168 hl h)]
 rfl
theorem oO {code text:Array Nat}{pos lim N:Nat}{sv:Value}{pat:Addr}{r:Option Nat}(hl:pos≤lim)(hN:N<2 ^ 60)(hN1:1≤N)(hr:Re.Ends ⟨code,text,lim,pos⟩ r N (Re.start (Sre.header code).2 pos)∧(Sre.header code).1≤lim-pos∨r=none∧lim-pos<(Sre.header code).1){Q:Fin→Shared→Prop}
  (h:z4 s sv pat pos lim (fun v s=>Q (.done (.ret v)) s) r) :
  wpAny M A (reAnswer {pattern:=.ref pat,string:=sv,code,text,kind:=0,groups:=0,pos,lim} (Sre.forMatch code text 0 pos lim false false)) Q E s:=by
 have go:∀{a se},Re.Ends ⟨code,text,lim,pos⟩ r N a→wpAny M A (reAnswer {pattern:=.ref pat,string:=sv,code,text,kind:=0,groups:=0,pos,lim} (Re.mk ⟨code,text,lim,pos⟩ a se)) Q E s:=by
  intro a se he
  unfold reAnswer
  refine Zb (ut he hN ?_)
  cases r with
  |none=>exact Zp h
  |some e=>
   intro m h1 h2 h3
   refine Zb ?_
   unfold reNewMatch
   refine Zb (wpAny_newTuple ?_ ?_)
   ·rw[h1,h3]
    refine wpAny_newObj_type ?_ (by show (6:Nat)≤sizeLine+2;rw[sizeLine_eq];decide)
    show wpAny M A (ret (.ref (s.heap.push _).objs.size)) Q E _
    rw[Heap.size_push,h2]
    exact Zp h
   ·show (2:Nat)≤sizeLine;rw[sizeLine_eq];decide
 rcases hr with ⟨he,h1⟩|⟨rfl,h1⟩
 ·obtain⟨se,e⟩:=kZ (text:=text) h1
  rw[e];exact go he
 ·obtain⟨se,e⟩:=gx (text:=text) hl h1
  rw[e];exact go (Re.Ends.mono Re.fin_no hN1)
end
section
variable {prog:Program}{w:World}{A:Around}{E:Value→Shared→Prop}{s:Shared}{m pat:Addr}{code:Array Nat}
theorem mo {pv fv:Value}{tup:Addr}(hG:s.heap.get? pat=some (xN pv fv tup)){Q:Bool→Shared→Prop}(h:Q false s):wpAny (model prog w) A (isType (.ref pat)) Q E s:=by
 have hT:s.TypeIs (.ref pat) "re.Pattern":=⟨_,hG,rfl⟩
 unfold isType
 repeat (any_goals (first|assumption|wp_step))
theorem kF {args:List Value}(hG:∃pv fv tup,s.heap.get? pat=some (xN pv fv tup)){Q:Unit→Shared→Prop}
  (ht:(match Manifest.signature? mId with|some sig=>Bind.checkArgs mId {sig with full:=toString (Bind.lastOf "re.Pattern")++toString "."++toString (Bind.lastOf mId)} ⟨.ref pat::args,[]⟩|none=>pure ())=pure ()) (h:Q () s) :
  wpAny (model prog w) A (checkBoundCall mId ⟨.ref pat::args,[]⟩) Q E s:=by
 obtain⟨pv,fv,tup,hG⟩:=hG
 have hT:s.TypeIs (.ref pat) "re.Pattern":=⟨_,hG,rfl⟩
 unfold checkBoundCall
 cases hsig:Manifest.signature? mId with
 |none=>exact Zp h
 |some sig=>
  rw[hsig] at ht
  simp only[l6]
  rw[if_neg (by decide)]
  refine Zb (wpAny_isInstance hT oZ ?_)
  rw[if_neg (by decide +kernel)]
  refine Zb (mo hG ?_)
  rw[if_neg (by decide)]
  refine Zb (wpAny_typeOf hT ?_)
  exact Jz ht h
end
section
variable {prog:Program}{w:World}{A:Around}{s:Shared}{m pat:Addr}{code:Array Nat}
theorem lh {args:List Value}(P:PatAt s.heap m pat code){R:Result→Shared→Prop}
  (ht:(match Manifest.signature? mId with|some sig=>Bind.checkArgs mId {sig with full:=toString (Bind.lastOf "re.Pattern")++toString "."++toString (Bind.lastOf mId)} ⟨.ref pat::args,[]⟩|none=>pure ())=pure ())
  (h:∀(A':Around) (E:Value→Shared→Prop),wpAny (model prog w) A' (Builtin.«re.Pattern.match» ⟨.ref pat::args,[]⟩) (fun f s'=>∃v,f=.done (.ret v)∧R (.ok (.ret v)) s') E s):codeAny (model prog w) A (.call (.ref m) ⟨args,[]⟩) R s:=by
 refine codeAny_of_tree ?_
 refine Zb (wpAny_load P.fn ?_)
 show wpAny _ A.in1 (if (Value.type "builtin_function_or_method" != Value.type "method")=true then (do checkBoundCall mId ⟨.ref pat::args,[]⟩;again (.builtin mId ⟨.ref pat::args,[]⟩)) else _) _ _ _
 rw[if_pos (by decide)]
 refine aG fun G9 back9=>?_;obtain⟨pv,fv,tup,ep,h1,h2⟩:=P.ob;refine back9 ?_
 refine Zb (kF ⟨_,_,_,h1⟩ ht (Zp ?_))
 refine⟨Code.quiet_builtin _ (by decide +kernel),?_⟩
 refine codeAny_builtin kP ?_
 refine Jq (h _ _) (fun f s' hf=>?_) (fun _ _ x=>x)
 obtain⟨v,rfl,hv⟩:=hf
 exact hv
end
noncomputable def aW (code:Array Nat):Spec:=fun vs c K=>∃(x:Str) (p q:Nat) (r:Option Nat) (N:Nat),
 (vs=[.d (.str x),.d (.int p)]∧q=x.length∨vs=[.d (.str x),.d (.int p),.d (.int q)])∧p≤q∧q≤x.length∧x.length≤big∧(1≤N∧N<2 ^ 60)∧
 (Re.Ends ⟨code,x.cps,q,p⟩ r N (Re.start (Sre.header code).2 p)∧(Sre.header code).1≤q-p∨r=none∧q-p<(Sre.header code).1)∧
 match r with
 |some e=>K (.mt e) c
 |none=>K (.d .none) c
theorem ey {M:Model}{h:Heap}{m pat:Addr}{code:Array Nat}(P:PatAt h m pat code):∃k,Looks M h (keeperOf (.ref m)) k:=by
 refine⟨.machine,fun A Q E s k q=>?_⟩
 unfold keeperOf
 refine Zb (wpAny_load (k _ _ P.fn) ?_)
 exact Zp q
theorem PatAt.keeps {h h':Heap}{m pat:Addr}{code:Array Nat}(P:PatAt h m pat code)(k:∀b o,h.get? b=some o→h'.get? b=some o):PatAt h' m pat code:=by
 obtain⟨pv,fv,tup,ep,h1,h2⟩:=P.ob
 exact⟨k _ _ P.fn,pv,fv,tup,ep,k _ _ h1,k _ _ h2⟩
theorem mC {prog:Program}{w:World}{hb:Heap}{d:Nat}{m pat:Addr}{code:Array Nat}(P:PatAt hb m pat code):FnOk prog w hb d m (aW code):=by
 intro A _ vs ws c α s K R hs C iv hsp hq
 obtain⟨x,p,q,r,N,hv,hpq,hql,hxl,⟨hN1,hN⟩,he,hK⟩:=hsp
 have P':=P.keeps C.base
 have hxs:x.cps.size=x.length:=rfl
 unfold big at hxl
 have fin:∀{t:Tok} {A':Around} {E:Value→Shared→Prop},wpAny (model prog w) A' (reAnswer {pattern:=.ref pat,string:=.str x t,code,text:=x.cps,kind:=0,groups:=0,pos:=p,lim:=q} (Sre.forMatch code x.cps 0 p q false false)) (fun f s'=>∃v,f=.done (.ret v)∧R (.ok (.ret v)) s') E s:=by
  intro t A' E
  refine oO hpq hN hN1 he ?_
  cases r with
  |none=>exact⟨_,rfl,hq _ c α _ s.heap s.toks hK C (Le.refl ..) .none⟩
  |some e=>
   refine⟨_,rfl,?_⟩
   have hk:∀b o,s.heap.get? b=some o→((s.heap.push (bq "tuple" [rawInt p,rawInt e] 0)).push (w9 (.str x t) pat p q s.heap.objs.size)).get? b=some o:=fun b o g=>Xz _ (Xz _ g)
   obtain⟨C',L'⟩:=C.keeps hk
   refine hq _ c α _ _ s.toks hK C' L' ⟨_,rfl,⟨⟨#[.str x t,.ref pat,.int p 0,.int q 0,.int (-1) 0,.ref s.heap.objs.size],s.heap.objs.size,p,0,?_,rfl,Xz _ (Xj _ rfl),be C⟩,?_⟩⟩
   ·have:=Xj (s.heap.push (bq "tuple" [rawInt p,rawInt e] 0)) (o:=w9 (.str x t) pat p q s.heap.objs.size) rfl
    rw[Heap.size_push] at this;exact this
   ·rintro⟨k,hk,e⟩
    obtain⟨q,g⟩:=C.ex hk
    rw[e] at g
    exact absurd (Heap.lt_size g) (by show ¬s.heap.objs.size+1<s.heap.objs.size;exact R177)
 rcases hv with ⟨rfl,rfl⟩|rfl
 ·refine aG fun G9 back9=>?_;obtain⟨v,v',rfl,i,j⟩:=iv.two;refine back9 ?_
  cases i;cases j
  refine lh P' (lz _ _ _) fun A' E=>?_
  unfold Builtin.«re.Pattern.match»
  refine Zb (vf P' (R72) (R176 hxl hpq) (R175 hxl) ?_)
  rw[show min ((p:Int)).toNat x.cps.size=p by exact R171 hpq]
  exact fin
 ·obtain⟨u,us,rfl,i1,ir⟩:=iv.uncons
  obtain⟨v,v',rfl,i2,i3⟩:=ir.two
  cases i1;cases i2;cases i3
  refine lh P' (lx _ _ _ _) fun A' E=>?_
  unfold Builtin.«re.Pattern.match»
  refine Zb (tZ P' (R72) (R174 hpq hql hxl) (R72) (R173 hql hxl) ?_)
  simp only[show min ((p:Int)).toNat x.cps.size=p by exact R172 hpq hql,show min ((q:Int)).toNat x.cps.size=q by exact R171 hql]
  exact fin
end Mine
end
section
namespace Mine
open PySem PyProof.Rows PySem.W
noncomputable def fB:List IS:=[.asg 4 (.bin .Add (.meth (.v 1) .rfind [(.c (.str ⟨#[10]⟩)),(.c (.int 0)),(.bin .Sub (.v 4) (.c (.int 1)))]) (.c (.int 1)))]
noncomputable def xL:IS:=.for_ 6 (.call (.g (.bi .range)) [(.item (.v 2) (.bin .Sub (.v 3) (.c (.int 1)))),(.item (.v 2) (.v 3))] none) fB
noncomputable def l1B (jr:Addr):List IS:=[.assert (.v 4),.asg 5 (.v 4),xL,
 .if_ (.call (.g (.val (.ref jr))) [(.v 1),(.v 4)] none) [.asg 3 (.bin .Sub (.v 3) (.c (.int 1)))] [.brk]]
noncomputable abbrev S1 (k:Nat) (x:Str) (gl:List Nat) (i p q nn:Option V):Sl:=[some (.obj k),some (.d (.str x)),some (.d (.lst (aR gl))),i,p,q,nn,none,none,none,none,none,none,none]
noncomputable abbrev I_ (i:Nat):Option V:=some (.d (.int (i:Nat)))
noncomputable def bo (x:Str)(gl:List Nat):Nat→Nat×Nat
 |0=>(0,0)
 |i+1=>if Re.junkB ((sg x).drop (au (sg x) (gl.getD i 0)))=true then bo x gl i else (au (sg x) (gl.getD i 0),au (sg x) (gl.getD (i+1) 0))
section
variable {P:Pm}{pr:List Nat}{k:Nat}{x:Str}{gl:List Nat}{c:aa}
theorem vK (hk:k∈dom c)(hc:bX c c c)(hp:∀j∈pr,j∈dom c){i p:Nat}{q q' nn nn':Option V}(hq:q'=none∨∃d,q=some (.d d)∧q'=q)(hn:nn'=none∨∃d,nn=some (.d d)∧nn'=nn) :
  Wk pr ⟨S1 k x gl (I_ i) (I_ p) q nn,c⟩ ⟨S1 k x gl (I_ i) (I_ p) q' nn',c⟩:=by
 refine⟨?_,rfl,hc,hp⟩
 refine⟨⟨_,rfl,.inl ⟨rfl,hk⟩⟩,⟨_,rfl,vD _ _ _⟩,⟨_,rfl,vD _ _ _⟩,⟨_,rfl,vD _ _ _⟩,⟨_,rfl,vD _ _ _⟩,?_⟩
 have tl:slW (S1 k x gl (I_ i) (I_ p) q nn) c c 7 [none,none,none,none,none,none,none]:=trivial
 have tn:slW (S1 k x gl (I_ i) (I_ p) q nn) c c 6 (nn'::[none,none,none,none,none,none,none]):=by
  rcases hn with rfl|⟨d,e,rfl⟩
  ·exact tl
  ·rw[e];exact⟨⟨_,e▸rfl,vD _ _ _⟩,tl⟩
 rcases hq with rfl|⟨d,e,rfl⟩
 ·exact tn
 ·rw[e];rw[e] at tn;exact⟨⟨_,rfl,vD _ _ _⟩,tn⟩
theorem kA {l:List Nat}{i a:Nat}(h:l[i]?=some a):(aR l)[i]?=some (.int (a:Nat)):=by simp[aR,h]
theorem ur {a b j:Nat}{d:D}(h:(bS (a:Int) (b:Int))[j]?=some d):a+j<b:=by
 unfold bS at h
 have:=(Qw.mp h).1
 simp at this;exact R194 this
theorem uh (a b:Nat):(bS (a:Int) (b:Int)).length=b-a:=by simp[bS]
theorem eQ {n:Nat}{f e1 e2:IE}{kk:Option Nat}{l:Sl}{u v1 v2:V}{K:V→aa→Prop}(hf:∀K':V→aa→Prop,K' u c→wpE P (n+3) f l c K')(h1:∀K':V→aa→Prop,K' v1 c→wpE P (n+2) e1 l c K')(h2:∀K':V→aa→Prop,K' v2 c→wpE P (n+1) e2 l c K')
  (h:ek P c kk u [v1,v2] K):wpE P (n+4) (.call f [e1,e2] kk) l c K:=by
 rw[dL]
 refine hf _ ?_
 rw[aQ]
 refine h1 _ ?_
 rw[aQ]
 refine h2 _ ?_
 exact h
theorem iE {i a:Nat}(h:gl[i]?=some a)(hl:gl.length≤big){K:D→Prop}(hK:K (.int (a:Nat))):ef c (.d (.lst (aR gl))) (.d (.int (i:Nat))) K:=by
 have hi:=(Qw.mp h).1
 have hl':(aR gl).length=gl.length:=by simp[aR]
 refine⟨by rw[hl'];exact hl,i,.int (a:Nat),?_,kA h,hK⟩
 rw[hl']
 unfold seqIndex?
 have h1:¬((i:Int)<0):=R17
 simp only[h1,if_false]
 rw[decide_eq_true (R72),decide_eq_true (R53 hi)]
 simp
theorem qE (hk:k∈dom c)(hc:bX c c c)(hp:∀j∈pr,j∈dom c)(T:TextOk x){n i a b:Nat}(ha:gl[i]?=some a)(hb:gl[i+1]?=some b)(hab:a<b)(hbn:b≤nls (sg x))(hgl:gl.length≤big){K:F→Sg'→Prop}
  (h:∀nn,(nn=none∨∃d,nn=some (.d d))→K .next ⟨S1 k x gl (I_ (i+1)) (I_ (au (sg x) a)) (I_ (au (sg x) b)) nn,c⟩) {nn:Option V} (hnn:nn=none∨∃d,nn=some (.d d)) :
  wpS P pr (n+20) xL ⟨S1 k x gl (I_ (i+1)) (I_ (au (sg x) b)) (I_ (au (sg x) b)) nn,c⟩ K:=by
 have hbx:b≤big:=by
  have h1:=eH (sg x) (m:=b-1) (n:=b) (R105 hab) hbn
  have h2:∀m,m≤nls (sg x)→m≤au (sg x) m:=by
   intro m
   induction m with
   |zero=>intro _;exact Zj _
   |succ m ih=>intro hm;have:=eH (sg x) (m:=m) (n:=m+1) (R43) hm;have:=ih (R73 hm);exact R193 ‹_› this
  have h3:=h2 b hbn
  have h4:=iN (sg x) b hbn
  have:=T.len
  exact R192 h3 h4 this
 have hlx:=T.len
 have hle:au (sg x) b≤(sg x).length:=iN (sg x) b hbn
 have hsl:=aE x
 unfold xL
 rw[nN]
 refine eQ (n:=n+15) (u:=.bi .range) (v1:=.d (.int (a:Nat))) (v2:=.d (.int (b:Nat))) (fun K' h=>h) (fun K' h=>?_) (fun K' h=>?_) ?_
 ·refine bd (n:=n+16) (.d (.lst (aR gl))) (.d (.int (i:Nat))) (fun K' h=>h) (fun K' h=>?_) (iE ha hgl h)
  have e:(((i+1:Nat):Int)-1)=(i:Nat):=R88
  show K' (.d (.int (((i+1:Nat):Int)-1))) c
  rw[e];exact h
 ·exact bd (n:=n+15) (.d (.lst (aR gl))) (.d (.int ((i+1:Nat)))) (fun K' h=>h) (fun K' h=>h) (iE hb hgl h)
 unfold big at hbx
 refine⟨⟨by exact R190,by exact R191 hab hbx,by exact R190,by exact R189 hbx⟩,bS (a:Int) (b:Int),rfl,fun j τ=>∃nn,(nn=none∨∃d,nn=some (.d d))∧j≤b-a∧τ=⟨S1 k x gl (I_ (i+1)) (I_ (au (sg x) (b-j))) (I_ (au (sg x) b)) nn,c⟩,⟨nn,hnn,Zj _,rfl⟩,?_,?_⟩
 ·rintro j d τ hd ⟨nn,hn,hj,rfl⟩
  have hj':=ur hd
  have hm:b-j-1<nls (sg x):=R188 hbn hj'
  have bk:=ya (x:=x) hm
  rw[show b-j-1+1=b-j by exact R187 hj'] at bk
  have hpos:0<au (sg x) (b-j):=by have:=eH (sg x) (m:=0) (n:=b-j) (R186 hj') (R185 hbn);rw[cb] at this;exact this
  have hle':au (sg x) (b-j)≤(sg x).length:=iN (sg x) (b-j) (R185 hbn)
  refine⟨by show 6<14;exact R184,?_⟩
  unfold fB
  refine ao (n:=n+17) (.d (.int ((au (sg x) (b-(j+1)):Nat)))) (fun K' h=>?_) ?_
  ·refine⟨rfl,rfl,⟨by decide,?_,?_⟩,?_⟩
   ·show (0:Int)≤((au (sg x) (b-j):Nat):Int)-1;exact R183 hpos
   ·show ((au (sg x) (b-j):Nat):Int)-1≤((x.length:Nat):Int);exact R182 hle'
   ·show K' (.d (.int (cS x ⟨#[10]⟩ (0:Int).toNat (((au (sg x) (b-j):Nat):Int)-1).toNat+1))) c
    rw[show (((au (sg x) (b-j):Nat):Int)-1).toNat=au (sg x) (b-j)-1 by exact R181,show (0:Int).toNat=0 from rfl,bk,show b-j-1=b-(j+1) by exact R180]
    exact h
  ·refine al ⟨_,vK hk hc hp (.inr ⟨_,rfl,rfl⟩) (.inr ⟨d,rfl,rfl⟩),some (.d d),.inr ⟨d,rfl⟩,by exact R179 hj',rfl⟩
 ·rintro τ ⟨nn,hn,hj,rfl⟩
  rw[uh,show b-(b-a)=a by exact R178 hab]
  exact h nn hn
end
theorem rK (x:Str){p q st:Nat}{code:Array Nat}(hpq:p≤q)(hq:q≤x.length):Re.At ⟨code,x.cps,q,st⟩ p (((sg x).take q).drop p):=by
 have hl:=aE x
 refine⟨by show p+(((sg x).take q).drop p).length=q;rw[Xp,List.length_take];exact R203 hpq hq,fun i c h=>?_⟩
 rw[Zx,List.getElem?_take] at h
 split at h
 ·have h':x.cps[p+i]?=some c:=by rw[←Array.getElem?_toList];exact h
  show x.cps.getD (p+i) 0=c
  rw[Array.getD_eq_getD_getElem?,h'];rfl
 ·contradiction
theorem mU {x:Str}(T:TextOk x)(p q:Nat):Re.Low (((sg x).take q).drop p):=fun c hc=>T.ascii c (List.mem_of_mem_take (List.mem_of_mem_drop hc))
section
variable {P:Pm}{pr:List Nat}{k:Nat}{x:Str}{gl:List Nat}{c:aa}
theorem tQ (T:TextOk x){p:Nat}(hp:p<x.length):10∈(sg x).drop p:=by
 have hl:=aE x
 rcases T.ends with h|h
 ·rw[h] at hl;simp at hl;exact (R202 hp hl).elim
 ·rw[Qp] at h
  have:((sg x).drop p)[(sg x).length-1-p]?=some 10:=by rw[Zx,show p+((sg x).length-1-p)=(sg x).length-1 by exact R201 hp];exact h
  exact Qg this
theorem oh {jr:Addr}(T:TextOk x)(hj:P.isFn jr=true)(hjf:P.fn jr=aW Re.junkC){p n:Nat}(hp:p<x.length){l:Sl}(h1:aF l 1=some (.d (.str x)))(h4:aF l 4=some (.d (.int (p:Nat))))(K':Bool→aa→Prop)(h:K' (Re.junkB ((sg x).drop p)) c) :
  wpT P (n+5) (.call (.g (.val (.ref jr))) [(.v 1),(.v 4)] none) l c K':=by
 have hl:=aE x
 have hT:=T.len
 have hb:x.length≤big:=R63 hT
 have e:((sg x).take x.length).drop p=(sg x).drop p:=by rw[←hl,List.take_length]
 have hA:=rK x (p:=p) (q:=x.length) (st:=p) (code:=Re.junkC) (R58 hp) (Zv _)
 rw[e] at hA
 have hlow:Re.Low ((sg x).drop p):=e▸mU T p x.length
 have hlen:((sg x).drop p).length≤1048576:=by rw[Xp];unfold big at hT;exact R200 hT
 obtain⟨r,hr,he⟩:=Re.junk_ok (text:=x.cps) (lim:=x.length) (st:=p) hA hlow (R199 hlen) (tQ T hp)
 show wpE P (n+4) (.call (.g (.val (.ref jr))) [(.v 1),(.v 4)] none) l c (fun u c1=>bR c1 u fun r=>K' r c1)
 refine eQ (n:=n) (u:=.val (.ref jr)) (v1:=.d (.str x)) (v2:=.d (.int (p:Nat))) (fun K' h=>h) (bD h1) (bD h4) ?_
 refine⟨hj,?_⟩
 rw[hjf]
 refine⟨x,p,x.length,r,_,.inl ⟨rfl,rfl⟩,by exact R58 hp,Zv _,hb,⟨?_,?_⟩,.inl ⟨he,by show 1≤x.length-p;exact R198 hp⟩,?_⟩
 ·exact R197
 ·omega
 ·cases r with
  |none=>exact⟨fun _ q=>q,by rw[←hr] at h;exact h⟩
  |some e=>exact⟨fun _ q=>q,by rw[←hr] at h;exact h⟩
theorem sn {jr:Addr}(T:TextOk x)(G:GoodOk x gl)(hgl:gl.length≤big)(hj:P.isFn jr=true)(hjf:P.fn jr=aW Re.junkC)(hk:k∈dom c)(hc:bX c c c)(hp:∀j∈pr,j∈dom c){n:Nat}{K:F→Sg'→Prop}
  (h0:bo x gl (gl.length-1)=(0,0)→K .next ⟨S1 k x gl (I_ 0) (I_ 0) none none,c⟩)
  (h1:∀i a b nn,(nn=none∨∃d,nn=some (.d d))→gl[i]?=some a→gl[i+1]?=some b→bo x gl (gl.length-1)=(au (sg x) a,au (sg x) b)→K .next ⟨S1 k x gl (I_ (i+1)) (I_ (au (sg x) a)) (I_ (au (sg x) b)) nn,c⟩) :
  wpS P pr (n+30) (.while_ (.v 3) (l1B jr) []) ⟨S1 k x gl (I_ (gl.length-1)) (I_ x.length) none none,c⟩ K:=by
 have hlx:=aE x
 have hlast:=G.last
 rw[Qp] at hlast
 refine⟨fun k' τ=>∃i g,k'=i∧gl[i]?=some g∧bo x gl i=bo x gl (gl.length-1)∧τ=⟨S1 k x gl (I_ i) (I_ (au (sg x) g)) none none,c⟩,gl.length-1,⟨_,_,rfl,hlast,rfl,by rw[lU (sg x) T.ends,hlx]⟩,?_⟩
 rintro i τ ⟨_,g,rfl,hg,hst,rfl⟩
 show ((((i:Nat):Int) != 0)=true→_)∧((((i:Nat):Int) != 0)=false→_)
 refine⟨fun hne=>?_,fun he=>?_⟩
 ·cases i with
  |zero=>contradiction
  |succ i=>
   have hi1:=(Qw.mp hg).1
   obtain⟨a,ha⟩:∃a,gl[i]?=some a:=⟨_,Qk (R120 hi1)⟩
   obtain⟨hab,hbn⟩:=G.at_ ha hg
   have hpos:au (sg x) a<au (sg x) g:=eH (sg x) hab hbn
   have hle:=iN (sg x) g hbn
   unfold l1B
   refine cg (n:=n+27) (c':=c) (fun K' h=>?_) ?_
   ·show K' (((au (sg x) g:Nat):Int) != 0) c
    rw[show ((((au (sg x) g:Nat):Int) != 0)=true) from bne_iff_ne.mpr (R196 hpos)];exact h
   refine ao (n:=n+26) (.d (.int ((au (sg x) g:Nat)))) (fun K' h=>h) ?_
   refine dn (n:=n+26) (qE (n:=n+6) hk hc hp T ha hg hab hbn hgl (fun nn hnn=>?_) (.inl rfl))
   have jk:bo x gl (i+1)=if Re.junkB ((sg x).drop (au (sg x) a))=true then bo x gl i else (au (sg x) a,au (sg x) g):=by
    rw[bo,List.getD_eq_getElem?_getD,List.getD_eq_getElem?_getD,ha,hg];rfl
   refine a9 (n:=n+24) (Re.junkB ((sg x).drop (au (sg x) a))) (c':=c) (fun K' h=>oh (n:=n+19) T hj hjf (R195 hpos hle) rfl rfl K' h) ?_
   cases hq:Re.junkB ((sg x).drop (au (sg x) a)) with
   |true=>
    rw[hq,if_pos rfl] at jk
    refine ao (n:=n+22) (.d (.int ((i:Nat)))) (fun K' h=>?_) (al (al ⟨i,_,Nat.lt_succ_self _,vK (i:=i) hk hc hp (.inl rfl) (.inl rfl),i,a,rfl,ha,jk▸hst,rfl⟩))
    have e:(((i+1:Nat):Int)-1)=(i:Nat):=R88
    show K' (.d (.int (((i+1:Nat):Int)-1))) c
    rw[e];exact h
   |false=>
    rw[hq,if_neg (by decide)] at jk
    exact h1 i a g nn hnn ha hg (by rw[←hst,jk])
 ·have hi0:i=0:=by
   have:((i:Nat):Int)=0:=by simpa using he
   exact R49 this
  subst hi0
  have:g=0:=by
   have h2:=G.hd
   rw[List.head?_eq_getElem?,hg] at h2
   cases h2;rfl
  subst this
  rw[cb]
  exact al (h0 (by rw[←hst];rfl))
end
end Mine
end
section
namespace Mine
namespace Re
open PySem PySem.Sre
noncomputable def strC:Array Nat:=#[14,9,4,1,4294967295,16,34,16,39,0,7,72,16,34,16,34,16,34,24,12,0,4294967295,13,7,21,16,34,16,92,0,1,23,37,0,4294967295,7,6,16,92,3,15,15,13,16,34,5,7,0,16,34,16,34,1,15,2,0,24,12,0,4294967295,13,7,21,16,34,16,92,0,1,18,23,9,0,1,16,34,16,34,16,34,18,15,186,56,16,34,24,17,0,4294967295,13,12,21,9,1024,4,268435456,0,0,0,0,0,0,1,23,24,0,4294967295,16,92,3,24,17,0,4294967295,13,12,21,9,1024,4,268435456,0,0,0,0,0,0,1,18,24,6,0,1,16,34,1,15,130,72,16,39,16,39,16,39,24,12,0,4294967295,13,7,21,16,39,16,92,0,1,23,37,0,4294967295,7,6,16,92,3,15,15,13,16,39,5,7,0,16,39,16,39,1,15,2,0,24,12,0,4294967295,13,7,21,16,39,16,92,0,1,18,23,9,0,1,16,39,16,39,16,39,18,15,58,56,16,39,24,17,0,4294967295,13,12,21,9,1024,128,268435456,0,0,0,0,0,0,1,23,24,0,4294967295,16,92,3,24,17,0,4294967295,13,12,21,9,1024,128,268435456,0,0,0,0,0,0,1,18,24,6,0,1,16,39,1,15,2,0,1]
noncomputable def qt (b:Bool):Nat:=if b then 39 else 34
noncomputable def of (b:Bool):Nat:=if b then 128 else 0
noncomputable def f3 (q c:Nat):Bool:=c != q&&c != 92
noncomputable def f1 (q c:Nat):Bool:=c != q&&c != 92&&c != 10
noncomputable def sEnd3 (q:Nat):List Nat→Nat
 | []=>0
 | [c]=>if c=92 then 0 else 1
 |c::d::r=>if c=92 then 2+sEnd3 q r else if c=q∧d=q∧r.head?=some q then 3 else 1+sEnd3 q (d::r)
noncomputable def sEnd1 (q:Nat):List Nat→Nat
 | []=>0
 | [c]=>if c=92∨c=10 then 0 else 1
 |c::d::r=>if c=92 then 2+sEnd1 q r else if c=10 then 0 else if c=q then 1 else 1+sEnd1 q (d::r)
theorem fo (q:Nat):∀w:List Nat,sEnd3 q w=(w.takeWhile (f3 q)).length+sEnd3 q (w.dropWhile (f3 q))
 | []=>rfl
 | [c]=>by
  rw[Xw,List.dropWhile_cons]
  cases h:f3 q c with
  |false=>simp
  |true=>
   have:c≠92:=by rintro rfl;simp[f3] at h
   simp[sEnd3,this]
 |c::d::r=>by
  rw[Xw,List.dropWhile_cons]
  cases h:f3 q c with
  |false=>simp
  |true=>
   have h1:c≠92:=by rintro rfl;simp[f3] at h
   have h2:c≠q:=by rintro rfl;simp[f3] at h
   rw[if_pos rfl,if_pos rfl,sEnd3,if_neg h1,if_neg (fun e=>h2 e.1),fo q (d::r),Qz];exact R264
theorem fz (q:Nat):∀w:List Nat,sEnd1 q w=(w.takeWhile (f1 q)).length+sEnd1 q (w.dropWhile (f1 q))
 | []=>rfl
 | [c]=>by
  rw[Xw,List.dropWhile_cons]
  cases h:f1 q c with
  |false=>simp
  |true=>
   have h1:c≠92:=by rintro rfl;simp[f1] at h
   have h2:c≠10:=by rintro rfl;simp[f1] at h
   simp[sEnd1,h1,h2]
 |c::d::r=>by
  rw[Xw,List.dropWhile_cons]
  cases h:f1 q c with
  |false=>simp
  |true=>
   have h1:c≠92:=by rintro rfl;simp[f1] at h
   have h2:c≠q:=by rintro rfl;simp[f1] at h
   have h3:c≠10:=by rintro rfl;simp[f1] at h
   rw[if_pos rfl,if_pos rfl,sEnd1,if_neg h1,if_neg h3,if_neg h2,fz q (d::r),Qz];exact R264
theorem je {code:Array Nat}{pc x:Nat}(ho:ops[code.getD pc 0]?=some .LITERAL)(hx:code.getD (pc+1) 0=x)(c:Nat):acc code pc c=some (c==x):=by
 unfold acc accepts;rw[ho,hx];rfl
theorem ud {code:Array Nat}{pc:Nat}(ho:ops[code.getD pc 0]?=some .ANY_ALL)(c:Nat):acc code pc c=some true:=by
 unfold acc accepts;simp only[ho];rfl
section
variable {z:Z}{r:Option Nat}{N pc pos h x:Nat}{om:Bool}{loops:Array Loop}{inner:Option Nat}{fs:List Fr}{w:List Nat}
theorem lw (ho:ops[z.code.getD pc 0]?=some .LITERAL):itemWidth z.code pc=2:=by unfold itemWidth;rw[ho]
theorem cL (ho:ops[z.code.getD pc 0]?=some .LITERAL)(hc:pc<z.code.size)(hx:z.code.getD (pc+1) 0=x)(hw:At z pos (x::w))(k:Ends z r N ⟨pc+2,pos+1,h,om,loops,inner,fs,none⟩):Ends z r (N+1) ⟨pc,pos,h,om,loops,inner,fs,none⟩:=
 jb ho rfl hc hw.lt (by simp only[hw.sign,je ho hx,beq_self_eq_true]) (by rw[lw ho];exact k)
theorem ed (ho:ops[z.code.getD pc 0]?=some .LITERAL)(hc:pc<z.code.size)(hx:z.code.getD (pc+1) 0=x)(hw:At z pos w)(hno:∀s,w≠x::s)(k:No z r N loops inner fs):Ends z r (N+1) ⟨pc,pos,h,om,loops,inner,fs,none⟩:=by
 refine mx ho rfl hc (fun hp=>?_) (k _ _ _ _)
 cases w with
 |nil=>have:=hw.nil;exact (R87 hp this).elim
 |cons c s=>
  rw[hw.sign,je ho hx]
  cases q:(c==x) with
  |false=>rfl
  |true=>exact absurd (by rw[eq_of_beq q]) (hno s)
theorem yK {c:Nat}(ho:ops[z.code.getD pc 0]?=some .ANY_ALL)(hc:pc<z.code.size)(hw:At z pos (c::w))(k:Ends z r N ⟨pc+1,pos+1,h,om,loops,inner,fs,none⟩):Ends z r (N+1) ⟨pc,pos,h,om,loops,inner,fs,none⟩:=
 jb ho rfl hc hw.lt (ud ho _) (by rw[show itemWidth z.code pc=1 by unfold itemWidth;rw[ho]];exact k)
theorem zc (ho:ops[z.code.getD pc 0]?=some .ANY_ALL)(hc:pc<z.code.size)(hw:At z pos [])(k:No z r N loops inner fs):Ends z r (N+1) ⟨pc,pos,h,om,loops,inner,fs,none⟩:=
 mx ho rfl hc (fun hp=>by have:=hw.nil;exact (R87 hp this).elim) (k _ _ _ _)
end
theorem in3 (b:Bool):((List.range 128).all fun c=>acc strC (of b+22) c==some (f3 (qt b) c))=true:=by cases b<;>decide +kernel
theorem zG (b:Bool):((List.range 128).all fun c=>acc strC (of b+60) c==some (f3 (qt b) c))=true:=by cases b<;>decide +kernel
theorem in1 (b:Bool):((List.range 128).all fun c=>acc strC (of b+90) c==some (f1 (qt b) c))=true:=by cases b<;>decide +kernel
theorem zD (b:Bool):((List.range 128).all fun c=>acc strC (of b+115) c==some (f1 (qt b) c))=true:=by cases b<;>decide +kernel
section
variable {text:Array Nat}{lim st:Nat}
noncomputable abbrev sZ (text:Array Nat) (lim st:Nat):Z:=⟨strC,text,lim,st⟩
theorem fH {f:Fr}{fs:List Fr}{n:Nat}(h:fs.length+(n+1)<16777216):(f::fs).length+n<16777216:=by simp only[Qz];exact R263 h
theorem bM {fs:List Fr}{n:Nat}(h:fs.length+n<16777216):room fs:=by unfold room;exact R262 h
theorem oT (b:Bool){pos h:Nat}{w:List Nat}{fs:List Fr}{loops:Array Loop}(hs:loops.size=1)(hw:At (sZ text lim st) pos w)(hp:∀f∈fs,f.passes=true)(hr:fs.length+6<16777216){e:Nat}
  (he:(∃s,w=qt b::qt b::qt b::s)∧e=pos+3∨(¬ ∃s,w=qt b::qt b::qt b::s)∧e=pos) :
  Ends (sZ text lim st) (some e) (fs.length+16) ⟨of b+70,pos,h,true,loops,none,fs,none⟩:=by
 obtain⟨l0,rfl⟩:∃l0,loops=#[l0]:=by
  obtain⟨ls⟩:=loops
  match ls,hs with
  | [l],_=>exact⟨l,rfl⟩
 rcases he with ⟨⟨s,rfl⟩,he⟩|⟨hno,he⟩<;>rw[he]
 ·cases b <;>
  ·refine rep rfl (ac rfl) (bM hr) ?_
   refine bT (i:=1) (l:=⟨_,-1,none,none⟩) rfl (ac rfl) (bM (n:=4) (fH (R256 hr))) rfl rfl rfl (fun e=>by contradiction) ?_
   refine cL rfl (ac rfl) rfl hw (cL rfl (ac rfl) rfl hw.next (cL rfl (ac rfl) rfl hw.next.next ?_))
   refine gE (i:=1) (l:=⟨_,0,some pos,none⟩) rfl (ac rfl) (bM (n:=3) (fH (fH (R261 hr)))) rfl rfl rfl rfl ?_
   refine sf rfl (ac rfl) (dv rfl (ac rfl) ?_)
   exact (dC (aj rfl (aj rfl (aj rfl hp)))).mono (by dsimp only[Qz];exact R260)
 ·have no3:∀N fs',No (sZ text lim st) (some pos) N #[l0,⟨of b+70,0,some pos,none⟩] (some 1) fs'→Ends (sZ text lim st) (some pos) (N+3) ⟨of b+74,pos,pos,true,#[l0,⟨of b+70,0,some pos,none⟩],some 1,fs',none⟩:=by
   intro N fs' k
   by_cases q1:∃s,w=qt b::s
   ·obtain⟨s1,rfl⟩:=q1
    by_cases q2:∃s,s1=qt b::s
    ·obtain⟨s2,rfl⟩:=q2
     have q3:∀s,s2≠qt b::s:=fun s e=>hno ⟨s,by rw[e]⟩
     cases b<;>exact cL rfl (ac rfl) rfl hw (cL rfl (ac rfl) rfl hw.next (ed rfl (ac rfl) rfl hw.next.next q3 k))
    ·have q2':∀s,s1≠qt b::s:=fun s e=>q2 ⟨s,e⟩
     refine Ends.mono (N:=N+2) ?_ (R259)
     cases b<;>exact cL rfl (ac rfl) rfl hw (ed rfl (ac rfl) rfl hw.next q2' k)
   ·have q1':∀s,w≠qt b::s:=fun s e=>q1 ⟨s,e⟩
    refine Ends.mono (N:=N+1) ?_ (R258)
    cases b<;>exact ed rfl (ac rfl) rfl hw q1' k
  cases b <;>
  ·refine rep rfl (ac rfl) (bM hr) ?_
   refine bT (i:=1) (l:=⟨_,-1,none,none⟩) rfl (ac rfl) (bM (n:=4) (fH (R256 hr))) rfl rfl rfl (fun e=>by contradiction) ?_
   refine (no3 (fs.length+6) _ fun h pc p om=>?_).mono (R257)
   refine eZ (ls:=#[l0,⟨_,-1,none,none⟩]) (bM (n:=4) (fH (R256 hr))) rfl ?_
   refine sf rfl (ac rfl) (dv rfl (ac rfl) ?_)
   exact (dC (aj rfl (aj rfl hp))).mono (by dsimp only[Qz];exact R255)
theorem eM {w:List Nat}(hl:Low w)(n:Nat):Low (w.drop n):=fun c hc=>hl c (List.mem_of_mem_drop hc)
theorem low_next {c:Nat}{w:List Nat}(hl:Low (c::w)):Low w:=fun d hd=>hl d (.tail _ hd)
theorem nR (b:Bool){pos h pc N:Nat}{w:List Nat}{fs:List Fr}{loops:Array Loop}{inner:Option Nat}{r:Option Nat}(hp:pc=18∨pc=56)(hw:At (sZ text lim st) pos w)(hl:Low w)(hn:w.length≤4294967295)(hr:room fs)
  (k:∀n,n=(w.takeWhile (f3 (qt b))).length→Ends (sZ text lim st) r N ⟨of b+(pc+13),pos+n,pos+n,true,loops,inner,{wait:=.giveBack,pc:=of b+pc,pos:=pos+n,om:=true,count:=n,whole:=inner.isSome}::fs,none⟩) :
  Ends (sZ text lim st) r (N+1) ⟨of b+pc,pos,h,true,loops,inner,fs,none⟩:=by
 have k':=k _ rfl
 rcases hp with rfl|rfl
 ·have ha:∀c∈w,acc strC (of b+22) c=some (f3 (qt b) c):=fun c hc=>dq (in3 b) (hl c hc)
  cases b<;>exact cT rfl (ac rfl) hr hw ha (cP hn) (by rw[List.take_length]) (Zj _) (Zj _) k'
 ·have ha:∀c∈w,acc strC (of b+60) c=some (f3 (qt b) c):=fun c hc=>dq (zG b) (hl c hc)
  cases b<;>exact cT rfl (ac rfl) hr hw ha (cP hn) (by rw[List.take_length]) (Zj _) (Zj _) k'
theorem j0 (b:Bool){pos h pc N:Nat}{w:List Nat}{fs:List Fr}{loops:Array Loop}{inner:Option Nat}{r:Option Nat}(hp:pc=86∨pc=111)(hw:At (sZ text lim st) pos w)(hl:Low w)(hn:w.length≤4294967295)(hr:room fs)
  (k:∀n,n=(w.takeWhile (f1 (qt b))).length→Ends (sZ text lim st) r N ⟨of b+(pc+18),pos+n,pos+n,true,loops,inner,{wait:=.giveBack,pc:=of b+pc,pos:=pos+n,om:=true,count:=n,whole:=inner.isSome}::fs,none⟩) :
  Ends (sZ text lim st) r (N+1) ⟨of b+pc,pos,h,true,loops,inner,fs,none⟩:=by
 have k':=k _ rfl
 rcases hp with rfl|rfl
 ·have ha:∀c∈w,acc strC (of b+90) c=some (f1 (qt b) c):=fun c hc=>dq (in1 b) (hl c hc)
  cases b<;>exact cT rfl (ac rfl) hr hw ha (cP hn) (by rw[List.take_length]) (Zj _) (Zj _) k'
 ·have ha:∀c∈w,acc strC (of b+115) c=some (f1 (qt b) c):=fun c hc=>dq (zD b) (hl c hc)
  cases b<;>exact cT rfl (ac rfl) hr hw ha (cP hn) (by rw[List.take_length]) (Zj _) (Zj _) k'
theorem gv (b:Bool){pos:Nat}{cnt:Int}{bg:Option Nat}{w:List Nat}{fs:List Fr}(hw:At (sZ text lim st) pos w)(hp:∀f∈fs,f.passes=true)(hr:fs.length+7<16777216){e:Nat}
  (he:(∃s,w=qt b::qt b::qt b::s)∧e=pos+3∨(¬ ∃s,w=qt b::qt b::qt b::s)∧e=pos) :
  No (sZ text lim st) (some e) (fs.length+18) #[⟨of b+31,cnt+1,some pos,none⟩] (some 0) ({wait:=.maxMore,pc:=of b+70,pos,om:=true,loop:=0,count:=cnt+1,whole:=true,began:=bg}::fs):=by
 intro h pc p om
 refine eZ (ls:=#[⟨of b+31,cnt+1-1,bg,none⟩]) (bM (n:=7) hr) rfl ?_
 exact (oT b rfl hw (aj rfl hp) (fH (n:=6) hr) he).mono (by dsimp only[Qz];exact R254)
theorem ko {q:Nat}(hq:q≠92){w:List Nat}(h:¬ ∃s,w=q::q::s):sEnd3 q (q::w)=1+sEnd3 q w:=by
 cases w with
 |nil=>simp[sEnd3,hq]
 |cons d r=>
  rw[sEnd3,if_neg hq,if_neg]
  rintro⟨-,rfl,e⟩
  cases r with
  |nil=>contradiction
  |cons a s=>(injection e with e;subst e);exact h ⟨s,rfl⟩
theorem vB (b:Bool):qt b≠92:=by cases b<;>decide
theorem dw_head {f:Nat→Bool}{w:List Nat}{c:Nat}{s:List Nat}(e:w.dropWhile f=c::s):f c=false:=by
 have:=List.head?_dropWhile_not f w
 rw[e] at this
 simpa using this
section
variable {pos h N:Nat}{r:Option Nat}{cnt:Int}{bg:Option Nat}{fs:List Fr}
noncomputable abbrev tM (b:Bool) (pos:Nat) (cnt:Int) (bg:Option Nat):Fr:={wait:=.maxMore,pc:=of b+70,pos,om:=true,loop:=0,count:=cnt+1,whole:=true,began:=bg}
noncomputable abbrev tB (b:Bool) (pos:Nat):Fr:={wait:=.nextBranch,pc:=of b+36,pos,om:=true,whole:=true}
noncomputable abbrev tB2 (b:Bool) (pos:Nat):Fr:={wait:=.nextBranch,pc:=of b+42,pos,om:=true,whole:=true}
noncomputable abbrev tL (b:Bool) (pos:Nat) (cnt:Int):Array Loop:=#[⟨of b+31,cnt+1,some pos,none⟩]
theorem sy (b:Bool)(hc:-1≤cnt)(hc2:cnt<4294967290)(hbg:bg≠some pos)(hr:fs.length+2<16777216)
  (k:Ends (sZ text lim st) r N ⟨of b+37,pos,pos,true,tL b pos cnt,some 0,tB b pos::tM b pos cnt bg::fs,none⟩) :
  Ends (sZ text lim st) r (N+2) ⟨of b+69,pos,h,true,#[⟨of b+31,cnt,bg,none⟩],some 0,fs,none⟩:=by
 have h0:decide (cnt+1<((strC.getD (of b+31+2) 0:Nat):Int))=false:=by
  rw[show strC.getD (of b+31+2) 0=0 by cases b<;>rfl];exact decide_eq_false (R232 hc)
 have hm:decide (cnt+1<((strC.getD (of b+31+3) 0:Nat):Int))=true:=by
  rw[show strC.getD (of b+31+3) 0=4294967295 by cases b<;>rfl];exact decide_eq_true (R253 hc2)
 cases b<;>exact bT (i:=0) rfl (ac rfl) (bM hr) rfl h0 hm hbg (lM rfl (ac rfl) (bM (n:=1) (fH hr)) rfl k)
theorem nK (b:Bool)(hr:fs.length+2<16777216)(k:Ends (sZ text lim st) r N ⟨of b+43,pos,pos,true,tL b pos cnt,some 0,tB2 b pos::tM b pos cnt bg::fs,none⟩) :
  No (sZ text lim st) r (N+1) (tL b pos cnt) (some 0) (tB b pos::tM b pos cnt bg::fs):=by
 intro h pc p om
 cases b<;>exact eW (bM (n:=1) (fH hr)) rfl k
theorem mP (b:Bool)(k:No (sZ text lim st) r N (tL b pos cnt) (some 0) (tM b pos cnt bg::fs)):No (sZ text lim st) r (N+1) (tL b pos cnt) (some 0) (tB2 b pos::tM b pos cnt bg::fs):=by
 intro h pc p om
 cases b<;>exact xI rfl (k _ _ _ _)
end
theorem oA (b:Bool):∀(k:Nat) {pos h:Nat} {w:List Nat} {fs:List Fr} {cnt:Int} {bg:Option Nat},w.length<k→At (sZ text lim st) pos w→Low w→(∀c s,w=c::s→f3 (qt b) c=false)→-1≤cnt→cnt+w.length<4294967290→
  (∀p,bg=some p→p<pos)→(∀f∈fs,f.passes=true)→fs.length+3*w.length+12<16777216→
  Ends (sZ text lim st) (some (pos+sEnd3 (qt b) w)) (20*w.length+fs.length+30) ⟨of b+69,pos,h,true,#[⟨of b+31,cnt,bg,none⟩],some 0,fs,none⟩:=by
 intro k
 induction k with
 |zero=>intro _ _ w _ _ _ hk;exact absurd hk (Nat.not_lt_zero _)
 |succ k ih=>
  intro pos h w fs cnt bg hk hw hl hf hc hc2 hbg hp hr
  have hb1:bg≠some pos:=fun e=>Nat.lt_irrefl _ (hbg pos e)
  have qn:=vB b
  have again:∀(p:Nat) (v:List Nat) (F1 F2:Fr),At (sZ text lim st) p v→Low v→v.length<w.length→pos<p→F1.passes=true→F2.passes=true→
    ∀h,Ends (sZ text lim st) (some (p+sEnd3 (qt b) v)) (20*v.length+fs.length+34) ⟨of b+56,p,h,true,tL b pos cnt,some 0,F1::F2::fs,none⟩:=by
   intro p v F1 F2 hv lv hlt hpp h1 h2 h
   have hn:v.length≤4294967295:=R252 hr hlt
   refine nR b (pc:=56) (.inr rfl) hv lv hn (bM (n:=0) (by dsimp only[Qz];exact R237 hr)) fun n hn=>?_
   have hd:=tw_drop (f3 (qt b)) v
   rw[←hn] at hd
   have hln:n≤v.length:=by rw[hn];exact (List.takeWhile_sublist _).length_le
   have hv':=hv.drop (n:=n) hln
   have hl':(v.drop n).length=v.length-n:=Xp
   rw[hd] at hv' hl'
   have e:p+sEnd3 (qt b) v=p+n+sEnd3 (qt b) (v.dropWhile (f3 (qt b))):=by rw[fo (qt b) v,←hn];exact R251
   simp only[e]
   refine Ends.mono (ih (w:=v.dropWhile (f3 (qt b))) (cnt:=cnt+1) (bg:=some pos) (R250 hk hlt hl') hv' (by simp only[←hd];exact eM lv n) (fun c s e=>dw_head e) (R225 hc) (R249 hc2 hlt hl') (fun q hq=>by (injection hq with hq;subst hq);exact R248 hpp) (aj rfl (aj h1 (aj h2 hp))) (by simp only[Qz];exact R247 hr hlt hl')) ?_
   dsimp only[Qz];exact R246 hl'
  match w,hw,hl,hf,hk,hr,again with
  | [],hw,hl,hf,hk,hr,_=>
   have out:=mP b (gv b (cnt:=cnt) (bg:=bg) hw hp (R240 ‹_›) (e:=pos) (.inr ⟨(fun ⟨s,e⟩=>by contradiction),rfl⟩))
   refine Ends.mono (sy b (N:=fs.length+22) hc (R236 hc2) hb1 (R235 ‹_›) ?_) (R245)
   have n92:∀s,([]:List Nat)≠92::s:=fun s e=>by contradiction
   have nq:∀s,([]:List Nat)≠qt b::s:=fun s e=>by contradiction
   have a2:Ends (sZ text lim st) (some pos) (fs.length+20) ⟨of b+43,pos,pos,true,tL b pos cnt,some 0,tB2 b pos::tM b pos cnt bg::fs,none⟩:=by
    cases b<;>exact ed rfl (ac rfl) rfl hw nq out
   have a3:=nK b (R235 ‹_›) a2
   cases b<;>exact ed rfl (ac rfl) rfl hw n92 a3
  |c::r,hw,hl,hf,hk,hr,again=>
   have hlen:(c::r).length=r.length+1:=rfl
   by_cases h92:c=92
   ·subst h92
    have nq:∀s,92::r≠qt b::s:=fun s e=>qn (List.cons.inj e).1.symm
    cases r with
    |nil=>
     have out:=mP b (gv b (cnt:=cnt) (bg:=bg) hw hp (R240 ‹_›) (e:=pos) (.inr ⟨(fun ⟨s,e⟩=>qn (List.cons.inj e).1.symm),rfl⟩))
     have a2:Ends (sZ text lim st) (some pos) (fs.length+20) ⟨of b+43,pos,pos,true,tL b pos cnt,some 0,tB2 b pos::tM b pos cnt bg::fs,none⟩:=by
      cases b<;>exact ed rfl (ac rfl) rfl hw nq out
     have a3:=nK b (R235 ‹_›) a2
     refine Ends.mono (sy b (N:=fs.length+23) hc (R236 hc2) hb1 (R235 ‹_›) ?_) (R244)
     cases b<;>exact cL rfl (ac rfl) rfl hw (zc rfl (ac rfl) hw.next a3)
    |cons d r=>
     have e:pos+sEnd3 (qt b) (92::d::r)=pos+1+1+sEnd3 (qt b) r:=by rw[sEnd3,if_pos rfl];exact R230
     have ag:=again (pos+1+1) r (tB b pos) (tM b pos cnt bg) hw.next.next (low_next (low_next hl)) (by dsimp only[Qz];exact R243) (R243) rfl rfl
     simp only[e]
     dsimp only[Qz] at hlen hr ⊢
     refine Ends.mono (sy b (N:=20*r.length+fs.length+37) hc (by dsimp only[Qz] at hc2;exact R242 hc2) hb1 (R235 ‹_›) ?_) (R241)
     cases b<;>exact cL rfl (ac rfl) rfl hw (yK rfl (ac rfl) hw.next (sf rfl (ac rfl) (ag _)))
   ·have hq:c=qt b:=by
     have:=hf c r rfl
     unfold f3 at this
     simp only[show (c != 92)=true from bne_iff_ne.mpr h92,Bool.and_true] at this
     simpa using this
    subst hq
    have n92:∀s,qt b::r≠92::s:=fun s e=>qn (List.cons.inj e).1
    by_cases h3:∃s,r=qt b::qt b::s
    ·obtain⟨s,rfl⟩:=h3
     have out:=mP b (gv b (cnt:=cnt) (bg:=bg) hw hp (R240 ‹_›) (e:=pos+3) (.inl ⟨⟨s,rfl⟩,rfl⟩))
     have e:pos+sEnd3 (qt b) (qt b::qt b::qt b::s)=pos+3:=by rw[sEnd3,if_neg qn,if_pos ⟨rfl,rfl,rfl⟩]
     simp only[e]
     have a2:Ends (sZ text lim st) (some (pos+3)) (fs.length+25) ⟨of b+43,pos,pos,true,tL b pos cnt,some 0,tB2 b pos::tM b pos cnt bg::fs,none⟩:=by
      cases b<;>exact cL rfl (ac rfl) rfl hw (gG rfl (ac rfl) (bM (n:=0) (by dsimp only[Qz];exact R237 ‹_›)) rfl (cL rfl (ac rfl) rfl hw.next (cL rfl (ac rfl) rfl hw.next.next (dv rfl (ac rfl) (sJ (out _ _ _ _))))))
     have a3:=nK b (R235 ‹_›) a2
     dsimp only[Qz]
     refine Ends.mono (sy b (N:=fs.length+27) hc (R236 hc2) hb1 (R235 ‹_›) ?_) (R239)
     cases b<;>exact ed rfl (ac rfl) rfl hw n92 a3
    ·rw[ko qn h3,←Nat.add_assoc]
     have ag:=again (pos+1) r (tB2 b pos) (tM b pos cnt bg) hw.next (low_next hl) (by dsimp only[Qz];exact R43) (R43) rfl rfl
     have la:No (sZ text lim st) (some (pos+1+sEnd3 (qt b) r)) (20*r.length+fs.length+36) (tL b pos cnt) (some 0) ({wait:=.lookNot,pc:=of b+45,pos:=pos+1,om:=true,whole:=true}::tB2 b pos::tM b pos cnt bg::fs):=by
      intro h pc p om
      cases b<;>exact tY (sf rfl (ac rfl) (ag _))
     have lb:∀h,Ends (sZ text lim st) (some (pos+1+sEnd3 (qt b) r)) (20*r.length+fs.length+38) ⟨of b+48,pos+1,h,false,tL b pos cnt,some 0,{wait:=.lookNot,pc:=of b+45,pos:=pos+1,om:=true,whole:=true}::tB2 b pos::tM b pos cnt bg::fs,none⟩:=by
      intro h
      by_cases q1:∃s,r=qt b::s
      ·obtain⟨s,rfl⟩:=q1
       have q2:∀t,s≠qt b::t:=fun t e=>h3 ⟨t,by rw[e]⟩
       cases b<;>exact cL rfl (ac rfl) rfl hw.next (ed rfl (ac rfl) rfl hw.next.next q2 la)
      ·have q2:∀t,r≠qt b::t:=fun t e=>q1 ⟨t,e⟩
       refine Ends.mono (N:=20*r.length+fs.length+37) ?_ (R238)
       cases b<;>exact ed rfl (ac rfl) rfl hw.next q2 la
     have a2:Ends (sZ text lim st) (some (pos+1+sEnd3 (qt b) r)) (20*r.length+fs.length+40) ⟨of b+43,pos,pos,true,tL b pos cnt,some 0,tB2 b pos::tM b pos cnt bg::fs,none⟩:=by
      cases b<;>exact cL rfl (ac rfl) rfl hw (gG rfl (ac rfl) (bM (n:=0) (by dsimp only[Qz];exact R237 ‹_›)) rfl (lb _))
     have a3:=nK b (R235 ‹_›) a2
     refine Ends.mono (sy b (N:=20*r.length+fs.length+42) hc (R236 hc2) hb1 (R235 ‹_›) ?_) (R234 hlen)
     cases b<;>exact ed rfl (ac rfl) rfl hw n92 a3
theorem mr {q:Nat}{w:List Nat}(hf:∀c s,w=c::s→f1 q c=false)(h92:¬ ∃d s,w=92::d::s)(hq:q≠92)(hq':q≠10):sEnd1 q w=((w.take 1).takeWhile (fun c=>c==q)).length:=by
 match w with
 | []=>rfl
 | [c]=>
  have:=hf c [] rfl
  by_cases e:c=q
  ·subst e;simp[sEnd1,hq,hq']
  ·have h2:c=92∨c=10:=by unfold f1 at this;simp only[Bool.and_eq_false_iff,bne_eq_false_iff_eq] at this;rcases this with (h|h)|h;exact absurd h e;exact .inl h;exact .inr h
   have:(c==q)=false:=beq_eq_false_iff_ne.mpr e
   simp[sEnd1,h2,this]
 |c::d::r=>
  have:=hf c (d::r) rfl
  have n92:c≠92:=by rintro rfl;exact h92 ⟨d,r,rfl⟩
  by_cases e:c=q
  ·subst e;simp[sEnd1,hq,hq']
  ·have h2:c=10:=by unfold f1 at this;simp only[Bool.and_eq_false_iff,bne_eq_false_iff_eq] at this;rcases this with (h|h)|h;exact absurd h e;exact absurd h n92;exact h
   have:(c==q)=false:=beq_eq_false_iff_ne.mpr e
   rw[sEnd1,if_neg n92,if_pos h2];simp[this]
theorem pd (b:Bool){pos h:Nat}{w:List Nat}{fs:List Fr}{loops:Array Loop}{inner:Option Nat}(hw:At (sZ text lim st) pos w)(hl:Low w)(hp:∀f∈fs,f.passes=true)(hr:fs.length+1<16777216) :
  Ends (sZ text lim st) (some (pos+((w.take 1).takeWhile (fun c=>c==qt b)).length)) (fs.length+5) ⟨of b+130,pos,h,true,loops,inner,fs,none⟩:=by
 have ha:∀c∈w,acc strC (of b+134) c=some (c==qt b):=fun c hc=>by cases b<;>exact je rfl rfl c
 have hm:((w.take (min 1 w.length)).takeWhile (fun c=>c==qt b)).length=((w.take 1).takeWhile (fun c=>c==qt b)).length:=by
  cases w with
  |nil=>rfl
  |cons c s=>rw[show min 1 (c::s).length=1 by dsimp only[Qz];exact R233]
 cases b<;>exact cT (f:=fun c=>c==_) rfl (ac rfl) (bM hr) hw ha rfl hm (Zj _) (Zj _) (sf rfl (ac rfl) (dv rfl (ac rfl) (dC (aj rfl hp))))
theorem pi (b:Bool):∀(k:Nat) {pos h:Nat} {w:List Nat} {fs:List Fr} {cnt:Int} {bg:Option Nat},w.length<k→At (sZ text lim st) pos w→Low w→(∀c s,w=c::s→f1 (qt b) c=false)→-1≤cnt→cnt+w.length<4294967290→
  (∀p,bg=some p→p<pos)→(∀f∈fs,f.passes=true)→fs.length+3*w.length+12<16777216→
  Ends (sZ text lim st) (some (pos+sEnd1 (qt b) w)) (20*w.length+fs.length+30) ⟨of b+129,pos,h,true,#[⟨of b+104,cnt,bg,none⟩],some 0,fs,none⟩:=by
 intro k
 induction k with
 |zero=>intro _ _ w _ _ _ hk;exact absurd hk (Nat.not_lt_zero _)
 |succ k ih=>
  intro pos h w fs cnt bg hk hw hl hf hc hc2 hbg hp hr
  have hb1:bg≠some pos:=fun e=>Nat.lt_irrefl _ (hbg pos e)
  have qn:=vB b
  have h0:decide (cnt+1<((strC.getD (of b+104+2) 0:Nat):Int))=false:=by
   rw[show strC.getD (of b+104+2) 0=0 by cases b<;>rfl];exact decide_eq_false (R232 hc)
  have hm:decide (cnt+1<((strC.getD (of b+104+3) 0:Nat):Int))=true:=by
   rw[show strC.getD (of b+104+3) 0=4294967295 by cases b<;>rfl];exact decide_eq_true (R231 hc2)
  have inn:∀{r N},Ends (sZ text lim st) r N ⟨of b+108,pos,pos,true,#[⟨of b+104,cnt+1,some pos,none⟩],some 0,{wait:=.maxMore,pc:=of b+130,pos,om:=true,loop:=0,count:=cnt+1,whole:=true,began:=bg}::fs,none⟩→
    Ends (sZ text lim st) r (N+1) ⟨of b+129,pos,h,true,#[⟨of b+104,cnt,bg,none⟩],some 0,fs,none⟩:=by
   intro r N k
   cases b<;>exact bT (i:=0) rfl (ac rfl) (bM (n:=12) (R219 hr)) rfl h0 hm hb1 k
  by_cases h92:∃d s,w=92::d::s
  ·obtain⟨d,v,rfl⟩:=h92
   have e:pos+sEnd1 (qt b) (92::d::v)=pos+1+1+sEnd1 (qt b) v:=by rw[sEnd1,if_pos rfl];exact R230
   simp only[e]
   dsimp only[Qz] at hk hc2 hr ⊢
   have hn:v.length≤4294967295:=R229 hc hc2
   have ag:∀h,Ends (sZ text lim st) (some (pos+1+1+sEnd1 (qt b) v)) (20*v.length+fs.length+33) ⟨of b+111,pos+1+1,h,true,#[⟨of b+104,cnt+1,some pos,none⟩],some 0,{wait:=.maxMore,pc:=of b+130,pos,om:=true,loop:=0,count:=cnt+1,whole:=true,began:=bg}::fs,none⟩:=by
    intro h
    refine j0 b (pc:=111) (.inr rfl) hw.next.next (low_next (low_next hl)) hn (bM (n:=0) (by dsimp only[Qz];exact R228 hr)) fun n hn=>?_
    have hd:=tw_drop (f1 (qt b)) v
    rw[←hn] at hd
    have hln:n≤v.length:=by rw[hn];exact (List.takeWhile_sublist _).length_le
    have hv':=hw.next.next.drop (n:=n) hln
    have hl':(v.drop n).length=v.length-n:=Xp
    rw[hd] at hv' hl'
    have e:pos+1+1+sEnd1 (qt b) v=pos+1+1+n+sEnd1 (qt b) (v.dropWhile (f1 (qt b))):=by rw[fz (qt b) v,←hn];exact R227
    simp only[e]
    refine Ends.mono (ih (w:=v.dropWhile (f1 (qt b))) (cnt:=cnt+1) (bg:=some pos) (R226 hk hl') hv' (by simp only[←hd];exact eM (low_next (low_next hl)) n) (fun c s e=>dw_head e) (R225 hc) (R224 hc2 hl') (fun q hq=>by (injection hq with hq;subst hq);exact R223) (aj rfl (aj rfl hp)) (by simp only[Qz];exact R222 hr hl')) ?_
    dsimp only[Qz];exact R221 hl'
   refine Ends.mono (inn (N:=20*v.length+fs.length+35) ?_) (R220)
   cases b<;>exact cL rfl (ac rfl) rfl hw (yK rfl (ac rfl) hw.next (ag _))
  ·rw[mr hf h92 qn (by cases b<;>decide)]
   have out:No (sZ text lim st) (some (pos+((w.take 1).takeWhile (fun c=>c==qt b)).length)) (fs.length+7) #[⟨of b+104,cnt+1,some pos,none⟩] (some 0) ({wait:=.maxMore,pc:=of b+130,pos,om:=true,loop:=0,count:=cnt+1,whole:=true,began:=bg}::fs):=by
    intro h pc p om
    refine eZ (ls:=#[⟨of b+104,cnt+1-1,bg,none⟩]) (bM (n:=12) (R219 hr)) rfl ?_
    exact Ends.mono (pd b hw hl (aj rfl hp) (by dsimp only[Qz];exact R218 hr)) (by dsimp only[Qz];exact R217)
   refine Ends.mono (inn (N:=fs.length+9) ?_) (R216)
   by_cases q:∃s,w=92::s
   ·obtain⟨s,rfl⟩:=q
    cases s with
    |cons d s=>exact absurd ⟨d,s,rfl⟩ h92
    |nil=>cases b<;>exact cL rfl (ac rfl) rfl hw (zc rfl (ac rfl) hw.next out)
   ·have q2:∀t,w≠92::t:=fun t e=>q ⟨t,e⟩
    refine Ends.mono (N:=fs.length+8) ?_ (R215)
    cases b<;>exact ed rfl (ac rfl) rfl hw q2 out
noncomputable def strEnd:List Nat→Nat
 | []=>0
 |q::r=>if r.head?=some q∧r.tail.head?=some q then 3+sEnd3 q (r.drop 2) else 1+sEnd1 q r
theorem uK (b:Bool){pos h:Nat}{w:List Nat}{fs:List Fr}(hw:At (sZ text lim st) pos (qt b::qt b::qt b::w))(hl:Low w)(hp:∀f∈fs,f.passes=true)(hr:fs.length+3*w.length+20<16777216) :
  Ends (sZ text lim st) (some (pos+3+sEnd3 (qt b) w)) (20*w.length+fs.length+40) ⟨of b+12,pos,h,true,#[],none,fs,none⟩:=by
 have k1:∀h,Ends (sZ text lim st) (some (pos+1+1+1+sEnd3 (qt b) w)) (20*w.length+fs.length+35) ⟨of b+18,pos+1+1+1,h,true,#[],none,fs,none⟩:=by
  intro h
  refine nR b (pc:=18) (.inl rfl) hw.next.next.next hl (R212 hr) (bM (n:=0) (R211 hr)) fun n hn=>?_
  have hd:=tw_drop (f3 (qt b)) w
  rw[←hn] at hd
  have hln:n≤w.length:=by rw[hn];exact (List.takeWhile_sublist _).length_le
  have hv':=hw.next.next.next.drop (n:=n) hln
  have hl':(w.drop n).length=w.length-n:=Xp
  rw[hd] at hv' hl'
  have e:pos+1+1+1+sEnd3 (qt b) w=pos+1+1+1+n+sEnd3 (qt b) (w.dropWhile (f3 (qt b))):=by rw[fo (qt b) w,←hn];exact R214
  rw[e]
  have lp:=fun h=>oA b ((w.dropWhile (f3 (qt b))).length+1) (h:=h) (fs:={wait:=.closeLoop,pc:=of b+31,pos:=pos+1+1+1+n,om:=true,loop:=0}::{wait:=.giveBack,pc:=of b+18,pos:=pos+1+1+1+n,om:=true,count:=n}::fs) (cnt:=-1) (bg:=none) (Nat.lt_succ_self _) hv' (by simp only[←hd];exact eM hl n) (fun c s e=>dw_head e) (R209) (R208 hr hl') (fun q hq=>by contradiction) (aj rfl (aj rfl hp)) (by dsimp only[Qz];exact R207 hr hl')
  dsimp only[Qz] at lp
  refine Ends.mono (N:=20*(w.dropWhile (f3 (qt b))).length+(fs.length+1+1)+30+1) ?_ (R206 hl')
  cases b<;>exact rep rfl (ac rfl) (bM (n:=0) (by dsimp only[Qz];exact R205 hr)) (lp _)
 refine Ends.mono (N:=20*w.length+fs.length+38) ?_ (R213)
 cases b<;>exact cL rfl (ac rfl) rfl hw (cL rfl (ac rfl) rfl hw.next (cL rfl (ac rfl) rfl hw.next.next (k1 _)))
theorem uB (b:Bool){pos h:Nat}{w:List Nat}{fs:List Fr}(hw:At (sZ text lim st) pos (qt b::w))(hl:Low w)(hp:∀f∈fs,f.passes=true)(hr:fs.length+3*w.length+20<16777216) :
  Ends (sZ text lim st) (some (pos+1+sEnd1 (qt b) w)) (20*w.length+fs.length+40) ⟨of b+84,pos,h,true,#[],none,fs,none⟩:=by
 have k1:∀h,Ends (sZ text lim st) (some (pos+1+sEnd1 (qt b) w)) (20*w.length+fs.length+35) ⟨of b+86,pos+1,h,true,#[],none,fs,none⟩:=by
  intro h
  refine j0 b (pc:=86) (.inl rfl) hw.next hl (R212 hr) (bM (n:=0) (R211 hr)) fun n hn=>?_
  have hd:=tw_drop (f1 (qt b)) w
  rw[←hn] at hd
  have hln:n≤w.length:=by rw[hn];exact (List.takeWhile_sublist _).length_le
  have hv':=hw.next.drop (n:=n) hln
  have hl':(w.drop n).length=w.length-n:=Xp
  rw[hd] at hv' hl'
  have e:pos+1+sEnd1 (qt b) w=pos+1+n+sEnd1 (qt b) (w.dropWhile (f1 (qt b))):=by rw[fz (qt b) w,←hn];exact R210
  rw[e]
  have lp:=fun h=>pi b ((w.dropWhile (f1 (qt b))).length+1) (h:=h) (fs:={wait:=.closeLoop,pc:=of b+104,pos:=pos+1+n,om:=true,loop:=0}::{wait:=.giveBack,pc:=of b+86,pos:=pos+1+n,om:=true,count:=n}::fs) (cnt:=-1) (bg:=none) (Nat.lt_succ_self _) hv' (by simp only[←hd];exact eM hl n) (fun c s e=>dw_head e) (R209) (R208 hr hl') (fun q hq=>by contradiction) (aj rfl (aj rfl hp)) (by dsimp only[Qz];exact R207 hr hl')
  dsimp only[Qz] at lp
  refine Ends.mono (N:=20*(w.dropWhile (f1 (qt b))).length+(fs.length+1+1)+30+1) ?_ (R206 hl')
  cases b<;>exact rep rfl (ac rfl) (bM (n:=0) (by dsimp only[Qz];exact R205 hr)) (lp _)
 refine Ends.mono (N:=20*w.length+fs.length+36) ?_ (R204)
 cases b<;>exact cL rfl (ac rfl) rfl hw (k1 _)
end
end Re
end Mine
end
section
namespace Mine
namespace Re
open PySem PySem.Sre
section
variable {text:Array Nat}{lim st:Nat}
theorem sA (b:Bool){N pos h:Nat}{r:Option Nat}{w:List Nat}{fs:List Fr}(hw:At (sZ text lim st) pos w)(hno:∀s,w≠qt b::qt b::qt b::s)(k:No (sZ text lim st) r N #[] none fs) :
  Ends (sZ text lim st) r (N+3) ⟨of b+12,pos,h,true,#[],none,fs,none⟩:=by
 by_cases q1:∃s,w=qt b::s
 ·obtain⟨s1,rfl⟩:=q1
  by_cases q2:∃s,s1=qt b::s
  ·obtain⟨s2,rfl⟩:=q2
   have q3:∀s,s2≠qt b::s:=fun s e=>hno s (by rw[e])
   cases b<;>exact cL rfl (ac rfl) rfl hw (cL rfl (ac rfl) rfl hw.next (ed rfl (ac rfl) rfl hw.next.next q3 k))
  ·have q2':∀s,s1≠qt b::s:=fun s e=>q2 ⟨s,e⟩
   refine Ends.mono (N:=N+2) ?_ (R259)
   cases b<;>exact cL rfl (ac rfl) rfl hw (ed rfl (ac rfl) rfl hw.next q2' k)
 ·have q1':∀s,w≠qt b::s:=fun s e=>q1 ⟨s,e⟩
  refine Ends.mono (N:=N+1) ?_ (R258)
  cases b<;>exact ed rfl (ac rfl) rfl hw q1' k
noncomputable abbrev sB (pc pos:Nat):Fr:={wait:=.nextBranch,pc,pos,om:=true}
theorem tz (q:Nat)(r:List Nat):strEnd (q::q::q::r)=3+sEnd3 q r:=if_pos ⟨rfl,rfl⟩
theorem th {q:Nat}{r:List Nat}(h:∀s,q::r≠q::q::q::s):strEnd (q::r)=1+sEnd1 q r:=by
 refine if_neg fun ⟨e1,e2⟩=>?_
 match r,e1,e2 with
 |a::b::s,e1,e2=>(injection e1 with e1;subst e1);(injection e2 with e2;subst e2);exact h s rfl
theorem qI (b:Bool){pos:Nat}{w:List Nat}(hw:At (sZ text lim st) pos (qt b::w))(hl:Low w)(hr:3*w.length+30<16777216)(h:Nat) :
  Ends (sZ text lim st) (some (pos+strEnd (qt b::w))) (20*w.length+50) ⟨of b+12,pos,h,true,#[],none,[sB (of b+11) pos],none⟩:=by
 by_cases q:∃s,qt b::w=qt b::qt b::qt b::s
 ·obtain⟨s,e⟩:=q
  have e':=(List.cons.inj e).2
  subst e'
  dsimp only[Qz] at hr ⊢
  rw[tz,←Nat.add_assoc]
  exact Ends.mono (uK b hw (low_next (low_next hl)) (aj rfl cB) (by dsimp only[Qz,List.length_nil];exact R271 hr)) (by dsimp only[Qz,List.length_nil];exact R270)
 ·have q':∀s,qt b::w≠qt b::qt b::qt b::s:=fun s e=>q ⟨s,e⟩
  rw[th q',←Nat.add_assoc]
  have go:∀h,Ends (sZ text lim st) (some (pos+1+sEnd1 (qt b) w)) (20*w.length+41) ⟨of b+84,pos,h,true,#[],none,[sB (of b+83) pos],none⟩:=fun h=>
   Ends.mono (uB b hw hl (aj rfl cB) (by dsimp only[Qz,List.length_nil];exact R269 hr)) (by dsimp only[Qz,List.length_nil];exact R268)
  refine Ends.mono (N:=20*w.length+42+3) (sA b hw q' fun h pc p om=>?_) (R267)
  cases b<;>exact eW (ac rfl) rfl (go _)
theorem str_ok (b:Bool){pos:Nat}{w:List Nat}(hw:At (sZ text lim st) pos (qt b::w))(hl:Low w)(hr:3*w.length+30<16777216) :
  Ends (sZ text lim st) (some (pos+strEnd (qt b::w))) (20*w.length+60) (start 10 pos):=by
 have k:=qI b hw hl hr
 cases b with
 |false=>exact Ends.mono (N:=20*w.length+51) (lM rfl (ac rfl) (ac rfl) rfl (k _)) (R266)
 |true=>
  refine Ends.mono (N:=20*w.length+55) (lM rfl (ac rfl) (ac rfl) rfl ?_) (R265)
  have nq:∀s,qt true::w≠34::s:=fun s e=>absurd (List.cons.inj e).1 (by decide)
  refine ed rfl (ac rfl) rfl hw nq fun h pc p om=>?_
  refine eW (ac rfl) rfl ?_
  refine ed rfl (ac rfl) rfl hw nq fun h pc p om=>?_
  exact eW (ac rfl) rfl (k _)
end
end Re
end Mine
end
section
namespace Mine
open PySem PyProof.Rows PySem.W PySem.StrLaws PySem.Builtin.Str
theorem iJ (x:Str)(c:Nat):Txt.contains x ⟨#[c]⟩=(sg x).contains c:=by
 unfold Txt.contains
 rw[occ_eq,f8 x ⟨#[c]⟩ x.length _ 0 (fun m _=>Zj _)]
 cases hf:(List.range' 0 (x.length+1-0)).find? (fun i=>decide (i+(⟨#[c]⟩:Str).length≤x.length)&&subAt x ⟨#[c]⟩ i) with
 |none=>
  show false=_
  symm
  rw[List.contains_eq_mem,decide_eq_false_iff_not]
  intro hm
  obtain⟨i,hi⟩:=List.getElem?_of_mem hm
  have h2:=(subAt_one x c i).mpr hi
  have hlt:=(Qw.mp hi).1
  have:=List.find?_eq_none.mp hf i (List.mem_range'_1.mpr (by have:=aE x;unfold sg at *;exact R276 hlt))
  rw[Xv,decide_eq_true_eq] at this
  exact this h2
 |some i=>
  show true=_
  symm
  have hp:=(List.find?_eq_some_iff_append.mp hf).1
  rw[Xv,decide_eq_true_eq] at hp
  rw[List.contains_eq_mem,decide_eq_true_eq]
  exact Qg ((subAt_one x c i).mp hp)
structure L2 where
 p:Nat
 last:Str
 st:List Nat
 br:List (Nat×Nat)
noncomputable def cD (c:Nat):Bool:=c==32||c==9||c==10
noncomputable def dz (l:List Nat):Option Nat:=l.reverse.find? fun c=>!cD c
theorem fM (l:List Nat)(c:Nat):dz (l++[c])=if cD c=true then dz l else some c:=by
 unfold dz
 rw[List.reverse_append,List.reverse_singleton,List.singleton_append,List.find?_cons]
 cases cD c<;>rfl
noncomputable def lastOf (r:List Nat)(last:Str):Str:=match dz r with
 |some c=>⟨#[c]⟩
 |none=>last
noncomputable def db (p1:Nat)(last1:Str)(st:List Nat)(br:List (Nat×Nat))(w:List Nat):L2:=match w with
 | []=>⟨p1,last1,st,br⟩
 |ch::r=>
  if ch=40∨ch=91∨ch=123 then ⟨p1+1,⟨#[ch]⟩,st++[p1],br++[(p1,st.length+1)]⟩
  else if ch=41∨ch=93∨ch=125 then ⟨p1+1,⟨#[ch]⟩,st.dropLast,br++[(p1+1,st.dropLast.length)]⟩
  else if ch=34∨ch=39 then ⟨p1+Re.strEnd (ch::r),⟨#[ch]⟩,st,br++[(p1,st.length+1)]++[(p1+Re.strEnd (ch::r),st.length)]⟩
  else if ch=35 then ⟨p1+(r.takeWhile (fun c=>c != 10)).length+2,last1,st,br++[(p1,st.length+1)]++[(p1+(r.takeWhile (fun c=>c != 10)).length+2,st.length)]⟩
  else match r with
   | []=>⟨p1+1,last1,st,br⟩
   |d::_=>⟨p1+2,if d=10 then last1 else ⟨#[ch,d]⟩,st,br⟩
noncomputable def ar (x:Str)(q p:Nat):List Nat:=((sg x).take q).drop p
noncomputable def dl (x:Str)(q:Nat)(s:L2):L2:=
 db (s.p+((ar x q s.p).takeWhile Re.ord_).length) (lastOf ((ar x q s.p).takeWhile Re.ord_) s.last) s.st s.br ((ar x q s.p).dropWhile Re.ord_)
section
variable {P:Pm}{pr:List Nat}{x:Str}{c:aa}
theorem qb {n:Nat}{f e1 e2 e3:IE}{kk:Option Nat}{l:Sl}{u v1 v2 v3:V}{K:V→aa→Prop}(hf:∀K':V→aa→Prop,K' u c→wpE P (n+4) f l c K')(h1:∀K':V→aa→Prop,K' v1 c→wpE P (n+3) e1 l c K')(h2:∀K':V→aa→Prop,K' v2 c→wpE P (n+2) e2 l c K')
  (h3:∀K':V→aa→Prop,K' v3 c→wpE P (n+1) e3 l c K') (h:ek P c kk u [v1,v2,v3] K):wpE P (n+5) (.call f [e1,e2,e3] kk) l c K:=by
 rw[dL]
 refine hf _ ?_
 rw[aQ]
 refine h1 _ ?_
 rw[aQ]
 refine h2 _ ?_
 rw[aQ]
 refine h3 _ ?_
 exact h
theorem cq {q p:Nat}(hq:q≤x.length):(ar x q p).length=q-p:=by
 unfold ar;rw[Xp,List.length_take];have:=aE x;exact R275 hq
noncomputable def mOf:Option Nat→V
 |some e=>.mt (e:Nat)
 |none=>.d .none
theorem kX {a:Addr}{code:Array Nat}(T:TextOk x)(hj:P.isFn a=true)(hjf:P.fn a=aW code){p q n N:Nat}{r:Option Nat}(hpq:p<q)(hq:q≤x.length)(hN:1≤N∧N<2 ^ 60)
  (he:Re.Ends ⟨code,x.cps,q,p⟩ r N (Re.start (Sre.header code).2 p)) (hm:(Sre.header code).1=1) {l:Sl} (h1:aF l 1=some (.d (.str x))) (h4:aF l 4=some (.d (.int (p:Nat)))) (h5:aF l 5=some (.d (.int (q:Nat)))) (K':V→aa→Prop)
  (h:K' (mOf r) c):wpE P (n+5) (.call (.g (.val (.ref a))) [(.v 1),(.v 4),(.v 5)] none) l c K':=by
 have hl:=aE x
 have hT:=T.len
 refine qb (n:=n) (u:=.val (.ref a)) (v1:=.d (.str x)) (v2:=.d (.int (p:Nat))) (v3:=.d (.int (q:Nat))) (fun K' h=>h) (bD h1) (bD h4) (bD h5) ?_
 refine⟨hj,?_⟩
 rw[hjf]
 refine⟨x,p,q,r,N,.inr rfl,by exact R58 hpq,hq,by exact R63 hT,hN,.inl ⟨he,by rw[hm];exact R198 hpq⟩,?_⟩
 cases r with
 |none=>exact⟨fun _ q=>q,h⟩
 |some e=>exact⟨fun _ q=>q,h⟩
theorem oQ {a:Addr}(T:TextOk x)(hj:P.isFn a=true)(hjf:P.fn a=aW Re.chewC){p q n:Nat}(hpq:p<q)(hq:q≤x.length){l:Sl}(h1:aF l 1=some (.d (.str x)))(h4:aF l 4=some (.d (.int (p:Nat))))(h5:aF l 5=some (.d (.int (q:Nat))))(K':V→aa→Prop)
  (h:K' (if ((ar x q p).takeWhile Re.ord_).length=0 then .d .none else .mt ((p+((ar x q p).takeWhile Re.ord_).length:Nat))) c):wpE P (n+5) (.call (.g (.val (.ref a))) [(.v 1),(.v 4),(.v 5)] none) l c K':=by
 have hT:=T.len
 have hl:=aE x
 have hlen:(ar x q p).length≤4294967295:=by rw[cq hq];unfold big at hT;exact R274 hq hT
 refine kX T hj hjf hpq hq (N:=4) (by decide) (Re.chew_ok (rK x (R58 hpq) hq) (mU T p q) hlen) rfl h1 h4 h5 K' ?_
 show K' (mOf (if ((ar x q p).takeWhile Re.ord_).length=0 then none else some (p+((ar x q p).takeWhile Re.ord_).length))) c
 split at h
 ·rename_i e;rw[if_pos e];exact h
 ·rename_i e;rw[if_neg e];exact h
theorem sL {a:Addr}(T:TextOk x)(hj:P.isFn a=true)(hjf:P.fn a=aW Re.strC){p q n:Nat}(hpq:p<q)(hq:q≤x.length){ch:Nat}{r:List Nat}(hr:ar x q p=ch::r)(hch:ch=34∨ch=39){l:Sl}(h1:aF l 1=some (.d (.str x)))(h4:aF l 4=some (.d (.int (p:Nat))))(h5:aF l 5=some (.d (.int (q:Nat))))(K':V→aa→Prop)
  (h:K' (.mt ((p+Re.strEnd (ch::r):Nat))) c):wpE P (n+5) (.call (.g (.val (.ref a))) [(.v 1),(.v 4),(.v 5)] none) l c K':=by
 have hT:=T.len
 have hl:=aE x
 have hlen:(ar x q p).length=q-p:=cq hq
 have hA:=rK x (p:=p) (q:=q) (st:=p) (code:=Re.strC) (R58 hpq) hq
 have hlow:=mU T p q
 change Re.At _ p (ar x q p) at hA
 change Re.Low (ar x q p) at hlow
 rw[hr] at hA hlow hlen
 simp only[Qz] at hlen
 unfold big at hT
 have he:Re.Ends ⟨Re.strC,x.cps,q,p⟩ (some (p+Re.strEnd (ch::r))) (20*r.length+60) (Re.start 10 p):=by
  rcases hch with rfl|rfl
  ·exact Re.str_ok false hA (Re.low_next hlow) (R273 hq hT hlen)
  ·exact Re.str_ok true hA (Re.low_next hlow) (R273 hq hT hlen)
 exact kX T hj hjf hpq hq (N:=20*r.length+60) ⟨by exact R272,by omega⟩ he rfl h1 h4 h5 K' h
end
end Mine
end
section
namespace Mine
open PySem PyProof.Rows PySem.W
noncomputable def brD (br:List (Nat×Nat)):List D:=br.map fun r=>.tup [.int (r.1:Nat),.int (r.2:Nat)]
noncomputable def Cs (c0:aa)(A B Z:Nat)(st:List Nat)(br:List (Nat×Nat)):aa:=c0++[(A,.list (aR st))]++[(B,.bound "list.append" A)]++[(Z,.list (brD br))]
structure Cel2 (c0:aa)(A B Z k:Nat)(pr:List Nat):Prop where
 a:A∉dom c0
 b:B∉dom c0
 z:Z∉dom c0
 ab:A≠B
 az:A≠Z
 bz:B≠Z
 w:Wf c0
 k_:k∈dom c0
 pr:∀j∈pr,j∈dom c0
section
variable {c0:aa}{A B Z k:Nat}{pr:List Nat}(C:Cel2 c0 A B Z k pr){st:List Nat}{br:List (Nat×Nat)}
theorem sP:dom (Cs c0 A B Z st br)=dom c0++[A]++[B]++[Z]:=by unfold Cs;rw[af,af,af]
theorem ap {c:aa}{j i:Nat}{o:O}(h:j∉dom c):ae (c++[(j,o)]) i=if i=j then some o else ae c i:=aD h i
include C
theorem nb:B∉dom (c0++[(A,.list (aR st))]):=by rw[af];simp[C.b,Ne.symm C.ab]
theorem nz:Z∉dom (c0++[(A,.list (aR st))]++[(B,.bound "list.append" A)]):=by rw[af,af];simp[C.z,Ne.symm C.az,Ne.symm C.bz]
theorem rr:ae (Cs c0 A B Z st br) A=some (.list (aR st)):=by
 unfold Cs;rw[ap (nz C),if_neg C.az,ap (nb C),if_neg C.ab,ap C.a,if_pos rfl]
theorem wA:ae (Cs c0 A B Z st br) B=some (.bound "list.append" A):=by
 unfold Cs;rw[ap (nz C),if_neg C.bz,ap (nb C),if_pos rfl]
theorem pT:ae (Cs c0 A B Z st br) Z=some (.list (brD br)):=by
 unfold Cs;rw[ap (nz C),if_pos rfl]
theorem nJ {j:Nat}(h:j∈dom c0):ae (Cs c0 A B Z st br) j=ae c0 j:=by
 have h1:j≠A:=fun e=>C.a (e▸h)
 have h2:j≠B:=fun e=>C.b (e▸h)
 have h3:j≠Z:=fun e=>C.z (e▸h)
 unfold Cs;rw[ap (nz C),if_neg h3,ap (nb C),if_neg h2,ap C.a,if_neg h1]
theorem l8 {j:Nat}(h:j∈dom c0):j∈dom (Cs c0 A B Z st br):=by rw[sP];simp[h]
theorem nX (st':List Nat):cset (Cs c0 A B Z st br) A (.list (aR st'))=Cs c0 A B Z st' br:=by
 have h1:A∈dom (c0++[(A,O.list (aR st))]):=by rw[af];simp
 unfold Cs
 rw[aX (by rw[af];simp[h1]),aX h1,d0 C.a]
theorem uY (br':List (Nat×Nat)):cset (Cs c0 A B Z st br) Z (.list (brD br'))=Cs c0 A B Z st br':=by
 unfold Cs
 rw[d0 (nz C)]
theorem yg:bX (Cs c0 A B Z st br) (Cs c0 A B Z st br) (Cs c0 A B Z st br):=by
 rw[celW_iff]
 intro p hp
 have hd:∀j∈dom c0,j∈dom (Cs c0 A B Z st br):=fun j hj=>l8 C hj
 have hA:A∈dom (Cs c0 A B Z st br):=by rw[sP];simp
 unfold Cs at hp
 rcases Qu.mp hp with hp|hp
 ·rcases Qu.mp hp with hp|hp
  ·rcases Qu.mp hp with hp|hp
   ·obtain⟨o,h1,h2⟩:=celW_iff.mp C.w.w p hp
    exact⟨o,by rw[nJ C (ah h1)];exact h1,eC hd h2⟩
   ·have e:p=(A,.list (aR st)):=by simpa using hp
    subst e;exact⟨_,rr C,rfl⟩
  ·have e:p=(B,.bound "list.append" A):=by simpa using hp
   subst e;exact⟨_,wA C,rfl,rfl,hA⟩
 ·have e:p=(Z,.list (brD br)):=by simpa using hp
  subst e;exact⟨_,pT C,rfl⟩
end
noncomputable abbrev S2 (k:Nat) (x:Str) (gl:List Nat) (A B Z:Nat) (i p q nn last m np ch:Option V):Sl:=[some (.obj k),some (.d (.str x)),some (.d (.lst (aR gl))),i,p,q,nn,last,some (.obj A),some (.obj B),some (.obj Z),m,np,ch]
def dr (C:aa)(o o':Option V):Prop:=o'=none∨∃v,o=some v∧o'=some v∧vOk C v
theorem dA (C:aa)(o:Option V):dr C o none:=.inl rfl
theorem fV (C:aa)(d:D):dr C (some (.d d)) (some (.d d)):=.inr ⟨_,rfl,rfl,trivial⟩
theorem b9 {l r:Sl}{c:aa}{i:Nat}{o':Option V}(h:dr c (aF l i) o')(k:slW l c c (i+1) r):slW l c c i (o'::r):=by
 rcases h with rfl|⟨v,h1,rfl,h2⟩
 ·exact k
 ·exact⟨⟨v,h1,.inl ⟨rfl,h2⟩⟩,k⟩
theorem vx {c0:aa}{A B Z k:Nat}{pr:List Nat}(C:Cel2 c0 A B Z k pr){st:List Nat}{br:List (Nat×Nat)}{x:Str}{gl:List Nat}{i p q nn last m np ch i' nn' m' np' ch':Option V}
  (hi:dr (Cs c0 A B Z st br) i i') (hp:dr (Cs c0 A B Z st br) p p) (hq:dr (Cs c0 A B Z st br) q q) (hn:dr (Cs c0 A B Z st br) nn nn') (hl:dr (Cs c0 A B Z st br) last last) (hm:dr (Cs c0 A B Z st br) m m') (hnp:dr (Cs c0 A B Z st br) np np') (hch:dr (Cs c0 A B Z st br) ch ch') :
  Wk pr ⟨S2 k x gl A B Z i p q nn last m np ch,Cs c0 A B Z st br⟩ ⟨S2 k x gl A B Z i' p q nn' last m' np' ch',Cs c0 A B Z st br⟩:=by
 have o:∀j,j∈dom (Cs c0 A B Z st br)→dr (Cs c0 A B Z st br) (some (.obj j)) (some (.obj j)):=fun j hj=>.inr ⟨_,rfl,rfl,hj⟩
 refine⟨?_,rfl,yg C,fun j hj=>l8 C (C.pr j hj)⟩
 exact b9 (o k (l8 C C.k_)) (b9 (fV _ _) (b9 (fV _ _) (b9 hi (b9 hp (b9 hq (b9 hn (b9 hl (b9 (o A (ah (rr C))) (b9 (o B (ah (wA C))) (b9 (o Z (ah (pT C))) (b9 hm (b9 hnp (b9 hch trivial)))))))))))))
noncomputable def l5:IS:=.while_ (.and (.cmp .GtE (.v 3) (.v 4)) (.cmp .In (.item (.v 1) (.v 3)) (.c (.str ⟨#[32,9,10]⟩)))) [.asg 3 (.bin .Sub (.v 3) (.c (.int 1)))] []
section
variable {P:Pm}{c0:aa}{A B Z k:Nat}{pr:List Nat}{x:Str}{gl:List Nat}
theorem pR (C:Cel2 c0 A B Z k pr)(T:TextOk x){p q:Nat}{last:Str}{st:List Nat}{br:List (Nat×Nat)}{nn m np ch:Option V}(hnn:dr (Cs c0 A B Z st br) nn nn)(hm:dr (Cs c0 A B Z st br) m m)(hnp:dr (Cs c0 A B Z st br) np np)(hch:dr (Cs c0 A B Z st br) ch ch)
  {run:List Nat} (hrun:∀j d,run[j]?=some d→(sg x)[p+j]?=some d) {n:Nat} {K:F→Sg'→Prop}
  (h:∀j:Nat,(j=0∧dz run=none∨∃d,0<j∧(sg x)[p+j-1]?=some d∧dz run=some d)→K .next ⟨S2 k x gl A B Z (some (.d (.int (((p+j:Nat):Int)-1)))) (I_ p) (I_ q) nn (some (.d (.str last))) m np ch,Cs c0 A B Z st br⟩) :
  wpS P pr (n+20) l5 ⟨S2 k x gl A B Z (some (.d (.int (((p+run.length:Nat):Int)-1)))) (I_ p) (I_ q) nn (some (.d (.str last))) m np ch,Cs c0 A B Z st br⟩ K:=by
 have hl:=aE x
 have hT:=T.len
 unfold l5
 refine⟨fun k' τ=>∃j,k'=j∧j≤run.length∧dz (run.take j)=dz run∧τ=⟨S2 k x gl A B Z (some (.d (.int (((p+j:Nat):Int)-1)))) (I_ p) (I_ q) nn (some (.d (.str last))) m np ch,Cs c0 A B Z st br⟩,run.length,⟨_,rfl,Zv _,by rw[List.take_length],rfl⟩,?_⟩
 rintro j τ ⟨_,rfl,hj,hlast,rfl⟩
 show ((decide (((p:Nat):Int)≤((p+j:Nat):Int)-1))=false→_)∧((decide (((p:Nat):Int)≤((p+j:Nat):Int)-1))=true→_)
 refine⟨fun e=>?_,fun e=>?_⟩
 ·have hj0:j=0:=by have:=of_decide_eq_false e;exact R282 this
  subst hj0
  refine⟨(fun e=>by contradiction),fun _=>al (h 0 (.inl ⟨rfl,?_⟩))⟩
  rw[←hlast];rfl
 ·obtain⟨j',rfl⟩:∃j',j=j'+1:=⟨j-1,by have:=of_decide_eq_true e;exact R281 this⟩
  obtain⟨d,hd⟩:∃d,run[j']?=some d:=⟨_,Qk (R74 hj)⟩
  have hxd:=hrun j' d hd
  have hlt:=(Qw.mp hxd).1
  have ei:(((p+(j'+1):Nat):Int)-1)=((p+j':Nat):Int):=R280
  have hit:=cn hxd
  have et:run.take (j'+1)=run.take j'++[d]:=by rw[List.take_add_one,hd];rfl
  refine b6 (n:=n+17) (.d (.str (Txt.item x (((p+(j'+1):Nat):Int)-1)))) (.d (.str ⟨#[32,9,10]⟩)) (fun K' h=>?_) (fun K' h=>h) ?_
  ·refine bd (n:=n+16) (.d (.str x)) (.d (.int (((p+(j'+1):Nat):Int)-1))) (fun K' h=>h) (fun K' h=>h) ⟨by exact R279,by exact R278 hlt,by exact R63 hT,h⟩
  ·rw[ei,hit]
   show (Txt.contains ⟨#[32,9,10]⟩ ⟨#[d]⟩=true→_)∧(Txt.contains ⟨#[32,9,10]⟩ ⟨#[d]⟩=false→_)
   have hb:Txt.contains ⟨#[32,9,10]⟩ ⟨#[d]⟩=cD d:=by
    rw[iJ];show ([32,9,10]:List Nat).contains d=_
    unfold cD
    simp only[List.contains_cons,List.contains_nil,Bool.or_false,Bool.or_assoc]
   rw[hb]
   refine⟨fun e=>?_,fun e=>?_⟩
   ·refine ao (n:=n+17) (.d (.int (((p+j':Nat):Int)-1))) (fun K' h=>h) ?_
    refine al ?_
    show ∃k' υ',k'<j'+1∧_
    exact⟨j',_,Nat.lt_succ_self _,vx C (fV _ _) (fV _ _) (fV _ _) hnn (fV _ _) hm hnp hch,j',rfl,by exact R73 hj,by rw[←hlast,et,fM,if_pos e],rfl⟩
   ·have:=h (j'+1) (.inr ⟨d,by exact R127,(by rw[show p+(j'+1)-1=p+j' by exact R277];exact hxd),(by rw[←hlast,et,fM,if_neg (by rw[e];decide)])⟩)
    rw[ei] at this
    exact al this
end
section
variable {P:Pm}{c0:aa}{A B Z k:Nat}{pr:List Nat}{x:Str}{gl:List Nat}{st:List Nat}{br:List (Nat×Nat)}
theorem zd (C:aa)(e:Int):dr C (some (.mt e)) (some (.mt e)):=.inr ⟨_,rfl,rfl,trivial⟩
theorem e9 {n:Nat}{f e1:IE}{kk:Option Nat}{l:Sl}{c:aa}{u v1:V}{K:V→aa→Prop}(hf:∀K':V→aa→Prop,K' u c→wpE P (n+2) f l c K')(h1:∀K':V→aa→Prop,K' v1 c→wpE P (n+1) e1 l c K')
  (h:ek P c kk u [v1] K):wpE P (n+3) (.call f [e1] kk) l c K:=by
 rw[dL]
 refine hf _ ?_
 rw[aQ]
 refine h1 _ ?_
 exact h
theorem jY {n:Nat}{o e1:IE}{m:Mn}{l:Sl}{c:aa}{u v1:V}{K:V→aa→Prop}(ho:∀K':V→aa→Prop,K' u c→wpE P (n+2) o l c K')(hm:dH c u m)(h1:∀K':V→aa→Prop,K' v1 c→wpE P (n+1) e1 l c K')
  (h:nA c u m [v1] K):wpE P (n+3) (.meth o m [e1]) l c K:=by
 rw[eO]
 refine ho _ ⟨hm,?_⟩
 rw[aQ]
 refine h1 _ ?_
 exact h
theorem fY {n:Nat}{e1 e2:IE}{l:Sl}{c:aa}{d1 d2:D}{K:V→aa→Prop}(h1:∀K':V→aa→Prop,K' (.d d1) c→wpE P (n+2) e1 l c K')(h2:∀K':V→aa→Prop,K' (.d d2) c→wpE P (n+1) e2 l c K')
  (h:K (.d (.tup [d1,d2])) c):wpE P (n+4) (.tup [e1,e2]) l c K:=by
 rw[uk,aQ]
 refine h1 _ ?_
 rw[aQ]
 refine h2 _ ?_
 exact⟨(by show 2≤big;decide),h⟩
theorem bN (l:List Nat):(aR l).length=l.length:=by simp[aR]
theorem fZ (l:List (Nat×Nat)):(brD l).length=l.length:=by simp[brD]
theorem uz (C:Cel2 c0 A B Z k pr):b8 (Cs c0 A B Z st br) (.obj A)=some (false,aR st):=by
 show (match ae (Cs c0 A B Z st br) A with|some (.list xs)=>some (false,xs)|_=>none)=_
 rw[rr C]
theorem zU (C:Cel2 c0 A B Z k pr):b8 (Cs c0 A B Z st br) (.obj Z)=some (false,brD br):=by
 show (match ae (Cs c0 A B Z st br) Z with|some (.list xs)=>some (false,xs)|_=>none)=_
 rw[pT C]
theorem gZ (C:Cel2 c0 A B Z k pr){n:Nat}{l:Sl}(h8:aF l 8=some (.obj A))(hs:st.length≤big)(K':V→aa→Prop)(h:K' (.d (.int (st.length:Nat))) (Cs c0 A B Z st br)) :
  wpE P (n+4) (.call (.g (.bi .len)) [(.v 8)] none) l (Cs c0 A B Z st br) K':=by
 refine e9 (n:=n+1) (u:=.bi .len) (v1:=.obj A) (fun K' h=>h) (bD h8) ?_
 show u7 (Cs c0 A B Z st br) (.obj A) K'
 show aw (b8 (Cs c0 A B Z st br) (.obj A)) _
 rw[uz C]
 exact⟨by rw[bN];exact hs,by rw[bN];exact h⟩
theorem n3 (C:Cel2 c0 A B Z k pr){n:Nat}{l:Sl}(h8:aF l 8=some (.obj A))(hs:st.length≤big)(K':V→aa→Prop)(h:K' (.d (.int ((st.length+1:Nat)))) (Cs c0 A B Z st br)) :
  wpE P (n+5) (.bin .Add (.call (.g (.bi .len)) [(.v 8)] none) (.c (.int 1))) l (Cs c0 A B Z st br) K':=by
 rw[dS]
 refine gZ C h8 hs _ ?_
 have e:((st.length:Nat):Int)+1=((st.length+1:Nat):Int):=R291
 show K' (.d (.int (((st.length:Nat):Int)+1))) _
 rw[e];exact h
theorem fy (C:Cel2 c0 A B Z k pr){n p v:Nat}{e:IE}{r:List IS}{l:Sl}{K:F→Sg'→Prop}(h10:aF l 10=some (.obj Z))(h4:aF l 4=some (.d (.int (p:Nat))))(hb:br.length≤big)
  (he:∀K':V→aa→Prop,K' (.d (.int (v:Nat))) (Cs c0 A B Z st br)→wpE P (n+1) e l (Cs c0 A B Z st br) K') (h:wpB P pr (n+7) r ⟨l,Cs c0 A B Z st (br++[(p,v)])⟩ K) :
  wpB P pr (n+8) (.expr (.meth (.v 10) .append [(.tup [(.v 4),e])])::r) ⟨l,Cs c0 A B Z st br⟩ K:=by
 refine d7 (n:=n+6) (.d .none) (c':=Cs c0 A B Z st (br++[(p,v)])) (fun K' hK=>?_) h
 refine jY (n:=n+3) (u:=.obj Z) (v1:=.d (.tup [.int (p:Nat),.int (v:Nat)])) (bD h10) ?_ (fun K' h=>fY (n:=n) (bD h4) he h) ?_
 ·refine⟨rfl,?_⟩
  rw[pT C];trivial
 refine⟨rfl,?_⟩
 rw[pT C]
 show (brD br).length≤big∧K' (.d .none) (cset (Cs c0 A B Z st br) Z (.list (brD br++[.tup [.int (p:Nat),.int (v:Nat)]])))
 refine⟨by rw[fZ];exact hb,?_⟩
 have e:brD br++[D.tup [.int (p:Nat),.int (v:Nat)]]=brD (br++[(p,v)]):=by simp[brD]
 rw[e,uY C];exact hK
theorem t9 (C:Cel2 c0 A B Z k pr){n p:Nat}{r:List IS}{l:Sl}{K:F→Sg'→Prop}(h9:aF l 9=some (.obj B))(h4:aF l 4=some (.d (.int (p:Nat))))(hs:st.length≤big)(h:wpB P pr (n+5) r ⟨l,Cs c0 A B Z (st++[p]) br⟩ K) :
  wpB P pr (n+6) (.expr (.call (.v 9) [(.v 4)] none)::r) ⟨l,Cs c0 A B Z st br⟩ K:=by
 refine d7 (n:=n+4) (.d .none) (c':=Cs c0 A B Z (st++[p]) br) (fun K' hK=>?_) h
 refine e9 (n:=n+1) (u:=.obj B) (v1:=.d (.int (p:Nat))) (bD h9) (bD h4) ?_
 show eU (ae (Cs c0 A B Z st br) B) _
 rw[wA C]
 refine⟨rfl,?_⟩
 show cG (ae (Cs c0 A B Z st br) A) _
 rw[rr C]
 refine⟨by rw[bN];exact hs,?_⟩
 have e:aR st++[D.int (p:Nat)]=aR (st++[p]):=by simp[aR]
 rw[e,nX C];exact hK
noncomputable def qP (cr:Addr):List IS:=[.asg 11 (.call (.g (.val (.ref cr))) [(.v 1),(.v 4),(.v 5)] none),
 .if_ (.v 11) [.asg 12 (.meth (.v 11) .end_ []),.asg 3 (.bin .Sub (.v 12) (.c (.int 1))),l5,.if_ (.cmp .GtE (.v 3) (.v 4)) [.asg 7 (.item (.v 1) (.v 3))] [],.asg 4 (.v 12),.if_ (.cmp .GtE (.v 4) (.v 5)) [.brk] []] []]
theorem sF {q p:Nat}(hq:q≤x.length)(j d:Nat)(h:((ar x q p).takeWhile Re.ord_)[j]?=some d):(sg x)[p+j]?=some d:=by
 have h1:(ar x q p)[j]?=some d:=by
  have hlt:=(Qw.mp h).1
  rw[←Re.tw_take Re.ord_ (ar x q p),List.getElem?_take,if_pos hlt] at h;exact h
 unfold ar at h1
 rw[Zx,List.getElem?_take] at h1
 split at h1
 ·exact h1
 ·contradiction
theorem pL (C:Cel2 c0 A B Z k pr)(T:TextOk x){cr:Addr}(hj:P.isFn cr=true)(hjf:P.fn cr=aW Re.chewC){p q:Nat}(hpq:p<q)(hq:q≤x.length){last:Str}{i nn m np ch:Option V}(hnn:nn=none∨∃d,nn=some (.d d))(hch:ch=none){n:Nat}{r:List IS}{K:F→Sg'→Prop}
  (hb:(ar x q p).dropWhile Re.ord_=[]→∀i m np,K .brk ⟨S2 k x gl A B Z i (I_ (p+((ar x q p).takeWhile Re.ord_).length)) (I_ q) nn (some (.d (.str (lastOf ((ar x q p).takeWhile Re.ord_) last)))) m np ch,Cs c0 A B Z st br⟩)
  (hn:(ar x q p).dropWhile Re.ord_≠[]→∀i m np,wpB P pr (n+38) r ⟨S2 k x gl A B Z i (I_ (p+((ar x q p).takeWhile Re.ord_).length)) (I_ q) nn (some (.d (.str (lastOf ((ar x q p).takeWhile Re.ord_) last)))) m np ch,Cs c0 A B Z st br⟩ K) :
  wpB P pr (n+40) (qP cr++r) ⟨S2 k x gl A B Z i (I_ p) (I_ q) nn (some (.d (.str last))) m np ch,Cs c0 A B Z st br⟩ K:=by
 have hnn':∀C,dr C nn nn:=fun C=>by rcases hnn with rfl|⟨d,rfl⟩;exact dA _ _;exact fV _ _
 subst hch
 have hl:=aE x
 have hT:=T.len
 have hlen:=cq (p:=p) hq
 have hsplit:((ar x q p).takeWhile Re.ord_).length+((ar x q p).dropWhile Re.ord_).length=q-p:=by
  rw[←Qj,List.takeWhile_append_dropWhile,hlen]
 have hrun:=sF (x:=x) (p:=p) hq
 generalize hw:(ar x q p).takeWhile Re.ord_=run at *
 generalize hd:(ar x q p).dropWhile Re.ord_=dr' at *
 show wpB P pr (n+40) (.asg 11 _::.if_ (.v 11) _ []::r) _ K
 refine ao (n:=n+38) (if run.length=0 then .d .none else .mt ((p+run.length:Nat))) (fun K' h=>oQ (n:=n+33) T hj hjf hpq hq rfl rfl rfl K' (by rw[hw];exact h)) ?_
 by_cases h0:run.length=0
 ·rw[if_pos h0]
  have hr0:run=[]:=List.length_eq_zero_iff.mp h0
  have hne:dr'≠[]:=fun e=>by rw[e,h0] at hsplit;simp at hsplit;exact R290 hpq hsplit
  refine a9 (n:=n+37) false (c':=Cs c0 A B Z st br) (fun K' h=>h) (al ?_)
  have:=hn hne i (some (.d .none)) np
  subst hr0
  exact this
 ·rw[if_neg h0]
  refine a9 (n:=n+37) true (c':=Cs c0 A B Z st br) (fun K' h=>h) ?_
  show wpB P pr (n+37) [_,_,_,_,_,_] _ _
  refine ao (n:=n+35) (.d (.int ((p+run.length:Nat)))) (fun K' h=>by rw[eO];exact bD (n:=n+33) (v:=.mt ((p+run.length:Nat))) rfl _ ⟨rfl,rfl,rfl,h⟩) ?_
  refine ao (n:=n+34) (.d (.int (((p+run.length:Nat):Int)-1))) (fun K' h=>h) ?_
  refine dn (n:=n+34) (pR (n:=n+14) C T (hnn' _) (zd _ _) (fV _ _) (dA _ _) hrun fun j hj=>?_)
  have go:∀last1,last1=lastOf run last→∀i,wpB P pr (n+33) [.asg 4 (.v 12),.if_ (.cmp .GtE (.v 4) (.v 5)) [.brk] []] ⟨S2 k x gl A B Z i (I_ p) (I_ q) nn (some (.d (.str last1))) (some (.mt ((p+run.length:Nat)))) (some (.d (.int ((p+run.length:Nat))))) none,Cs c0 A B Z st br⟩
    (fun f τ=>match f with | .next=>wpB P pr (n+38) r τ K|f=>K f τ):=by
   intro last1 e i
   subst e
   refine ao (n:=n+31) (.d (.int ((p+run.length:Nat)))) (fun K' h=>h) ?_
   by_cases hr:dr'=[]
   ·rw[hr] at hsplit
    dsimp only[List.length_nil,Nat.add_zero] at hsplit
    refine a9 (n:=n+30) true (c':=Cs c0 A B Z st br) (fun K' h=>?_) ?_
    ·show K' (decide (((q:Nat):Int)≤((p+run.length:Nat):Int))) _
     rw[decide_eq_true (R289 hsplit)];exact h
    ·exact hb hr i _ _
   ·have:0<dr'.length:=List.length_pos_iff.mpr hr
    refine a9 (n:=n+30) false (c':=Cs c0 A B Z st br) (fun K' h=>?_) ?_
    ·show K' (decide (((q:Nat):Int)≤((p+run.length:Nat):Int))) _
     rw[decide_eq_false (R288 hsplit this)];exact h
    ·exact al (al (hn hr i _ _))
  rcases hj with ⟨rfl,hlast⟩|⟨d,hj0,hxd,hlast⟩
  ·refine a9 (n:=n+32) false (c':=Cs c0 A B Z st br) (fun K' h=>?_) (al (go last ?_ _))
   ·show K' (decide (((p:Nat):Int)≤((p+0:Nat):Int)-1)) _
    rw[decide_eq_false (R287)];exact h
   ·unfold lastOf;rw[hlast]
  ·refine a9 (n:=n+32) true (c':=Cs c0 A B Z st br) (fun K' h=>?_) ?_
   ·show K' (decide (((p:Nat):Int)≤((p+j:Nat):Int)-1)) _
    rw[decide_eq_true (R286 hj0)];exact h
   ·have ei:(((p+j:Nat):Int)-1)=((p+j-1:Nat):Int):=R285 hj0
    have hlt:=(Qw.mp hxd).1
    refine ao (n:=n+30) (.d (.str (Txt.item x (((p+j:Nat):Int)-1)))) (fun K' h=>bd (n:=n+29) (.d (.str x)) (.d (.int (((p+j:Nat):Int)-1))) (fun K' h=>h) (fun K' h=>h) ⟨by exact R284 ei,by exact R283 hlt,by exact R63 hT,h⟩) ?_
    rw[ei,cn hxd]
    exact al (go _ (by unfold lastOf;rw[hlast]) _)
end
noncomputable abbrev lX:IE:=.call (.g (.bi .len)) [(.v 8)] none
noncomputable abbrev mq (e:IE):IS:=.expr (.meth (.v 10) .append [(.tup [(.v 4),e])])
noncomputable abbrev oL:IS:=.asg 4 (.bin .Add (.v 4) (.c (.int 1)))
noncomputable def q7:List IS:=[.expr (.call (.v 9) [(.v 4)] none),mq lX,.asg 7 (.v 13),oL,.cont]
noncomputable def jj:List IS:=[.if_ (.v 8) [.del_ (.v 8) (.c (.int (-1)))] [],.asg 7 (.v 13),oL,mq lX,.cont]
noncomputable def wB (sr:Addr):List IS:=[mq (.bin .Add lX (.c (.int 1))),.asg 7 (.v 13),.asg 4 (.meth (.call (.g (.val (.ref sr))) [(.v 1),(.v 4),(.v 5)] none) .end_ []),mq lX,.cont]
noncomputable def wd:List IS:=[mq (.bin .Add lX (.c (.int 1))),.asg 4 (.bin .Add (.meth (.v 1) .find [(.c (.str ⟨#[10]⟩)),(.v 4),(.v 5)]) (.c (.int 1))),.assert (.cmp .Gt (.v 4) (.c (.int 0))),mq lX,.cont]
noncomputable def xJ:List IS:=[.assert (.cmp .Eq (.v 13) (.c (.str ⟨#[92]⟩))),oL,.assert (.cmp .Lt (.v 4) (.v 5)),
 .if_ (.cmp .NotEq (.item (.v 1) (.v 4)) (.c (.str ⟨#[10]⟩))) [.asg 7 (.bin .Add (.v 13) (.item (.v 1) (.v 4)))] [],oL]
noncomputable def ub (sr:Addr):List IS:=.asg 13 (.item (.v 1) (.v 4))::.if_ (.cmp .In (.v 13) (.c (.str ⟨#[40,91,123]⟩))) q7 []::.if_ (.cmp .In (.v 13) (.c (.str ⟨#[41,93,125]⟩))) jj [] ::
 .if_ (.or (.cmp .Eq (.v 13) (.c (.str ⟨#[34]⟩))) (.cmp .Eq (.v 13) (.c (.str ⟨#[39]⟩)))) (wB sr) []::.if_ (.cmp .Eq (.v 13) (.c (.str ⟨#[35]⟩))) wd []::xJ
section
variable {P:Pm}{c0:aa}{A B Z k:Nat}{pr:List Nat}{x:Str}{gl:List Nat}{st:List Nat}{br:List (Nat×Nat)}{p q n ch:Nat}{last:Str}{i nn m np:Option V}{K:F→Sg'→Prop}
noncomputable abbrev chO (ch:Nat):Option V:=some (.d (.str ⟨#[ch]⟩))
theorem qZ (p:Nat):((p:Nat):Int)+1=((p+1:Nat):Int):=R291
theorem wE {n:Nat}{a i:IE}{r:List IS}{l:Sl}{c:aa}{u v:V}{K:F→Sg'→Prop}(ho:∀K':V→aa→Prop,K' u c→wpE P n a l c K')(hi:∀K':V→aa→Prop,K' v c→wpE P n i l c K')(h:uw c u v (fun c3=>wpB P pr (n+1) r ⟨l,c3⟩ K)) :
  wpB P pr (n+2) (.del_ a i::r) ⟨l,c⟩ K:=by
 exact ho _ (hi _ h)
theorem tO (C:Cel2 c0 A B Z k pr)(hs:st.length+2≤big)(hb:br.length+2≤big)
  (h:K .cont ⟨S2 k x gl A B Z i (I_ (p+1)) (I_ q) nn (chO ch) m np (chO ch),Cs c0 A B Z (st++[p]) (br++[(p,st.length+1)])⟩) :
  wpB P pr (n+20) q7 ⟨S2 k x gl A B Z i (I_ p) (I_ q) nn (some (.d (.str last))) m np (chO ch),Cs c0 A B Z st br⟩ K:=by
 unfold q7
 refine t9 (n:=n+14) C rfl rfl (R293 hs) ?_
 refine fy (n:=n+11) (v:=st.length+1) C rfl rfl (R293 hb) (fun K' h=>gZ (n:=n+8) C rfl (by rw[Qj];dsimp only[Qz,List.length_nil];exact R294 hs) K' (by rw[Qj];exact h)) ?_
 refine ao (n:=n+16) (.d (.str ⟨#[ch]⟩)) (fun K' h=>h) ?_
 refine ao (n:=n+15) (.d (.int ((p+1:Nat)))) (fun K' h=>by rw[←qZ] at h;exact h) ?_
 exact h
theorem n9 (C:Cel2 c0 A B Z k pr)(hs:st.length+2≤big)(hb:br.length+2≤big)
  (h:K .cont ⟨S2 k x gl A B Z i (I_ (p+1)) (I_ q) nn (chO ch) m np (chO ch),Cs c0 A B Z st.dropLast (br++[(p+1,st.dropLast.length)])⟩) :
  wpB P pr (n+20) jj ⟨S2 k x gl A B Z i (I_ p) (I_ q) nn (some (.d (.str last))) m np (chO ch),Cs c0 A B Z st br⟩ K:=by
 unfold jj
 have go:wpB P pr (n+19) [.asg 7 (.v 13),oL,mq lX,.cont] ⟨S2 k x gl A B Z i (I_ p) (I_ q) nn (some (.d (.str last))) m np (chO ch),Cs c0 A B Z st.dropLast br⟩ K:=by
  refine ao (n:=n+17) (.d (.str ⟨#[ch]⟩)) (fun K' h=>h) ?_
  refine ao (n:=n+16) (.d (.int ((p+1:Nat)))) (fun K' h=>by rw[←qZ] at h;exact h) ?_
  refine fy (n:=n+9) (v:=st.dropLast.length) C rfl rfl (R293 hb) (fun K' h=>gZ (n:=n+6) C rfl (by rw[List.length_dropLast];exact R302 hs) K' h) ?_
  exact h
 have htr:∀K':Bool→aa→Prop,K' (!st.isEmpty) (Cs c0 A B Z st br)→wpT P (n+18) (.v 8) (S2 k x gl A B Z i (I_ p) (I_ q) nn (some (.d (.str last))) m np (chO ch)) (Cs c0 A B Z st br) K':=fun K' h=>by
  show aw (b8 (Cs c0 A B Z st br) (.obj A)) _
  rw[uz C]
  refine⟨by rw[bN];exact R293 hs,?_⟩
  have e:(aR st).isEmpty=st.isEmpty:=by cases st<;>rfl
  rw[e];exact h
 refine a9 (n:=n+18) (!st.isEmpty) (c':=Cs c0 A B Z st br) htr ?_
 cases st with
 |nil=>exact al go
 |cons a r=>
  show wpB P pr (n+18) [.del_ (.v 8) (.c (.int (-1)))] _ _
  refine wE (n:=n+16) (u:=.obj A) (v:=.d (.int (-1))) (fun K' h=>h) (fun K' h=>h) ?_
  refine⟨rfl,?_⟩
  rw[rr C]
  refine⟨by simp[aR],by rw[bN];exact R293 hs,al ?_⟩
  have e:(aR (a::r)).dropLast=aR (a::r).dropLast:=by unfold aR;rw[List.map_dropLast]
  rw[e,nX C];exact go
theorem s3 (C:Cel2 c0 A B Z k pr)(T:TextOk x){sr:Addr}(hj:P.isFn sr=true)(hjf:P.fn sr=aW Re.strC)(hpq:p<q)(hq:q≤x.length){r:List Nat}(hr:ar x q p=ch::r)(hch:ch=34∨ch=39)(hs:st.length+2≤big)(hb:br.length+2≤big)
  (h:K .cont ⟨S2 k x gl A B Z i (I_ (p+Re.strEnd (ch::r))) (I_ q) nn (chO ch) m np (chO ch),Cs c0 A B Z st (br++[(p,st.length+1)]++[(p+Re.strEnd (ch::r),st.length)])⟩) :
  wpB P pr (n+20) (wB sr) ⟨S2 k x gl A B Z i (I_ p) (I_ q) nn (some (.d (.str last))) m np (chO ch),Cs c0 A B Z st br⟩ K:=by
 unfold wB
 refine fy (n:=n+12) (v:=st.length+1) C rfl rfl (R293 hb) (fun K' h=>n3 (n:=n+8) C rfl (R293 hs) K' h) ?_
 refine ao (n:=n+17) (.d (.str ⟨#[ch]⟩)) (fun K' h=>h) ?_
 refine ao (n:=n+16) (.d (.int ((p+Re.strEnd (ch::r):Nat)))) (fun K' h=>?_) ?_
 ·rw[eO]
  refine sL (n:=n+10) T hj hjf hpq hq hr hch rfl rfl rfl _ ⟨rfl,?_⟩
  exact⟨rfl,rfl,h⟩
 refine fy (n:=n+9) (v:=st.length) C rfl rfl (by rw[Qj];dsimp only[Qz,List.length_nil];exact R294 hb) (fun K' h=>gZ (n:=n+6) C rfl (R293 hs) K' h) ?_
 exact h
theorem f7 {j d:Nat}(hq:q≤x.length)(h:(ar x q p)[j]?=some d):(sg x)[p+j]?=some d∧p+j<q:=by
 unfold ar at h
 rw[Zx,List.getElem?_take] at h
 split at h
 ·rename_i hl;exact⟨h,hl⟩
 ·contradiction
theorem vV (C:Cel2 c0 A B Z k pr)(T:TextOk x)(hq:q≤x.length){r:List Nat}(hr:ar x q p=35::r)(hnl:10∈r)(hs:st.length+2≤big)(hb:br.length+2≤big)
  (h:K .cont ⟨S2 k x gl A B Z i (I_ (p+(r.takeWhile (fun c=>c != 10)).length+2)) (I_ q) nn (some (.d (.str last))) m np (chO ch),Cs c0 A B Z st (br++[(p,st.length+1)]++[(p+(r.takeWhile (fun c=>c != 10)).length+2,st.length)])⟩) :
  wpB P pr (n+20) wd ⟨S2 k x gl A B Z i (I_ p) (I_ q) nn (some (.d (.str last))) m np (chO ch),Cs c0 A B Z st br⟩ K:=by
 have hl:=aE x
 have hex:∀r':List Nat,10∈r'→r'[(r'.takeWhile (fun c=>c != 10)).length]?=some 10∧∀j,j<(r'.takeWhile (fun c=>c != 10)).length→r'[j]?≠some 10:=by
  intro r'
  induction r' with
  |nil=>intro h;contradiction
  |cons c r' ih=>
   intro hm
   by_cases hc:c=10
   ·subst hc;exact⟨rfl,fun j hj=>by simp at hj⟩
   ·have hb:(c != 10)=true:=bne_iff_ne.mpr hc
    have:=ih (by rcases Qy.mp hm with h|h;exact absurd h.symm hc;exact h)
    rw[Xw,hb,if_pos rfl,Qz]
    refine⟨by rw[List.getElem?_cons_succ];exact this.1,fun j hj=>?_⟩
    cases j with
    |zero=>simp[hc]
    |succ j=>rw[List.getElem?_cons_succ];exact this.2 j (R301 hj)
 obtain⟨h1,h2⟩:=hex r hnl
 have a1:(sg x)[p+((r.takeWhile (fun c=>c != 10)).length+1)]?=some 10∧p+((r.takeWhile (fun c=>c != 10)).length+1)<q:=f7 hq (by rw[hr,List.getElem?_cons_succ];exact h1)
 have a0:(sg x)[p]?=some 35:=(f7 (j:=0) hq (by rw[hr];rfl)).1
 have hf:eF x ⟨#[10]⟩ p q+1=((p+(r.takeWhile (fun c=>c != 10)).length+2:Nat):Int):=by
  obtain⟨j,e,j1,j2,j3,j4⟩:=mL (x:=x) (i:=p) (hi:=q) hq ⟨_,by exact R298,a1.2,a1.1⟩
  rw[e]
  have hj:j=p+((r.takeWhile (fun c=>c != 10)).length+1):=by
   rcases Nat.lt_trichotomy j (p+((r.takeWhile (fun c=>c != 10)).length+1)) with h|h|h
   ·exfalso
    by_cases hjp:j=p
    ·rw[hjp,a0] at j3;contradiction
    ·obtain⟨t,ht⟩:∃t,j=p+(t+1):=⟨j-p-1,by exact R300 j1 hjp⟩
     refine h2 t (R299 h ht) ?_
     have:(ar x q p)[t+1]?=some 10:=by
      unfold ar;rw[Zx,List.getElem?_take,if_pos (by omega),←ht];exact j3
     rw[hr,List.getElem?_cons_succ] at this;exact this
   ·exact h
   ·exact absurd a1.1 (j4 _ (R298) h)
  rw[hj];exact R297
 unfold wd
 refine fy (n:=n+12) (v:=st.length+1) C rfl rfl (R293 hb) (fun K' h=>n3 (n:=n+8) C rfl (R293 hs) K' h) ?_
 refine ao (n:=n+17) (.d (.int ((p+(r.takeWhile (fun c=>c != 10)).length+2:Nat)))) (fun K' h=>?_) ?_
 ·refine⟨rfl,rfl,⟨?_,?_,?_⟩,?_⟩
  ·show (0:Int)≤((p:Nat):Int);exact R72
  ·show (0:Int)≤((q:Nat):Int);exact R72
  ·show ((q:Nat):Int)≤((x.length:Nat):Int);exact R296 hq
  ·show K' (.d (.int (eF x ⟨#[10]⟩ ((p:Nat):Int).toNat ((q:Nat):Int).toNat+1))) _
   rw[Int.toNat_natCast,Int.toNat_natCast,hf];exact h
 refine cg (n:=n+16) (c':=Cs c0 A B Z st (br++[(p,st.length+1)])) (fun K' h=>?_) ?_
 ·show K' (decide ((0:Int)<((p+(r.takeWhile (fun c=>c != 10)).length+2:Nat):Int))) _
  rw[decide_eq_true (R295)];exact h
 refine fy (n:=n+9) (v:=st.length) C rfl rfl (by rw[Qj];dsimp only[Qz,List.length_nil];exact R294 hb) (fun K' h=>gZ (n:=n+6) C rfl (R293 hs) K' h) ?_
 exact h
theorem xq (T:TextOk x)(hq:q≤x.length){d:Nat}{r:List Nat}(hr:ar x q p=92::d::r)
  (h:K .next ⟨S2 k x gl A B Z i (I_ (p+2)) (I_ q) nn (some (.d (.str (if d=10 then last else ⟨#[92,d]⟩)))) m np (chO 92),Cs c0 A B Z st br⟩) :
  wpB P pr (n+20) xJ ⟨S2 k x gl A B Z i (I_ p) (I_ q) nn (some (.d (.str last))) m np (chO 92),Cs c0 A B Z st br⟩ K:=by
 have hl:=aE x
 have hT:=T.len
 obtain⟨a1,a2⟩:=f7 (j:=1) (d:=d) hq (by rw[hr];rfl)
 have hit:=cn a1
 have hlt:=(Qw.mp a1).1
 unfold xJ
 refine cg (n:=n+18) (c':=Cs c0 A B Z st br) (fun K' h=>h) ?_
 refine ao (n:=n+17) (.d (.int ((p+1:Nat)))) (fun K' h=>by rw[←qZ] at h;exact h) ?_
 refine cg (n:=n+16) (c':=Cs c0 A B Z st br) (fun K' h=>?_) ?_
 ·show K' (decide (((p+1:Nat):Int)<((q:Nat):Int))) _
  rw[decide_eq_true (R70 a2)];exact h
 have itm:∀{n:Nat} {l:Sl},aF l 1=some (.d (.str x))→aF l 4=some (.d (.int ((p+1:Nat))))→∀K':V→aa→Prop,K' (.d (.str ⟨#[d]⟩)) (Cs c0 A B Z st br)→wpE P (n+2) (.item (.v 1) (.v 4)) l (Cs c0 A B Z st br) K':=fun h1 h4 K' h=>
  bd (.d (.str x)) (.d (.int ((p+1:Nat)))) (bD h1) (bD h4) ⟨by exact R71,by exact R70 hlt,by exact R63 hT,by rw[hit];exact h⟩
 have fin:wpB P pr (n+16) [oL] ⟨S2 k x gl A B Z i (I_ (p+1)) (I_ q) nn (some (.d (.str (if d=10 then last else ⟨#[92,d]⟩)))) m np (chO 92),Cs c0 A B Z st br⟩ K:=
  ao (n:=n+14) (.d (.int ((p+2:Nat)))) (fun K' h=>by rw[show ((p+2:Nat):Int)=((p+1:Nat):Int)+1 by exact R292] at h;exact h) (al h)
 refine a9 (n:=n+15) (!decide (d=10)) (c':=Cs c0 A B Z st br) (fun K' h=>?_) ?_
 ·refine b6 (n:=n+14) (.d (.str ⟨#[d]⟩)) (.d (.str ⟨#[10]⟩)) (itm rfl rfl) (fun K' h=>h) ?_
  show K' (!((⟨#[d]⟩:Str)==⟨#[10]⟩)) _
  rw[mc];exact h
 ·by_cases hd:d=10
  ·rw[if_pos hd] at fin
   rw[decide_eq_true hd]
   exact al fin
  ·rw[if_neg hd] at fin
   rw[decide_eq_false hd]
   refine ao (n:=n+13) (.d (.str ⟨#[92,d]⟩)) (fun K' h=>?_) (al fin)
   rw[dS]
   refine bD rfl _ ?_
   exact itm rfl rfl _ ⟨(by show 1+1≤big;decide),h⟩
end
section
variable {P:Pm}{c0:aa}{A B Z k:Nat}{pr:List Nat}{x:Str}{gl:List Nat}{st:List Nat}{br:List (Nat×Nat)}{p q n ch:Nat}{last:Str}{i nn m np:Option V}{K:F→Sg'→Prop}
theorem y2 {c:aa}{l:Sl}{y:Str}(h13:aF l 13=chO ch)(K':Bool→aa→Prop)(h:K' ((sg y).contains ch) c):wpT P (n+2) (.cmp .In (.v 13) (.c (.str y))) l c K':=by
 refine b6 (n:=n+1) (.d (.str ⟨#[ch]⟩)) (.d (.str y)) (bD h13) (fun K' h=>h) ?_
 show K' (Txt.contains y ⟨#[ch]⟩) c
 rw[iJ];exact h
theorem xo {c:aa}{l:Sl}{a:Nat}(h13:aF l 13=chO ch)(K':Bool→aa→Prop)(h:K' (decide (ch=a)) c):wpT P (n+2) (.cmp .Eq (.v 13) (.c (.str ⟨#[a]⟩))) l c K':=by
 refine b6 (n:=n+1) (.d (.str ⟨#[ch]⟩)) (.d (.str ⟨#[a]⟩)) (bD h13) (fun K' h=>h) ?_
 show K' ((⟨#[ch]⟩:Str)==⟨#[a]⟩) c
 rw[mc];exact h
theorem c3 (a b c ch:Nat):(sg ⟨#[a,b,c]⟩).contains ch=decide (ch=a∨ch=b∨ch=c):=by
 show ([a,b,c]:List Nat).contains ch=_
 simp only[List.contains_cons,List.contains_nil,Bool.or_false]
 by_cases h1:ch=a<;>by_cases h2:ch=b<;>by_cases h3:ch=c<;>simp[h1,h2,h3]
noncomputable abbrev T2 (k:Nat) (x:Str) (gl:List Nat) (A B Z q:Nat) (i nn m np ch:Option V) (c0:aa) (s:L2):Sg':=⟨S2 k x gl A B Z i (I_ s.p) (I_ q) nn (some (.d (.str s.last))) m np ch,Cs c0 A B Z s.st s.br⟩
theorem va {ch:Nat}(hsp:Re.special ch=true)(h1:¬(ch=40∨ch=91∨ch=123))(h2:¬(ch=41∨ch=93∨ch=125))(h3:¬(ch=34∨ch=39))(h4:¬ch=35):ch=92:=by
 unfold Re.special at hsp
 simp only[Bool.or_eq_true,beq_iff_eq] at hsp
 rcases hsp with ((((((((h|h)|h)|h)|h)|h)|h)|h)|h)|h
 ·exact absurd (.inr (.inl h)) h1
 ·exact absurd (.inr (.inl h)) h2
 ·exact absurd (.inl h) h1
 ·exact absurd (.inl h) h2
 ·exact absurd (.inr (.inr h)) h1
 ·exact absurd (.inr (.inr h)) h2
 ·exact absurd h h4
 ·exact absurd (.inr h) h3
 ·exact absurd (.inl h) h3
 ·exact h
theorem ru (C:Cel2 c0 A B Z k pr)(T:TextOk x){sr:Addr}(hj:P.isFn sr=true)(hjf:P.fn sr=aW Re.strC)(hpq:p<q)(hq:q≤x.length){r:List Nat}(hr:ar x q p=ch::r)(hsp:Re.special ch=true)(hend:(ch::r).getLast?=some 10)(hs:st.length+2≤big)(hb:br.length+2≤big)
  (h:∀f ch',(f=.next∨f=.cont)→K f (T2 k x gl A B Z q i nn m np ch' c0 (db p last st br (ch::r)))) :
  wpB P pr (n+30) (ub sr) ⟨S2 k x gl A B Z i (I_ p) (I_ q) nn (some (.d (.str last))) m np none,Cs c0 A B Z st br⟩ K:=by
 have hl:=aE x
 have hT:=T.len
 have a0:(sg x)[p]?=some ch:=(f7 (j:=0) (d:=ch) hq (by rw[hr];rfl)).1
 have hlt:=(Qw.mp a0).1
 unfold ub
 refine ao (n:=n+28) (.d (.str ⟨#[ch]⟩)) (fun K' h=>bd (n:=n+27) (.d (.str x)) (.d (.int (p:Nat))) (fun K' h=>h) (fun K' h=>h) ⟨by exact R54,by exact R53 hlt,by exact R63 hT,by rw[cn a0];exact h⟩) ?_
 refine a9 (n:=n+27) (decide (ch=40∨ch=91∨ch=123)) (c':=Cs c0 A B Z st br) (fun K' h=>y2 (n:=n+25) rfl K' (by rw[c3];exact h)) ?_
 by_cases h1:ch=40∨ch=91∨ch=123
 ·rw[decide_eq_true h1]
  have e:db p last st br (ch::r)=⟨p+1,⟨#[ch]⟩,st++[p],br++[(p,st.length+1)]⟩:=by unfold db;dsimp only;rw[if_pos h1]
  rw[e] at h
  exact tO (n:=n+7) C hs hb (h .cont _ (.inr rfl))
 rw[decide_eq_false h1]
 refine al ?_
 refine a9 (n:=n+26) (decide (ch=41∨ch=93∨ch=125)) (c':=Cs c0 A B Z st br) (fun K' h=>y2 (n:=n+24) rfl K' (by rw[c3];exact h)) ?_
 by_cases h2:ch=41∨ch=93∨ch=125
 ·rw[decide_eq_true h2]
  have e:db p last st br (ch::r)=⟨p+1,⟨#[ch]⟩,st.dropLast,br++[(p+1,st.dropLast.length)]⟩:=by unfold db;dsimp only;rw[if_neg h1,if_pos h2]
  rw[e] at h
  exact n9 (n:=n+6) C hs hb (h .cont _ (.inr rfl))
 rw[decide_eq_false h2]
 refine al ?_
 refine a9 (n:=n+25) (decide (ch=34∨ch=39)) (c':=Cs c0 A B Z st br) (fun K' h=>?_) ?_
 ·simp only[rS]
  refine xo (n:=n+22) rfl _ ⟨fun e=>?_,fun e=>?_⟩
  ·have:=of_decide_eq_true e
   rw[decide_eq_true (.inl this)] at h;exact h
  ·have n34:=of_decide_eq_false e
   refine xo (n:=n+22) rfl _ ?_
   have:decide (ch=39)=decide (ch=34∨ch=39):=by
    by_cases q:ch=39
    ·rw[decide_eq_true q,decide_eq_true (.inr q)]
    ·rw[decide_eq_false q,decide_eq_false (fun o=>o.elim n34 q)]
   simp only[this];exact h
 by_cases h3:ch=34∨ch=39
 ·rw[decide_eq_true h3]
  have e:db p last st br (ch::r)=⟨p+Re.strEnd (ch::r),⟨#[ch]⟩,st,br++[(p,st.length+1)]++[(p+Re.strEnd (ch::r),st.length)]⟩:=by unfold db;dsimp only;rw[if_neg h1,if_neg h2,if_pos h3]
  rw[e] at h
  exact s3 (n:=n+5) C T hj hjf hpq hq hr h3 hs hb (h .cont _ (.inr rfl))
 rw[decide_eq_false h3]
 refine al ?_
 refine a9 (n:=n+24) (decide (ch=35)) (c':=Cs c0 A B Z st br) (fun K' h=>xo (n:=n+22) rfl K' h) ?_
 by_cases h4:ch=35
 ·rw[decide_eq_true h4]
  subst h4
  have hnl:10∈r:=by
   cases r with
   |nil=>contradiction
   |cons d r=>rw[List.getLast?_cons_cons] at hend;exact List.mem_of_getLast? hend
  have e:db p last st br (35::r)=⟨p+(r.takeWhile (fun c=>c != 10)).length+2,last,st,br++[(p,st.length+1)]++[(p+(r.takeWhile (fun c=>c != 10)).length+2,st.length)]⟩:=by unfold db;dsimp only;rw[if_neg h1,if_neg h2,if_neg h3,if_pos rfl]
  rw[e] at h
  exact vV (n:=n+4) C T hq hr hnl hs hb (h .cont _ (.inr rfl))
 rw[decide_eq_false h4]
 refine al ?_
 have h5:=va hsp h1 h2 h3 h4
 subst h5
 cases r with
 |nil=>contradiction
 |cons d r=>
  have e:db p last st br (92::d::r)=⟨p+2,if d=10 then last else ⟨#[92,d]⟩,st,br⟩:=by unfold db;dsimp only;rw[if_neg h1,if_neg h2,if_neg h3,if_neg h4]
  rw[e] at h
  exact xq (n:=n+5) T hq hr (h .next _ (.inl rfl))
structure Ln (x:Str)(q:Nat)(s:L2):Prop where
 p:s.p≤q
 st:s.st.length≤s.p
 br:s.br.length≤2*s.p+1
theorem gK (q:Nat):∀w:List Nat,Re.sEnd3 q w≤w.length
 | []=>Zv _
 | [c]=>by unfold Re.sEnd3;split<;>simp
 |c::d::r=>by
  unfold Re.sEnd3
  have h1:=gK q r
  have h2:=gK q (d::r)
  dsimp only[Qz] at h2 ⊢
  split
  ·exact R323 h1
  ·split
   ·rename_i h
    cases r with
    |nil=>exact absurd h.2.2 (by simp)
    |cons a r=>dsimp only[Qz];exact R325
   ·exact R324 h2
theorem hM (q:Nat):∀w:List Nat,Re.sEnd1 q w≤w.length
 | []=>Zv _
 | [c]=>by unfold Re.sEnd1;split<;>simp
 |c::d::r=>by
  unfold Re.sEnd1
  have h1:=hM q r
  have h2:=hM q (d::r)
  dsimp only[Qz] at h2 ⊢
  split
  ·exact R323 h1
  ·split
   ·exact R322
   ·split<;>omega
theorem oY (ch:Nat)(r:List Nat):1≤Re.strEnd (ch::r)∧Re.strEnd (ch::r)≤(ch::r).length:=by
 have e:Re.strEnd (ch::r)=if r.head?=some ch∧r.tail.head?=some ch then 3+Re.sEnd3 ch (r.drop 2) else 1+Re.sEnd1 ch r:=rfl
 have h1:=hM ch r
 rw[e]
 split
 ·rename_i h
  match r,h with
  |a::b::r,h=>
   have:=gK ch r
   exact R321 this
  | [],h=>exact absurd h.1 (by simp)
  | [a],h=>exact absurd h.2 (by simp)
 ·dsimp only[Qz];exact R320 h1
theorem wV {last1:Str}{w:List Nat}(hw:p+w.length=q)(hne:w≠[])(hend:w.getLast?=some 10)(hst:st.length≤p)(hbr:br.length≤2*p+1):Ln x q (db p last1 st br w)∧p<(db p last1 st br w).p:=by
 cases w with
 |nil=>exact absurd rfl hne
 |cons ch r=>
  simp only[Qz] at hw
  unfold db
  dsimp only
  split
  ·refine⟨⟨?_,?_,?_⟩,?_⟩<;>simp only[Qj,Qz,List.length_nil]<;>omega
  split
  ·refine⟨⟨?_,?_,?_⟩,?_⟩<;>simp only[Qj,Qz,List.length_nil,List.length_dropLast]<;>omega
  split
  ·have:=oY ch r
   simp only[Qz] at this
   refine⟨⟨?_,?_,?_⟩,?_⟩<;>simp only[Qj,Qz,List.length_nil]<;>omega
  split
  ·have h1:(r.takeWhile (fun c=>c != 10)).length<r.length:=by
    have h10:10∈r:=by
     rename_i h4
     cases r with
     |nil=>subst h4;contradiction
     |cons d r=>rw[List.getLast?_cons_cons] at hend;exact List.mem_of_getLast? hend
    have hle:(r.takeWhile (fun c=>c != 10)).length≤r.length:=(List.takeWhile_sublist _).length_le
    refine Nat.lt_of_le_of_ne hle fun e=>?_
    have e2:=Re.tw_take (fun c=>c != 10) r
    rw[e,List.take_length] at e2
    rw[e2] at h10
    exact absurd (Re.tw_all _ _ _ h10) (by decide)
   refine⟨⟨?_,?_,?_⟩,?_⟩<;>simp only[Qj,Qz,List.length_nil]<;>omega
  ·cases r with
   |nil=>simp only[List.length_nil] at hw;exact⟨⟨(by show p+1≤q;exact R319 hw),(by show st.length≤p+1;exact R13 hst),(by show br.length≤2*(p+1)+1;exact R318 hbr)⟩,(by show p<p+1;exact R43)⟩
   |cons d r=>simp only[Qz] at hw;exact⟨⟨(by show p+2≤q;exact R317 hw),(by show st.length≤p+2;exact R316 hst),(by show br.length≤2*(p+2)+1;exact R315 hbr)⟩,(by show p<p+2;exact R44)⟩
theorem kT (hq:q≤x.length)(hend:(sg x)[q-1]?=some 10)(hpq:p<q):(ar x q p).getLast?=some 10:=by
 have hlen:=cq (p:=p) hq
 rw[Qp,hlen]
 unfold ar
 rw[Zx,List.getElem?_take,if_pos (R314 hpq),show p+(q-p-1)=q-1 by exact R313 hpq];exact hend
theorem qo (C:Cel2 c0 A B Z k pr)(T:TextOk x)(hbig:2*x.length+10≤big){cr sr:Addr}(hc1:P.isFn cr=true)(hc2:P.fn cr=aW Re.chewC)(hj:P.isFn sr=true)(hjf:P.fn sr=aW Re.strC)(hq:q≤x.length)(hend:0<q→(sg x)[q-1]?=some 10)(hnn:nn=none∨∃d,nn=some (.d d))
  {J:L2→Prop} (hJ:∀s,J s→s.p<q→J (dl x q s)) {s0:L2} (hJ0:J s0) (hL0:Ln x q s0)
  (h:∀s i m np ch,J s→s.p=q→Ln x q s→K .next (T2 k x gl A B Z q i nn m np ch c0 s)) :
  wpS P pr (n+60) (.while_ (.cmp .Lt (.v 4) (.v 5)) (qP cr++ub sr) []) (T2 k x gl A B Z q i nn none none none c0 s0) K:=by
 have hl:=aE x
 refine⟨fun k' τ=>∃s i,k'=q-s.p∧J s∧Ln x q s∧τ=T2 k x gl A B Z q i nn none none none c0 s,_,⟨s0,i,rfl,hJ0,hL0,rfl⟩,?_⟩
 rintro k' τ ⟨s,i,rfl,hJs,hLs,rfl⟩
 obtain⟨hL1,hL2,hL3⟩:=hLs
 refine⟨fun e=>?_,fun e=>?_⟩
 ·have hpq:s.p<q:=by have:=of_decide_eq_true e;exact R62 this
  have hJ':=hJ s hJs hpq
  have hre:=kT (p:=s.p) hq (hend (R135 hpq)) hpq
  have hlen:=cq (p:=s.p) hq
  have hsplit:((ar x q s.p).takeWhile Re.ord_).length+((ar x q s.p).dropWhile Re.ord_).length=q-s.p:=by
   rw[←Qj,List.takeWhile_append_dropWhile,hlen]
  have hdrop:=Re.tw_drop Re.ord_ (ar x q s.p)
  have again:∀(f:F) (s':L2) (i m np ch:Option V),(f=.next∨f=.cont)→J s'→Ln x q s'→s.p<s'.p→
    (match f with
     | .next | .cont=>∃k' υ',k'<q-s.p∧Wk pr (T2 k x gl A B Z q i nn m np ch c0 s') υ'∧∃s2 i,k'=q-s2.p∧J s2∧Ln x q s2∧υ'=T2 k x gl A B Z q i nn none none none c0 s2
     | .brk=>K .next (T2 k x gl A B Z q i nn m np ch c0 s')
     | .ret v=>K (.ret v) (T2 k x gl A B Z q i nn m np ch c0 s')):=by
   intro f s' i m np ch hf hJ2 hL2 hlt
   have hnn':∀C,dr C nn nn:=fun C=>by rcases hnn with rfl|⟨d,rfl⟩;exact dA _ _;exact fV _ _
   have:=hL2.p
   rcases hf with rfl|rfl<;>exact⟨q-s'.p,_,by exact R61 hlt this,vx C (dA _ _) (fV _ _) (fV _ _) (hnn' _) (fV _ _) (dA _ _) (dA _ _) (dA _ _),s',none,rfl,hJ2,hL2,rfl⟩
  refine pL (n:=n+19) C T hc1 hc2 hpq hq hnn rfl (fun hd i m np=>?_) (fun hd i m np=>?_)
  ·have e:dl x q s=⟨s.p+((ar x q s.p).takeWhile Re.ord_).length,lastOf ((ar x q s.p).takeWhile Re.ord_) s.last,s.st,s.br⟩:=by unfold dl;simp only[hd];rfl
   rw[hd] at hsplit
   dsimp only[List.length_nil,Nat.add_zero] at hsplit
   have hp:s.p+((ar x q s.p).takeWhile Re.ord_).length=q:=R312 hpq hsplit
   simp only[e] at hJ'
   exact h _ i m np none hJ' hp ⟨by simp only;exact R311 hp,by simp only;exact R308 hL2,by simp only;exact R307 hL3⟩
  ·have hw:s.p+((ar x q s.p).takeWhile Re.ord_).length+((ar x q s.p).dropWhile Re.ord_).length=q:=R310 hpq hsplit
   have hr2:ar x q (s.p+((ar x q s.p).takeWhile Re.ord_).length)=(ar x q s.p).dropWhile Re.ord_:=by
    simp only[←hdrop];unfold ar;simp only[List.drop_drop]
   have hge:((ar x q s.p).dropWhile Re.ord_).getLast?=some 10:=by
    rw[←hr2];exact kT hq (hend (R135 hpq)) (by have:0<((ar x q s.p).dropWhile Re.ord_).length:=List.length_pos_iff.mpr hd;exact R309 hw this)
   obtain⟨hln,hgt⟩:=wV (x:=x) (last1:=lastOf ((ar x q s.p).takeWhile Re.ord_) s.last) hw hd hge (st:=s.st) (br:=s.br) (R308 hL2) (R307 hL3)
   have e2:dl x q s=db (s.p+((ar x q s.p).takeWhile Re.ord_).length) (lastOf ((ar x q s.p).takeWhile Re.ord_) s.last) s.st s.br ((ar x q s.p).dropWhile Re.ord_):=rfl
   simp only[e2] at hJ'
   cases hdw:(ar x q s.p).dropWhile Re.ord_ with
   |nil=>exact absurd hdw hd
   |cons ch r=>
    rw[hdw] at hr2 hge hln hgt hJ'
    have hsp:Re.special ch=true:=by
     have:=Re.dw_head hdw
     unfold Re.ord_ at this
     simpa using this
    refine ru (n:=n+27) C T hj hjf (by have:=hln.p;exact R306 hgt this) hq hr2 hsp hge (R305 hbig hq hL2 hw) (R304 hbig hq hL3 hw) fun f ch' hf=>?_
    exact again f _ i m np ch' hf hJ' hln (R3 hgt)
 ·have hp:s.p=q:=by have:=of_decide_eq_false e;exact R303 hL1 this
  exact al (h s i none none none hJs hp ⟨hL1,hL2,hL3⟩)
end
noncomputable abbrev dI:Str:=Qq "stmt_start"
noncomputable abbrev lA:Str:=Qq "stmt_end"
noncomputable abbrev fO:Str:=Qq "lastch"
noncomputable abbrev j8:Str:=Qq "lastopenbracketpos"
noncomputable abbrev nBr:Str:=Qq "stmt_bracketing"
noncomputable def nD:List IS:=[.asgA (.v 0) fO (.v 7),.asgA (.v 0) j8 (.ite (.v 8) (.item (.v 8) (.c (.int (-1)))) (.c .none)),.asgA (.v 0) nBr (.call (.g (.bi .tuple)) [(.v 10)] none)]
noncomputable def t8 (cr sr:Addr)(A B Z:Nat):List IS:=.unpA (.v 0) dI (.v 0) lA (.v 4) (.v 5)::.asg 7 (.c (.str ⟨#[]⟩))::.asg 8 (.lst [] (some A))::.asg 9 (.bnd (.v 8) B)::.asg 10 (.lst [(.tup [(.v 4),(.c (.int 0))])] (some Z)) ::
 .while_ (.cmp .Lt (.v 4) (.v 5)) (qP cr++ub sr) []::nD
noncomputable def dc (st jr cr sr:Addr)(A B Z:Nat):List IS:=.if_ (.cmp .GtE (.attr (.v 0) nSl) (.c (.int 2))) [.ret none] []::.expr (.umeth (.v 0) st nS1 [])::.asgA (.v 0) nSl (.c (.int 2))::.unp2 1 2 (.attr (.v 0) cV) (.attr (.v 0) nGl) ::
 .asg 3 (.bin .Sub (.call (.g (.bi .len)) [(.v 2)] none) (.c (.int 1)))::.asg 4 (.call (.g (.bi .len)) [(.v 1)] none)::.while_ (.v 3) (l1B jr) [] ::
 .if_ (.cmp .Eq (.v 3) (.c (.int 0))) [.assert (.cmp .Eq (.v 4) (.c (.int 0))),.asg 5 (.v 4)] []::t8 cr sr A B Z
inductive Rch (x:Str)(q:Nat)(s0:L2):L2→Prop
 |refl:Rch x q s0 s0
 |step {s:L2}:Rch x q s0 s→s.p<q→Rch x q s0 (dl x q s)
noncomputable def L0 (p:Nat):L2:=⟨p,⟨#[]⟩,[],[(p,0)]⟩
noncomputable def hF (st:List Nat):D:=match st.getLast? with
 |some a=>.int (a:Nat)
 |none=>.none
noncomputable def gD (fs:List (Str×V))(s:L2):List (Str×V):=put (put (put fs fO (.d (.str s.last))) j8 (.d (hF s.st))) nBr (.d (.tup (brD s.br)))
noncomputable def stm (x:Str):Nat×Nat:=bo x (aU (fin x)) ((aU (fin x)).length-1)
noncomputable def studied2 (fs:List (Str×V))(x:Str)(s:L2):List (Str×V):=gD (put (put (put (studied fs x) nSl (.d (.int 2))) dI (.d (.int ((stm x).1:Nat)))) lA (.d (.int ((stm x).2:Nat)))) s
structure Attr2 (P:Pm):Prop extends AttrOk P where
 st:P.attr dI=true
 en:P.attr lA=true
 la:P.attr fO=true
 op:P.attr j8=true
 br:P.attr nBr=true
section
variable {P:Pm}{c0 c:aa}{A B Z k dk:Nat}{pr:List Nat}{x:Str}{gl:List Nat}{n q:Nat}{i nn m np ch:Option V}{K:F→Sg'→Prop}{fs:List (Str×V)}
theorem qC {j:Nat}{st:List Nat}{br:List (Nat×Nat)}(h:j∈dom c0)(o:O):cset (Cs c0 A B Z st br) j o=Cs (cset c0 j o) A B Z st br:=by
 unfold Cs
 rw[aX (by rw[af,af];simp[h]),aX (by rw[af];simp[h]),aX h]
theorem Cel2.cset (C:Cel2 c0 A B Z k pr){fs':List (Str×V)}(hdk:ae c0 dk=some (.ns fs))(hf:fsW (cset c0 dk (.ns fs')) (cset c0 dk (.ns fs')) fs' fs'):Cel2 (cset c0 dk (.ns fs')) A B Z k pr:=
 ⟨by rw[ai];exact C.a,by rw[ai];exact C.b,by rw[ai];exact C.z,C.ab,C.az,C.bz,C.w.set hdk hf,by rw[ai];exact C.k_,fun j hj=>by rw[ai];exact C.pr j hj⟩
theorem vw {c:aa}{dk:Nat}{fs:List (Str×V)}(W:Wf c)(hdk:ae c dk=some (.ns fs))(nm:Str)(d:D):fsW (cset c dk (.ns (put fs nm (.d d)))) (cset c dk (.ns (put fs nm (.d d)))) (put fs nm (.d d)) (put fs nm (.d d)):=
 aB (vD _ _ _) (bP (fun j hj=>by rw[ai];exact hj) (W.fs hdk))
theorem qR (C:Cel2 c0 A B Z k pr){st:List Nat}{br:List (Nat×Nat)}(hk:ae c0 k=some (.inst P.C dk))(hdk:ae c0 dk=some (.ns fs)){nm:Str}(hat:P.attr nm=true)(hsz:fs.length≤1000){e:IE}{d:D}{r:List IS}{l:Sl}(h0:aF l 0=some (.obj k))
  (he:∀K':V→aa→Prop,K' (.d d) (Cs c0 A B Z st br)→wpE P (n+1) e l (Cs c0 A B Z st br) K') (h:Cel2 (cset c0 dk (.ns (put fs nm (.d d)))) A B Z k pr→wpB P pr (n+2) r ⟨l,Cs (cset c0 dk (.ns (put fs nm (.d d)))) A B Z st br⟩ K) :
  wpB P pr (n+3) (.asgA (.v 0) nm e::r) ⟨l,Cs c0 A B Z st br⟩ K:=by
 refine cQ (n:=n+1) (.d d) (c':=Cs c0 A B Z st br) (k:=k) (dk:=dk) (fs:=fs) he (bD h0) (by rw[nJ C C.k_];exact hk) (by rw[nJ C (ah hdk)];exact hdk) hat hsz ?_
 rw[qC (ah hdk)]
 exact h (C.cset hdk (vw C.w hdk nm d))
theorem cY (fs:List (Str×V))(nm:Str)(v:V){m:Nat}(h:fs.length≤m):(put fs nm v).length≤m+1:=by have:=dw fs nm v;exact R329 h this
theorem ug (C:Cel2 c0 A B Z k pr)(At:Attr2 P)(hk:ae c0 k=some (.inst P.C dk))(hdk:ae c0 dk=some (.ns fs))(hsz:fs.length≤950)(hkd:k≠dk){s:L2}(hs:s.st.length≤big)(hb:s.br.length≤big){l:Sl}(h0:aF l 0=some (.obj k))(h7:aF l 7=some (.d (.str s.last)))(h8:aF l 8=some (.obj A))(h10:aF l 10=some (.obj Z))
  (h:Cel2 (cset c0 dk (.ns (gD fs s))) A B Z k pr→K .next ⟨l,Cs (cset c0 dk (.ns (gD fs s))) A B Z s.st s.br⟩):wpB P pr (n+20) nD ⟨l,Cs c0 A B Z s.st s.br⟩ K:=by
 have dkd:=ah hdk
 have hk':∀f,ae (cset c0 dk (.ns f)) k=some (.inst P.C dk):=fun f=>by rw[av dkd,if_neg hkd];exact hk
 have hd':∀f,ae (cset c0 dk (.ns f)) dk=some (.ns f):=fun f=>by rw[av dkd,if_pos rfl]
 unfold nD
 refine qR (n:=n+17) C hk hdk At.la (R328 hsz) h0 (bD h7) fun C1=>?_
 refine qR (n:=n+16) (d:=hF s.st) C1 (hk' _) (hd' _) At.op (Zk (cY fs _ _ hsz) (R327)) h0 (fun K' hK=>?_) fun C2=>?_
 ·show aw (aF l 8) fun v=>bR (Cs (cset c0 dk (.ns (put fs fO (.d (.str s.last))))) A B Z s.st s.br) v _
  rw[h8]
  show aw (b8 (Cs (cset c0 dk (.ns (put fs fO (.d (.str s.last))))) A B Z s.st s.br) (.obj A)) _
  rw[uz C1]
  refine⟨by rw[bN];exact hs,fun e=>?_,fun e=>?_⟩
  ·cases hst:s.st.getLast? with
   |none=>
    have:s.st=[]:=List.getLast?_eq_none_iff.mp hst
    rw[this] at e;contradiction
   |some a=>
    have hop:hF s.st=.int (a:Nat):=by unfold hF;rw[hst]
    rw[hop] at hK
    refine bd (n:=n+15) (.obj A) (.d (.int (-1))) (bD h8) (fun K' h=>h) ?_
    show aw (b8 (Cs (cset c0 dk (.ns (put fs fO (.d (.str s.last))))) A B Z s.st s.br) (.obj A)) _
    rw[uz C1]
    have hne:0<s.st.length:=by cases hq:s.st with|nil=>rw[hq] at hst;contradiction|cons _ _=>simp
    refine⟨by rw[bN];exact hs,s.st.length-1,.int (a:Nat),?_,?_,hK⟩
    ·rw[bN]
     show (if (decide (0≤(if (-1:Int)<0 then -1+(s.st.length:Int) else -1))&&decide ((if (-1:Int)<0 then -1+(s.st.length:Int) else -1)<(s.st.length:Int)))=true then some (if (-1:Int)<0 then -1+(s.st.length:Int) else -1).toNat else none)=_
     rw[if_pos (show (-1:Int)<0 by decide),decide_eq_true (R28 hne),decide_eq_true (R27),Bool.and_self,if_pos rfl]
     congr 1;exact R26
    ·rw[Qp] at hst;exact kA hst
  ·have hst:s.st=[]:=by
    cases hq:s.st with
    |nil=>rfl
    |cons a r=>rw[hq] at e;contradiction
   have hop:hF s.st=.none:=by unfold hF;rw[hst];rfl
   rw[hop] at hK
   exact hK
 rw[a8] at C2 ⊢
 refine qR (n:=n+15) (d:=.tup (brD s.br)) C2 (hk' _) (hd' _) At.br (Zk (cY _ _ _ (cY fs _ _ hsz)) (R326)) h0 (fun K' hK=>?_) fun C3=>?_
 ·refine e9 (n:=n+13) (u:=.bi .tuple) (v1:=.obj Z) (fun K' h=>h) (bD h10) ?_
  show aw (b8 (Cs (cset c0 dk (.ns (put (put fs fO (.d (.str s.last))) j8 (.d (hF s.st))))) A B Z s.st s.br) (.obj Z)) _
  rw[zU C2]
  exact⟨rfl,by rw[fZ];exact hb,hK⟩
 rw[a8] at C3 ⊢
 exact al (h C3)
end
section
variable {P:Pm}{c0 c:aa}{A B Z k dk:Nat}{pr:List Nat}{x:Str}{gl:List Nat}{n p q:Nat}{i nn m np ch:Option V}{K:F→Sg'→Prop}{fs:List (Str×V)}
theorem vj {n:Nat}{o1 o2 a b:IE}{n1 n2:Str}{r:List IS}{l:Sl}{u v:D}(hk:ae c k=some (.inst P.C dk))(hdk:ae c dk=some (.ns fs))(hkd:k≠dk)(h1:P.attr n1=true)(h2:P.attr n2=true)(hsz:fs.length≤990)
  (ha:∀K':V→aa→Prop,K' (.d u) c→wpE P n a l c K') (hb:∀K':V→aa→Prop,K' (.d v) c→wpE P n b l c K') (ho1:∀(c':aa) (K':V→aa→Prop),K' (.obj k) c'→wpE P n o1 l c' K') (ho2:∀(c':aa) (K':V→aa→Prop),K' (.obj k) c'→wpE P n o2 l c' K')
  (h:wpB P pr (n+1) r ⟨l,cset c dk (.ns (put (put fs n1 (.d u)) n2 (.d v)))⟩ K):wpB P pr (n+2) (.unpA o1 n1 o2 n2 a b::r) ⟨l,c⟩ K:=by
 have dkd:=ah hdk
 refine ha _ (hb _ ?_)
 refine ho1 _ _ (cM hk hdk h1 (R336 hsz) ?_)
 refine ho2 _ _ (cM (k:=k) (dk:=dk) (fs:=put fs n1 (.d u)) (by rw[av dkd,if_neg hkd];exact hk) (by rw[av dkd,if_pos rfl]) h2 (Zk (cY fs _ _ hsz) (R335)) ?_)
 rw[a8];exact h
theorem xS {x:Str}{q:Nat}{s0:L2}:∀s,Rch x q s0 s→s.p<q→Rch x q s0 (dl x q s):=fun s h hp=>.step h hp
theorem wm (At:Attr2 P)(W:Wf c)(hk:ae c k=some (.inst P.C dk))(hdk:ae c dk=some (.ns fs))(hsz:fs.length≤940)(T:TextOk x)(hbig:2*x.length+10≤big){cr sr:Addr}(hc1:P.isFn cr=true)(hc2:P.fn cr=aW Re.chewC)(hj:P.isFn sr=true)(hjf:P.fn sr=aW Re.strC)
  (hA:A∉dom c) (hB:B∉dom c) (hZ:Z∉dom c) (ab:A≠B) (az:A≠Z) (bz:B≠Z) (hpr:∀j∈pr,j∈dom c) (hpq:p≤q) (hq:q≤x.length) (hend:0<q→(sg x)[q-1]?=some 10) (hnn:nn=none∨∃d,nn=some (.d d))
  (h:∀s l,Rch x q (L0 p) s→s.p=q→Cel2 (cset c dk (.ns (gD (put (put fs dI (.d (.int (p:Nat)))) lA (.d (.int (q:Nat)))) s))) A B Z k pr→
   K .next ⟨l,Cs (cset c dk (.ns (gD (put (put fs dI (.d (.int (p:Nat)))) lA (.d (.int (q:Nat)))) s))) A B Z s.st s.br⟩) :
  wpB P pr (n+80) (t8 cr sr A B Z) ⟨S1 k x gl i (I_ p) (I_ q) nn,c⟩ K:=by
 have hkd:k≠dk:=fun e=>by rw[e,hdk] at hk;simp at hk
 have dkd:=ah hdk
 have kd:=ah hk
 unfold t8
 refine vj (n:=n+78) (u:=.int (p:Nat)) (v:=.int (q:Nat)) hk hdk hkd At.st At.en (R334 hsz) (fun K' h=>h) (fun K' h=>h) (fun c' K' h=>h) (fun c' K' h=>h) ?_
 generalize hf:put (put fs dI (.d (.int (p:Nat)))) lA (.d (.int (q:Nat)))=f at *
 have W1:Wf (cset c dk (.ns f)):=by
  rw[←hf]
  refine W.set hdk (aB (vD _ _ _) (aB (vD _ _ _) (bP (fun j hj=>by rw[ai];exact hj) (W.fs hdk))))
 have hfl:f.length≤950:=by rw[←hf];exact Zk (cY _ _ _ (cY fs _ _ hsz)) (R333)
 have hk1:ae (cset c dk (.ns f)) k=some (.inst P.C dk):=by rw[av dkd,if_neg hkd];exact hk
 have hd1:ae (cset c dk (.ns f)) dk=some (.ns f):=by rw[av dkd,if_pos rfl]
 have d1:dom (cset c dk (.ns f))=dom c:=ai ..
 have CC:Cel2 (cset c dk (.ns f)) A B Z k pr:=⟨by rw[d1];exact hA,by rw[d1];exact hB,by rw[d1];exact hZ,ab,az,bz,W1,by rw[d1];exact kd,fun j hj=>by rw[d1];exact hpr j hj⟩
 have ecc:∀s,cset (cset c dk (.ns f)) dk (.ns (gD f s))=cset c dk (.ns (gD f s)):=fun s=>a8 ..
 generalize cset c dk (.ns f)=c1 at *
 refine ao (n:=n+77) (.d (.str ⟨#[]⟩)) (fun K' h=>h) ?_
 refine bQ (n:=n+76) (.obj A) (c':=c1++[(A,.list [])]) (fun K' h=>⟨(by decide),CC.a,h⟩) ?_
 refine bQ (n:=n+75) (.obj B) (c':=c1++[(A,.list [])]++[(B,.bound "list.append" A)]) (fun K' h=>vH (n:=n+73) (xs:=[]) rfl (by rw[show ([]:List D)=aR [] from rfl,ap CC.a,if_pos rfl]) (nb (st:=[]) CC) _ h) ?_
 refine bQ (n:=n+74) (.obj Z) (c':=Cs c1 A B Z [] [(p,0)]) (fun K' h=>?_) ?_
 ·rw[jF,aQ]
  refine fY (n:=n+68) (d1:=.int (p:Nat)) (d2:=.int 0) (fun K' h=>h) (fun K' h=>h) ?_
  exact⟨(by show 1≤big;decide),nz (st:=[]) CC,h⟩
 refine dn (n:=n+74) (qo (n:=n+14) CC T hbig hc1 hc2 hj hjf hq hend hnn (J:=Rch x q (L0 p)) xS (s0:=L0 p) .refl ⟨hpq,Zj _,by show 1≤2*p+1;exact R332⟩ fun s i m np ch hr hp hl=>?_)
 show wpB P pr (n+74) nD ⟨S2 k x gl A B Z i (I_ s.p) (I_ q) nn (some (.d (.str s.last))) m np ch,Cs c1 A B Z s.st s.br⟩ K
 refine ug (n:=n+54) CC At hk1 hd1 hfl hkd (by have:=hl.st;exact R331 hbig hq hp this) (by have:=hl.br;exact R330 hbig hq hp this) rfl rfl rfl rfl fun C3=>?_
 rw[ecc] at C3 ⊢
 exact h s _ hr hp C3
end
theorem vE {l:List Nat}(h:l.Pairwise (·<·)):∀(i a:Nat),l[i]?=some a→i≤a
 |0,a,_=>Zj _
 |i+1,a,e=>by
  obtain⟨h1,e1⟩:=Qw.mp e
  have h2:=vE h i (l[i]'(R120 h1)) (Qk _)
  have h3:=List.pairwise_iff_getElem.mp h i (i+1) (R120 h1) h1 (R43)
  exact R350 e1 h2 h3
theorem qp:∀l:List Nat,nls l≤l.length
 | []=>Zv _
 |c::l=>by unfold nls;have:=qp l;dsimp only[Qz];split<;>omega
theorem rN {x:Str}{gl:List Nat}(G:GoodOk x gl):1≤gl.length∧gl.length≤(sg x).length+1:=by
 have hl:=G.last
 rw[Qp] at hl
 have h1:=(Qw.mp hl).1
 have h2:=vE G.up _ _ hl
 have h3:=qp (sg x)
 exact R349 h1 h2 h3
theorem m3 {x:Str}{gl:List Nat}(G:GoodOk x gl):∀i,i+1≤gl.length→(bo x gl i).1≤(bo x gl i).2∧(bo x gl i).2≤x.length∧(0<(bo x gl i).2→(sg x)[(bo x gl i).2-1]?=some 10)
 |0,_=>⟨Zv _,Zj _,fun h=>absurd h (Nat.lt_irrefl _)⟩
 |i+1,hi=>by
  unfold bo
  split
  ·exact m3 G i (R348 hi)
  ·obtain⟨a,ha⟩:∃a,gl[i]?=some a:=⟨_,Qk (R347 hi)⟩
   obtain⟨b,hb⟩:∃b,gl[i+1]?=some b:=⟨_,Qk (R346 hi)⟩
   obtain⟨h1,h2⟩:=G.at_ ha hb
   rw[List.getD_eq_getElem?_getD,List.getD_eq_getElem?_getD,ha,hb]
   have h3:=eH (sg x) h1 h2
   have h4:=iN (sg x) b h2
   have h5:=aE x
   obtain⟨b',rfl⟩:∃b',b=b'+1:=⟨b-1,by exact R345 h1⟩
   have h6:=(fL (sg x) b' (R74 h2)).2.1
   refine⟨?_,?_,fun _=>h6⟩
   ·show au (sg x) a≤au (sg x) (b'+1);exact R58 h3
   ·show au (sg x) (b'+1)≤x.length;exact R344 h4
section
variable {P:Pm}{c0 c:aa}{A B Z k dk g b:Nat}{x:Str}{n:Nat}{fs:List (Str×V)}
theorem xE {pr:List Nat}(C:Cel2 c0 A B Z k pr){st:List Nat}{br:List (Nat×Nat)}:bX (Cs c0 A B Z st br) c0 c0:=by
 rw[celW_iff]
 intro p hp
 obtain⟨o,h1,h2⟩:=celW_iff.mp C.w.w p hp
 exact⟨o,by rw[nJ C (ah h1)];exact h1,eC (fun _ h=>h) h2⟩
noncomputable abbrev nS2:Str:=Qq "_study2"
theorem ne9:nGl≠nSl:=fun e=>ne1 e.symm
theorem oy {st jr cr sr:Addr}(At:Attr2 P)(pa:ParAt P.C c k dk fs)(F:Fresh fs x)(hbig:2*x.length+10≤big)(hg:g∉dom c)(hb:b∉dom c)(hA:A∉dom c)(hB:B∉dom c)(hZ:Z∉dom c)(ab:A≠B)(az:A≠Z)(bz:B≠Z)
  (hs:P.isFn st=true) (hsf:P.fn st=dU P.C g b) (hj:P.isFn jr=true) (hjf:P.fn jr=aW Re.junkC) (hc1:P.isFn cr=true) (hc2:P.fn cr=aW Re.chewC) (hs1:P.isFn sr=true) (hs2:P.fn sr=aW Re.strC) {K:V→aa→Prop}
  (h:∀s,Rch x (stm x).2 (L0 (stm x).1) s→s.p=(stm x).2→K (.d .none) (cset c dk (.ns (studied2 fs x s)))) :
  wpB P (dom c) (n+130) (dc st jr cr sr A B Z) ⟨start [.obj k] 13,c⟩ (EndP c K):=by
 have hkd:k≠dk:=fun e=>by have:=pa.k_;rw[e,pa.d_] at this;simp at this
 have dkd:=ah pa.d_
 have kd:=ah pa.k_
 have T:=F.t
 have G:=ti x
 obtain⟨gl1,gl2⟩:=rN G
 have hT:=T.len
 have hlx:=aE x
 have hxb:x.length≤big:=R63 hT
 have hgb:(aU (fin x)).length≤big:=R343 gl2 hT
 obtain⟨q1,q2,q3⟩:=m3 G ((aU (fin x)).length-1) (R342 gl1)
 have hstd:(studied fs x).length≤903:=by
  unfold studied
  exact Zk (cY _ _ _ (cY _ _ _ (cY _ _ _ F.len))) (R341)
 have rd:=jg fs x
 have hco:look (put (studied fs x) nSl (.d (.int 2))) cV=some (.d (.str x)):=by
  rw[am,if_neg eT]
  unfold studied
  rw[am,if_neg (by decide +kernel),am,if_neg (by decide +kernel),am,if_neg eT];exact F.co
 have hgl:look (put (studied fs x) nSl (.d (.int 2))) nGl=some (.d (.lst (aR (aU (fin x))))):=by rw[am,if_neg ne9];exact rd.gl
 unfold dc
 refine a9 (n:=n+128) false (c':=c) (fun K' h=>?_) (al ?_)
 ·rw[gf];exact du (n:=n+125) rfl pa.k_ pa.d_ At.sl F.sl rfl _ h
 refine d7 (n:=n+127) (.d .none) (c':=cset c dk (.ns (studied fs x))) (fun K' h=>lL (n:=n+124) rfl pa hs hsf K' (.inr ⟨x,F,hg,hb,h⟩)) ?_
 have p1:=pa.studied x
 refine cQ (n:=n+126) (.d (.int 2)) (c':=cset c dk (.ns (studied fs x))) (k:=k) (dk:=dk) (fs:=studied fs x) (fun K' h=>h) (fun K' h=>h) p1.k_ p1.d_ At.sl (R340 hstd) ?_
 rw[a8]
 have hk1:ae (cset c dk (.ns (put (studied fs x) nSl (.d (.int 2))))) k=some (.inst P.C dk):=by rw[av dkd,if_neg hkd];exact pa.k_
 have hd1:ae (cset c dk (.ns (put (studied fs x) nSl (.d (.int 2))))) dk=some (.ns (put (studied fs x) nSl (.d (.int 2)))):=by rw[av dkd,if_pos rfl]
 have d1:dom (cset c dk (.ns (put (studied fs x) nSl (.d (.int 2)))))=dom c:=ai ..
 have W1:Wf (cset c dk (.ns (put (studied fs x) nSl (.d (.int 2))))):=by
  have:=p1.w.set p1.d_ (vw p1.w p1.d_ nSl (.int 2))
  rw[a8] at this;exact this
 have fl:(put (studied fs x) nSl (.d (.int 2))).length≤940:=Zk (cY _ _ _ hstd) (R339)
 have ecc:∀f,cset (cset c dk (.ns (put (studied fs x) nSl (.d (.int 2))))) dk (.ns f)=cset c dk (.ns f):=fun f=>a8 ..
 have e2:∀s,studied2 fs x s=gD (put (put (put (studied fs x) nSl (.d (.int 2))) dI (.d (.int ((stm x).1:Nat)))) lA (.d (.int ((stm x).2:Nat)))) s:=fun s=>rfl
 generalize put (studied fs x) nSl (.d (.int 2))=f2 at *
 generalize cset c dk (.ns f2)=c1 at *
 refine nj (n:=n+125) (.str x) (.lst (aR (aU (fin x)))) (fun K' h=>du (n:=n+123) rfl hk1 hd1 At.co hco rfl _ h) (fun K' h=>du (n:=n+123) rfl hk1 hd1 At.gl hgl rfl _ h) ?_
 refine ao (n:=n+124) (.d (.int (((aU (fin x)).length-1:Nat)))) (fun K' h=>?_) ?_
 ·rw[dS]
  refine e9 (n:=n+120) (u:=.bi .len) (v1:=.d (.lst (aR (aU (fin x))))) (fun K' h=>h) (fun K' h=>h) ?_
  refine⟨by rw[bN];exact hgb,?_⟩
  have e:(((aU (fin x)).length-1:Nat):Int)=(((aR (aU (fin x))).length:Nat):Int)-1:=by rw[bN];exact R338 gl1
  rw[e] at h;exact h
 refine ao (n:=n+123) (.d (.int (x.length:Nat))) (fun K' h=>⟨hxb,h⟩) ?_
 have kd1:k∈dom c1:=by rw[d1];exact kd
 have pr1:∀j∈dom c,j∈dom c1:=fun j hj=>by rw[d1];exact hj
 have fin2:∀{i nn:Option V},(nn=none∨∃d,nn=some (.d d))→wpB P (dom c) (n+122) (t8 cr sr A B Z) ⟨S1 k x (aU (fin x)) i (I_ (stm x).1) (I_ (stm x).2) nn,c1⟩ (EndP c K):=by
  intro i nn hnn
  refine wm (n:=n+42) At W1 hk1 hd1 fl T hbig hc1 hc2 hs1 hs2 (by rw[d1];exact hA) (by rw[d1];exact hB) (by rw[d1];exact hZ) ab az bz pr1 q1 q2 q3 hnn fun s l hr hp CC=>?_
  rw[ecc] at CC ⊢
  exact⟨.d .none,_,vD _ _ _,xE CC,fun j hj=>by rw[ai];exact hj,by rw[←e2];exact h s hr hp⟩
 refine dn (n:=n+123) (sn (n:=n+93) T G hgb hj hjf kd1 W1.w pr1 (fun h0=>?_) fun i a b nn hnn ha hb h1=>?_)
 ·refine a9 (n:=n+121) true (c':=c1) (fun K' h=>h) ?_
  refine cg (n:=n+119) (c':=c1) (fun K' h=>h) ?_
  refine ao (n:=n+118) (.d (.int 0)) (fun K' h=>h) (al ?_)
  have:=fin2 (i:=I_ 0) (nn:=none) (.inl rfl)
  have e:stm x=(0,0):=h0
  rw[e] at this;exact this
 ·refine a9 (n:=n+121) false (c':=c1) (fun K' h=>?_) (al ?_)
  ·show K' ((((i+1:Nat):Int))==0) c1
   rw[show ((((i+1:Nat):Int))==0)=false from beq_eq_false_iff_ne.mpr (R337)];exact h
  ·have:=fin2 (i:=I_ (i+1)) hnn
   have e:stm x=(au (sg x) a,au (sg x) b):=h1
   rw[e] at this;exact this
theorem jl {st jr cr sr:Addr}(At:Attr2 P)(pa:ParAt P.C c k dk fs)(h1:look fs nSl=some (.d (.int 2))){K:V→aa→Prop}(h:K (.d .none) c):wpB P (dom c) (n+130) (dc st jr cr sr A B Z) ⟨start [.obj k] 13,c⟩ (EndP c K):=by
 unfold dc
 refine a9 (n:=n+128) true (c':=c) (fun K' h=>?_) ?_
 ·rw[gf];exact du (n:=n+125) rfl pa.k_ pa.d_ At.sl h1 rfl _ h
 ·exact EndP.same pa.w (fun _ h=>h) rfl h
end
noncomputable abbrev nIs:Str:=Qq "get_last_stmt_bracketing"
noncomputable abbrev x6:Str:=Qq "set_code"
noncomputable def yX:List Str:=[nS1,nS2,nIs,x6]
noncomputable def uu:List Str:=[Qq "indentwidth",Qq "tabwidth",cV,nSl,nGl,nCt,dI,lA,fO,j8,nBr]
def NoM (fs:List (Str×V)):Prop:=∀m∈yX,look fs m=none
theorem wD:∀m∈yX,∀a∈uu,m≠a:=by decide +kernel
theorem NoM.put {fs:List (Str×V)}(h:NoM fs){a:Str}(ha:a∈uu)(v:V):NoM (put fs a v):=fun m hm=>by
 rw[am,if_neg (wD m hm a ha)];exact h m hm
theorem NoM.studied2 {fs:List (Str×V)}(h:NoM fs)(x:Str)(s:L2):NoM (studied2 fs x s):=by
 unfold Mine.studied2 gD studied
 refine NoM.put (NoM.put (NoM.put (NoM.put (NoM.put (NoM.put (NoM.put (NoM.put (NoM.put h ?_ _) ?_ _) ?_ _) ?_ _) ?_ _) ?_ _) ?_ _) ?_ _) ?_ _<;>decide +kernel
theorem NoM.setd {fs:List (Str×V)}(h:NoM fs)(x:Str):NoM (setd fs x):=by
 unfold Mine.setd
 refine NoM.put (NoM.put h ?_ _) ?_ _<;>decide +kernel
def iW (x:Str)(rows:List (Nat×Nat)):Prop:=∀s,Rch x (stm x).2 (L0 (stm x).1) s→s.p=(stm x).2→s.br=rows
structure DoneR (fs:List (Str×V))(rows:List (Nat×Nat)):Prop where
 sl:look fs nSl=some (.d (.int 2))
 br:look fs nBr=some (.d (.tup (brD rows)))
theorem vJ (fs:List (Str×V))(x:Str)(s:L2):DoneR (studied2 fs x s) s.br:=by
 unfold studied2 gD
 refine⟨?_,by rw[am,if_pos rfl]⟩
 rw[am,if_neg (by decide +kernel),am,if_neg (by decide +kernel),am,if_neg (by decide +kernel),am,if_neg (by decide +kernel),am,if_neg (by decide +kernel),am,if_pos rfl]
noncomputable def eA (C:Addr)(g b A B Z:Nat):Spec:=fun vs c K=>∃k dk fs,vs=[.obj k]∧ParAt C c k dk fs∧
 ((look fs nSl=some (.d (.int 2))∧K (.d .none) c)∨∃x,Fresh fs x∧2*x.length+10≤big∧(g∉dom c∧b∉dom c∧A∉dom c∧B∉dom c∧Z∉dom c)∧
  ∀s,Rch x (stm x).2 (L0 (stm x).1) s→s.p=(stm x).2→K (.d .none) (cset c dk (.ns (studied2 fs x s))))
noncomputable def e8 (C:Addr)(g b A B Z:Nat):Spec:=fun vs c K=>∃k dk fs rows,vs=[.obj k]∧ParAt C c k dk fs∧NoM fs∧
 ((DoneR fs rows∧K (.d (.tup (brD rows))) c)∨∃x,Fresh fs x∧2*x.length+10≤big∧(g∉dom c∧b∉dom c∧A∉dom c∧B∉dom c∧Z∉dom c)∧iW x rows∧
  ∀s,s.br=rows→K (.d (.tup (brD rows))) (cset c dk (.ns (studied2 fs x s))))
noncomputable def ji (s2:Addr):List IS:=[.expr (.umeth (.v 0) s2 nS2 []),.ret (some (.attr (.v 0) nBr))]
theorem gO {c:aa}{dk:Nat}{fs:List (Str×V)}(W:Wf c)(hdk:ae c dk=some (.ns fs))(x:Str)(s:L2):Wf (cset c dk (.ns (studied2 fs x s))):=by
 refine W.set hdk ?_
 unfold studied2 gD studied
 exact aB (vD _ _ _) (aB (vD _ _ _) (aB (vD _ _ _) (aB (vD _ _ _) (aB (vD _ _ _) (aB (vD _ _ _) (aB (vD _ _ _) (aB (vD _ _ _) (aB (vD _ _ _) (bP (fun j hj=>by rw[ai];exact hj) (W.fs hdk))))))))))
section
variable {P:Pm}{c:aa}{A B Z k dk g b n:Nat}{fs:List (Str×V)}
theorem ux {s2:Addr}(At:Attr2 P)(pa:ParAt P.C c k dk fs)(hm:NoM fs)(hs:P.isFn s2=true)(hsf:P.fn s2=eA P.C g b A B Z){rows:List (Nat×Nat)}{K:V→aa→Prop}
  (h:(DoneR fs rows∧K (.d (.tup (brD rows))) c)∨∃x,Fresh fs x∧2*x.length+10≤big∧(g∉dom c∧b∉dom c∧A∉dom c∧B∉dom c∧Z∉dom c)∧iW x rows∧∀s,s.br=rows→K (.d (.tup (brD rows))) (cset c dk (.ns (studied2 fs x s)))) :
  wpB P (dom c) (n+20) (ji s2) ⟨start [.obj k] 0,c⟩ (EndP c K):=by
 have hkd:k≠dk:=fun e=>by have:=pa.k_;rw[e,pa.d_] at this;simp at this
 have dkd:=ah pa.d_
 unfold ji
 rcases h with ⟨D,hK⟩|⟨x,F,hb,hdom,ho,hK⟩
 ·refine d7 (n:=n+18) (.d .none) (c':=c) (fun K' h=>gp (n:=n+15) rfl pa.k_ pa.d_ (hm _ (by decide +kernel)) hs K' ?_) ?_
  ·rw[hsf];exact⟨k,dk,fs,rfl,pa,.inl ⟨D.sl,fun _ q=>q,h⟩⟩
  refine gV (n:=n+17) (.d (.tup (brD rows))) (c':=c) (fun K' h=>du (n:=n+15) rfl pa.k_ pa.d_ At.br D.br rfl K' h) ?_
  exact EndP.same pa.w (fun _ h=>h) rfl hK
 ·rw[show n+20=(n+18)+2 by exact R367]
  rw[qA]
  refine gp (n:=n+15) rfl pa.k_ pa.d_ (hm _ (by decide +kernel)) hs _ ?_
  rw[hsf]
  refine⟨k,dk,fs,rfl,pa,.inr ⟨x,F,hb,hdom,fun s hr hp=>⟨fun _ q=>by rw[ai];exact q,?_⟩⟩⟩
  have e:=ho s hr hp
  have D:=vJ fs x s
  rw[e] at D
  have hk1:ae (cset c dk (.ns (studied2 fs x s))) k=some (.inst P.C dk):=by rw[av dkd,if_neg hkd];exact pa.k_
  have hd1:ae (cset c dk (.ns (studied2 fs x s))) dk=some (.ns (studied2 fs x s)):=by rw[av dkd,if_pos rfl]
  have W1:=gO pa.w pa.d_ x s
  refine gV (n:=n+17) (.d (.tup (brD rows))) (c':=cset c dk (.ns (studied2 fs x s))) (fun K' h=>du (n:=n+15) rfl hk1 hd1 At.br D.br rfl K' h) ?_
  exact EndP.same W1 (fun j h=>by rw[ai];exact h) rfl (hK s e)
end
noncomputable abbrev K1 (p:Params):Frag:=H2.K p
noncomputable def G1:List (Str×V):=[(Qq "C_NONE",.d (.int 0)),(Qq "C_BACKSLASH",.d (.int 1)),(Qq "C_STRING_FIRST_LINE",.d (.int 2)),(Qq "C_STRING_NEXT_LINES",.d (.int 3)),(Qq "C_BRACKET",.d (.int 4)),
 (Qq "_junkre",.val (.ref 58)),(Qq "_match_stringre",.val (.ref 59)),(Qq "_chew_ordinaryre",.val (.ref 60)),
 (Qq "trans",.val (.ref 85)),(Qq "Parser",.val (.ref 243)),(Qq "_law_draw",.val (.ref 254)),(Qq "len",.bi .len),(Qq "isinstance",.bi .isinstance),(Qq "bool",.bi .bool),(Qq "int",.bi .int),(Qq "range",.bi .range),(Qq "max",.bi .max),(Qq "min",.bi .min),(Qq "list",.bi .list),(Qq "tuple",.bi .tuple)]
noncomputable def vX:List Pos:=[⟨51,37,0,40⟩,⟨52,20,0,36⟩,⟨148,16,0,18⟩,⟨149,21,0,33⟩,⟨150,21,0,29⟩,⟨233,11,0,23⟩,⟨235,11,0,27⟩,⟨270,11,0,67⟩,⟨273,11,0,95⟩]
noncomputable def z1:Str→Pos→Option (Addr×Nat×Nat):=fun f _=>if f=Qq "Parser" then some (243,0,0) else none
noncomputable def meth1:List (Str×Addr):=[(Qq "set_code",156),(Qq "_study1",177),(Qq "_study2",191),(Qq "get_last_stmt_bracketing",240)]
noncomputable def T1 (p:Params)(a:Addr):Tb:=zV (K1 p) a G1 vX z1 meth1
theorem oe (p:Params):bL 60 (T1 p 149) (bA (K1 p) 149)=some jA:=by kernel_rfl
theorem rz (p:Params):bL 60 (T1 p 156) (bA (K1 p) 156)=some nZ:=by kernel_rfl
theorem my (p:Params):bL 60 (T1 p 177) (bA (K1 p) 177)=some (dX 85 51037 52020):=by kernel_rfl
theorem kC (p:Params):bL 60 (T1 p 191) (bA (K1 p) 191)=some (dc 177 58 60 59 148016 149021 150021):=by kernel_rfl
theorem oN (p:Params):bL 60 (T1 p 240) (bA (K1 p) 240)=some (ji 191):=by kernel_rfl
section
variable {p:Params}{hb:Heap}(X:(K1 p).In hb)(lim:hb.NoLimit)
include X lim
theorem tP:FnT hb 149 (T1 p 149) jA [Qq "self",Qq "indentwidth",Qq "tabwidth"] [] (fW (K1 p) 149) (bA (K1 p) 149) 60:=
 eG X lim (by kernel_rfl) (lsS fun _=>lsS fun _=>lsS fun _=>ls0 (by kernel_rfl)) rfl (by kernel_rfl) (by kernel_rfl) (oe p)
theorem qw:FnT hb 156 (T1 p 156) nZ [Qq "self",Qq "s"] [] (fW (K1 p) 156) (bA (K1 p) 156) 60:=
 eG X lim (by kernel_rfl) (lsS fun _=>lsS fun _=>ls0 (by kernel_rfl)) rfl (by kernel_rfl) (by kernel_rfl) (rz p)
theorem kh:FnT hb 177 (T1 p 177) (dX 85 51037 52020) [Qq "self"] (ew (K1 p) 177) (fW (K1 p) 177) (bA (K1 p) 177) 60:=
 eG X lim (by kernel_rfl) (lsS fun _=>ls0 (by kernel_rfl)) rfl (by kernel_rfl) (by kernel_rfl) (my p)
theorem iO:FnT hb 191 (T1 p 191) (dc 177 58 60 59 148016 149021 150021) [Qq "self"] (ew (K1 p) 191) (fW (K1 p) 191) (bA (K1 p) 191) 60:=
 eG X lim (by kernel_rfl) (lsS fun _=>ls0 (by kernel_rfl)) rfl (by kernel_rfl) (by kernel_rfl) (kC p)
theorem nr:FnT hb 240 (T1 p 240) (ji 191) [Qq "self"] [] (fW (K1 p) 240) (bA (K1 p) 240) 60:=
 eG X lim (by kernel_rfl) (lsS fun _=>ls0 (by kernel_rfl)) rfl (by kernel_rfl) (by kernel_rfl) (oN p)
end
end Mine
namespace Mine
open PySem PyProof.Rows PySem.W
noncomputable def attrs:List Str:=uu
noncomputable def Pm1 (w:World)(fn:Addr→Spec)(isFn:Addr→Bool):Pm where
 C:=243
 attr:=fun x=>attrs.contains x
 fn:=fn
 isFn:=isFn
 init:=149
 td:=85
 tr:=tr
theorem zT (p:Params):ClsOk (K1 p) 243:=⟨by kernel_rfl,by kernel_rfl,by kernel_rfl,by kernel_rfl,by kernel_rfl⟩
theorem yW (p:Params)(x:Str)(h:attrs.contains x=true):findIn (K1 p) (.ref 243) x=some none:=by
 have:=List.contains_iff_mem.mp h
 simp only[attrs,uu,Qy,List.not_mem_nil,or_false] at this
 rcases this with rfl|rfl|rfl|rfl|rfl|rfl|rfl|rfl|rfl|rfl|rfl<;>kernel_rfl
theorem gP {β:Type}{l:List (Str×β)}{x:Str}{v:β}(h:l.lookup x=some v):(x,v)∈l:=by
 induction l with
 |nil=>contradiction
 |cons p r ih=>
  obtain⟨y,u⟩:=p
  rw[Zq] at h
  split at h
  ·rename_i e;(injection h with h;subst h);rw[beq_iff_eq.mp e];exact .head _
  ·exact .tail _ (ih h)
theorem rU (p:Params)(x:Str)(f:Addr)(h:meth1.lookup x=some f):findIn (K1 p) (.ref 243) x=some (some (.ref f))∧typeIn (K1 p) (.ref f)=some (.type "function"):=by
 have:=gP h
 simp only[meth1,Qy,List.not_mem_nil,or_false,Prod.mk.injEq] at this
 rcases this with ⟨rfl,rfl⟩|⟨rfl,rfl⟩|⟨rfl,rfl⟩|⟨rfl,rfl⟩<;>exact⟨by kernel_rfl,by kernel_rfl⟩
theorem yR (p:Params):makesIn (K1 p) 243=true:=by kernel_rfl
theorem zn (p:Params):findIn (K1 p) (.ref 243) "__init__"=some (some (.ref 149))∧typeIn (K1 p) (.ref 149)=some (.type "function"):=⟨by kernel_rfl,by kernel_rfl⟩
theorem xU (p:Params):keepIn (K1 p) (.ref 243)=true:=by kernel_rfl
end Mine
namespace Mine
open PySem PyProof.Rows PySem.W
noncomputable def qi (es:Array DictEntry):Bool:=es.toList.all fun e=>match e.key with | .int k _=>e.hash==hashInt k|_=>false
theorem lF {es:Array DictEntry}(h:qi es=true):PySem.IntKeys es:=by
 intro e he
 have:=Xu.mp h e (Array.mem_toList_iff.mpr he)
 obtain⟨hs,key,val⟩:=e
 cases key with
 |int k t=>exact⟨k,t,rfl,beq_iff_eq.mp this⟩
 |_=>exact Bool.noConfusion this
noncomputable def zQ (es:Array DictEntry)(f:Nat→Nat):Bool:=(List.range 128).all fun c=>match findBy Value.isInt es (c:Int) with|some (.int v _)=>v==(f c:Nat)&&decide (f c<128)|_=>false
theorem xb {es:Array DictEntry}{f:Nat→Nat}(h:zQ es f=true)(c:Nat)(hc:c<128):∃t,findBy Value.isInt es (c:Int)=some (.int (f c:Nat) t)∧f c<128:=by
 have:=Xu.mp h c (List.mem_range.mpr hc)
 cases q:findBy Value.isInt es (c:Int) with
 |none=>rw[q] at this;exact Bool.noConfusion this
 |some u=>
  rw[q] at this
  cases u with
  |int v t=>
   obtain⟨h1,h2⟩:=Bool.and_eq_true_iff.mp this
   exact⟨t,by rw[beq_iff_eq.mp h1],of_decide_eq_true h2⟩
  |_=>exact Bool.noConfusion this
noncomputable def e7 (K:Frag)(a:Addr):Obj:=(K.lookup a).getD default
noncomputable def zY (K:Frag)(a:Addr):Nat:=match (e7 K a).data with | .dict _ n=>n|_=>0
theorem zC (p:Params):∃C',TabOk (K1 p) 85 C' tr:=by
 refine⟨77,⟨(e7 (K1 p) 85).dict,nsOf (K1 p) 85,zY (K1 p) 85,(e7 (K1 p) 85).slots,by kernel_rfl,lF (by kernel_rfl),xb (by kernel_rfl)⟩,by kernel_rfl,by kernel_rfl,by kernel_rfl⟩
noncomputable def yz:Option Value→Tok
 |some (.int _ t)=>t
 |_=>0
theorem yb {prog:Program}{w:World}{p:Params}{hb:Heap}(X:(K1 p).In hb){mg mb:Str→Option Value}(hg:hb.Ns mainGlobals mg)(hb':hb.Ns builtinsNs mb)(hmb:∀x:Str,x≠"__name__"→mb x=bootBuiltins x) (x:Str) (v:V) (h:G1.lookup x=some v):dO prog w hb x v:=by
 have mge:=mg_of X hg (by kernel_rfl)
 have gi:∀(x:Str) (i:Int),nsFind (nsOf (K1 p) mainGlobals) x=some (.int i (yz (nsFind (nsOf (K1 p) mainGlobals) x)))→dO prog w hb x (.d (.int i)):=fun x i e=>nP hg ((mge x).trans e) (fun c α h=>.int _ _)
 have gr:∀(x:Str) (a:Addr),nsFind (nsOf (K1 p) mainGlobals) x=some (.ref a)→dO prog w hb x (.val (.ref a)):=fun x a e=>nP hg ((mge x).trans e) (fun c α h=>rfl)
 have gb:∀(x:Str) (b:Bi),nsFind (nsOf (K1 p) mainGlobals) x=none→x≠"__name__"→bootBuiltins x=some b.val→dO prog w hb x (.bi b):=fun x b e e2 e3=>uQ hg hb' ((mge x).trans e) ((hmb x e2).trans e3) (fun c α h=>rfl)
 have all:∀q∈G1,dO prog w hb q.1 q.2:=
  Qx.mpr ⟨gi _ _ (by kernel_rfl),Qx.mpr ⟨gi _ _ (by kernel_rfl),Qx.mpr ⟨gi _ _ (by kernel_rfl),Qx.mpr ⟨gi _ _ (by kernel_rfl),Qx.mpr ⟨gi _ _ (by kernel_rfl),Qx.mpr ⟨gr _ _ (by kernel_rfl),Qx.mpr ⟨gr _ _ (by kernel_rfl),Qx.mpr ⟨gr _ _ (by kernel_rfl),Qx.mpr ⟨gr _ _ (by kernel_rfl),Qx.mpr ⟨gr _ _ (by kernel_rfl),Qx.mpr ⟨gr _ _ (by kernel_rfl),Qx.mpr ⟨gb _ _ (by kernel_rfl) (by decide +kernel) (by kernel_rfl),Qx.mpr ⟨gb _ _ (by kernel_rfl) (by decide +kernel) (by kernel_rfl),Qx.mpr ⟨gb _ _ (by kernel_rfl) (by decide +kernel) (by kernel_rfl),Qx.mpr ⟨gb _ _ (by kernel_rfl) (by decide +kernel) (by kernel_rfl),Qx.mpr ⟨gb _ _ (by kernel_rfl) (by decide +kernel) (by kernel_rfl),Qx.mpr ⟨gb _ _ (by kernel_rfl) (by decide +kernel) (by kernel_rfl),Qx.mpr ⟨gb _ _ (by kernel_rfl) (by decide +kernel) (by kernel_rfl),Qx.mpr ⟨gb _ _ (by kernel_rfl) (by decide +kernel) (by kernel_rfl),Qx.mpr ⟨gb _ _ (by kernel_rfl) (by decide +kernel) (by kernel_rfl),Zz _⟩⟩⟩⟩⟩⟩⟩⟩⟩⟩⟩⟩⟩⟩⟩⟩⟩⟩⟩⟩
 exact all (x,v) (gP h)
structure Base1 (w:World)(p:Params)(hb:Heap)(mg mb:Str→Option Value):Prop where
 x:(K1 p).In hb
 lim:hb.NoLimit
 g:hb.Ns mainGlobals mg
 b:hb.Ns builtinsNs mb
 mb:∀x:Str,x≠"__name__"→mb x=bootBuiltins x
theorem cx1 {prog:Program}{w:World}{p:Params}{hb:Heap}{mg mb:Str→Option Value}(B:Base1 w p hb mg mb){fn:Addr→Spec}{isFn:Addr→Bool}{dep:Nat}(a:Addr)
  (hfn:∀a,isFn a=true→(∃k,Looks (model prog w) hb (keeperOf (.ref a)) k)∧FnOk prog w hb dep a (fn a)) (hin:FnOk prog w hb dep 149 (fn 149)):Cx0 prog w hb (K1 p) (T1 p a) (Pm1 w fn isFn) dep:=
 ⟨B.x,fun x v h=>yb B.x B.g B.b B.mb x v h,zT p,fun x h=>yW p x h,fun x f h=>rU p x f h,hfn,yR p,zn p,hin,xU p,zC p⟩
theorem dP (w:World)(fn:Addr→Spec)(isFn:Addr→Bool):Attr2 (Pm1 w fn isFn):=⟨⟨by kernel_rfl,by kernel_rfl,by kernel_rfl,by kernel_rfl⟩,by kernel_rfl,by kernel_rfl,by kernel_rfl,by kernel_rfl,by kernel_rfl⟩
section
variable {prog:Program}{w:World}{p:Params}{hb:Heap}{mg mb:Str→Option Value}(B:Base1 w p hb mg mb)
include B
noncomputable def jL:Addr→Spec:=fun _ _ _ _=>False
theorem uH (a:Addr):Cx0 prog w hb (K1 p) (T1 p a) (Pm1 w jL fun _=>false) 0:=cx1 B a (fun a h=>by contradiction) (fun A r vs ws c α s K R h1 h2 h3 h4=>h4.elim)
theorem xY:FnOk prog w hb 2 149 (gU 243):=by
 refine iU (tP B.x B.lim) (uH B 149) fun vs c K h=>?_
 obtain⟨k,dk,rfl,W,hk,hdk,hK⟩:=h
 exact⟨rfl,_,uO (P:=Pm1 w jL fun _=>false) (n:=0) (by kernel_rfl) (by kernel_rfl) W hk hdk hK⟩
theorem zz:FnOk prog w hb 2 156 (jN 243):=by
 refine iU (qw B.x B.lim) (uH B 156) fun vs c K h=>?_
 obtain⟨k,dk,fs,x,rfl,pa,hl,T,hK⟩:=h
 exact⟨rfl,_,xz (P:=Pm1 w jL fun _=>false) (n:=0) (dP _ _ _).toAttrOk pa.w pa.k_ pa.d_ hl T hK⟩
theorem wT:FnOk prog w hb 2 177 (dU 243 51037 52020):=by
 refine iU (kh B.x B.lim) (uH B 177) fun vs c K h=>?_
 obtain⟨k,dk,fs,rfl,pa,h⟩:=h
 refine⟨rfl,130,?_⟩
 have hr:(ew (K1 p) 177).length=12:=by kernel_rfl
 rw[hr]
 rcases h with ⟨h1,h2⟩|⟨x,h1,h2,h3,h4⟩
 ·exact kN (P:=Pm1 w jL fun _=>false) (n:=0) (dP _ _ _).toAttrOk pa.w pa.k_ pa.d_ h1 h2
 ·exact rx (P:=Pm1 w jL fun _=>false) (n:=0) (dP _ _ _).toAttrOk rfl rfl pa.w pa.k_ pa.d_ h1.len h1.sl h1.co h1.t h2 h3 (by decide) h4
theorem df {a:Addr}{o:Obj}{fd:FuncData}(ho:hb.get? a=some o)(hd:o.data=.func fd):∃k,Looks (model prog w) hb (keeperOf (.ref a)) k:=by
 refine⟨.frame,fun A Q E s k q=>?_⟩
 unfold keeperOf
 refine Zb (wpAny_load (k _ _ ho) ?_)
 rw[hd];exact Zp q
noncomputable def fld (o:Obj)(i:Nat):Value:=match o.data with | .fields vs=>vs.getD i .none|_=>.none
theorem pJ:PatAt hb 58 43 Re.junkC:=⟨B.x _ _ (by kernel_rfl),fld (e7 (K1 p) 43) 0,fld (e7 (K1 p) 43) 1,42,0,B.x _ _ (by kernel_rfl),B.x _ _ (by kernel_rfl)⟩
theorem pS:PatAt hb 59 48 Re.strC:=⟨B.x _ _ (by kernel_rfl),fld (e7 (K1 p) 48) 0,fld (e7 (K1 p) 48) 1,47,0,B.x _ _ (by kernel_rfl),B.x _ _ (by kernel_rfl)⟩
theorem pO:PatAt hb 60 53 Re.chewC:=⟨B.x _ _ (by kernel_rfl),fld (e7 (K1 p) 53) 0,fld (e7 (K1 p) 53) 1,52,0,B.x _ _ (by kernel_rfl),B.x _ _ (by kernel_rfl)⟩
end
theorem Wf.drop {c:aa}(W:Wf c){kk:Nat}{o:O}(hk:kk∉dom c):bX (c++[(kk,o)]) c c:=by
 rw[celW_iff]
 intro p hp
 obtain⟨o',h3,h4⟩:=celW_iff.mp W.w p hp
 have hm:=ah h3
 exact⟨o',by rw[aD hk,if_neg (fun e:p.1=kk=>hk (by rw[←e];exact hm))];exact h3,eC (fun _ h=>h) h4⟩
theorem uW (a:Int){m:Int}(h:0<m):0≤a.fmod m∧a.fmod m<m:=⟨Int.fmod_nonneg_of_pos a h,Int.fmod_lt_of_pos a h⟩
theorem li:∀l:List Int,PyData.canLayAll0 (pys (l.map .int))=true∧PyData.depthAll (pys (l.map .int))=0
 | []=>⟨rfl,rfl⟩
 |a::l=>by
  obtain⟨h1,h2⟩:=li l
  exact⟨by show (true&&PyData.canLayAll0 (pys (l.map .int)))=true;rw[h1];rfl,by show max 0 (PyData.depthAll (pys (l.map .int)))=0;rw[h2];rfl⟩
section
variable {P:Pm}{pr:List Nat}
theorem n6 {c:aa}{xs:List D}{i:Int}{d:D}(h0:0≤i)(h1:xs[i.toNat]?=some d)(hb:xs.length≤big){K:D→Prop}(h:K d):ef c (.d (.lst xs)) (.d (.int i)) K:=by
 have hlt:=(Qw.mp h1).1
 refine⟨hb,i.toNat,d,?_,h1,h⟩
 unfold seqIndex?
 have hn:¬i<0:=R20 h0
 simp only[hn,if_false]
 rw[if_pos (by simp only[Xv,decide_eq_true_eq];exact R374 h0 hlt)]
theorem bJ {n:Nat}{op:Operator}{a b:IE}{l:Sl}{c:aa}{K:V→aa→Prop}(u v:V)(ha:∀K':V→aa→Prop,K' u c→wpE P n a l c K')(hb:∀K':V→aa→Prop,K' v c→wpE P n b l c K')(h:ip c op u v (fun d=>K (.d d) c)):wpE P (n+1) (.bin op a b) l c K:=by
 exact ha _ (hb _ h)
end
theorem x4 (U:aa):fsW U U fs0 fs0:=⟨rfl,vD _ _ _,rfl,vD _ _ _,trivial⟩
noncomputable def jo:List IS:=[
 .if_ (.cmp .Eq (.v 0) (.lst [] none)) [
  .ret (some (.c (.int 0)))] [],
 .ret (some (.bin .Mod (.meth (.v 0) .pop [(.c (.int 0))]) (.v 1)))]
noncomputable def e5:Spec:=fun vs c K=>∃(k:Nat) (l:List Int) (b:Int),vs=[.obj k,.d (.int b)]∧Wf c∧ae c k=some (.list (l.map .int))∧b≠0∧l.length≤big∧
 ((l=[]∧K (.d (.int 0)) c)∨∃a r,l=a::r∧K (.d (.int (a.fmod b))) (cset c k (.list (r.map .int))))
section
variable {P:Pm}{pr:List Nat}
theorem qN {c:aa}{k:Nat}{l:List Int}(hk:ae c k=some (.list (l.map .int))){K:Bool→Prop}(h:K l.isEmpty):fA c .Eq (.obj k) (.d (.lst [])) K:=by
 obtain⟨h1,h2⟩:=li l
 have e:rd c (.obj k)=some (D.lst (l.map .int)):=by
  show (match ae c k with|some (.list xs)=>some (D.lst xs)|_=>none)=_
  rw[hk]
 show aw (rd c (.obj k)) _
 rw[e]
 refine⟨?_,by decide,?_,?_⟩
 ·show (PyData.canLayAll0 (pys (l.map .int))&&decide (PyData.depthAll (pys (l.map .int))+1≤64))=true
  rw[h1,h2];rfl
 ·cases l<;>rfl
 ·cases l with
  |nil=>exact h
  |cons a l=>exact h
theorem Wf.list {c:aa}(W:Wf c){k:Nat}{xs ys:List D}(hk:ae c k=some (.list xs)):Wf (cset c k (.list ys)):=by
 have hkd:=ah hk
 refine⟨?_,by rw[ai];exact W.nd⟩
 rw[celW_iff]
 intro p hp
 rcases gq W.nd hp with rfl|⟨hp,hne⟩
 ·exact⟨.list ys,by rw[av hkd,if_pos rfl],rfl⟩
 ·obtain⟨o,h3,h4⟩:=celW_iff.mp W.w p hp
  exact⟨o,by rw[av hkd,if_neg hne];exact h3,eC (fun j hj=>by rw[ai];exact hj) h4⟩
theorem ue {n k:Nat}{c:aa}{l:List Int}{b:Int}(W:Wf c)(hk:ae c k=some (.list (l.map .int)))(hb:b≠0)(hl:l.length≤big){K:V→aa→Prop}
  (h:(l=[]∧K (.d (.int 0)) c)∨∃a r,l=a::r∧K (.d (.int (a.fmod b))) (cset c k (.list (r.map .int)))):wpB P (dom c) (n+20) jo ⟨start [.obj k,.d (.int b)] 0,c⟩ (EndP c K):=by
 unfold jo
 refine a9 (n:=n+18) l.isEmpty (c':=c) (fun K' h=>b6 (n:=n+17) (.obj k) (.d (.lst [])) (fun K' h=>h) (fun K' h=>⟨by decide,h⟩) (qN hk h)) ?_
 rcases h with ⟨rfl,h⟩|⟨a,r,rfl,h⟩
 ·exact gV (n:=n+16) (.d (.int 0)) (c':=c) (fun K' h=>h) (EndP.same W (fun _ h=>h) rfl h)
 ·refine al (n:=n+17) ?_
  refine gV (n:=n+17) (.d (.int (a.fmod b))) (c':=cset c k (.list (r.map .int))) (fun K' h=>?_) (EndP.same (W.list hk) (fun j hj=>by rw[ai];exact hj) rfl h)
  rw[dS,eO]
  refine bD (n:=n+14) (v:=.obj k) rfl _ ?_
  have hm:dH c (.obj k) .pop:=⟨rfl,by rw[hk];trivial⟩
  refine⟨hm,rfl,?_⟩
  rw[hk]
  refine⟨rfl,by rw[Zu];exact hl,.int a,r.map .int,rfl,?_⟩
  exact⟨hb,h⟩
end
theorem pu (p:Params):bL 60 (T1 p 254) (bA (K1 p) 254)=some jo:=by kernel_rfl
section
variable {p:Params}{hb:Heap}(X:(K1 p).In hb)(lim:hb.NoLimit)
include X lim
theorem mY:FnT hb 254 (T1 p 254) jo [Qq "pool",Qq "bound"] [] (fW (K1 p) 254) (bA (K1 p) 254) 60:=
 eG X lim (by kernel_rfl) (lsS fun _=>lsS fun _=>ls0 (by kernel_rfl)) rfl (by kernel_rfl) (by kernel_rfl) (pu p)
end
noncomputable def fnB:Addr→Spec:=fun a=>if a=177 then dU 243 51037 52020 else if a=58 then aW Re.junkC else if a=59 then aW Re.strC else if a=60 then aW Re.chewC else jL a
noncomputable def isB:Addr→Bool:=fun a=>a==177||a==58||a==59||a==60
noncomputable def PB (w:World):Pm:=Pm1 w fnB isB
noncomputable def fnC:Addr→Spec:=fun a=>if a=191 then eA 243 51037 52020 148016 149021 150021 else jL a
noncomputable def isK:Addr→Bool:=fun a=>a==191
noncomputable def PC (w:World):Pm:=Pm1 w fnC isK
noncomputable def fnD:Addr→Spec:=fun a=>if a=156 then jN 243 else if a=240 then e8 243 51037 52020 148016 149021 150021 else if a=254 then e5 else if a=149 then gU 243 else jL a
noncomputable def isD:Addr→Bool:=fun a=>a==156||a==240||a==254
noncomputable def PD (w:World):Pm:=Pm1 w fnD isD
section
variable {prog:Program}{w:World}{p:Params}{hb:Heap}{mg mb:Str→Option Value}(B:Base1 w p hb mg mb)
include B
theorem cxB (a:Addr):Cx0 prog w hb (K1 p) (T1 p a) (PB w) 2:=by
 refine cx1 B a (fun a h=>?_) (fun A r vs ws c α s K R h1 h2 h3 h4=>h4.elim)
 simp only[isB,Bool.or_eq_true,beq_iff_eq] at h
 rcases h with ((rfl|rfl)|rfl)|rfl
 ·exact⟨let ⟨o,h1,h2⟩:=(kh B.x B.lim).N.at_;df B h1 h2,wT B⟩
 ·exact⟨ey (pJ B),mC (pJ B)⟩
 ·exact⟨ey (pS B),mC (pS B)⟩
 ·exact⟨ey (pO B),mC (pO B)⟩
theorem uT:FnOk prog w hb 4 191 (eA 243 51037 52020 148016 149021 150021):=by
 refine iU (iO B.x B.lim) (cxB B 191) fun vs c K h=>?_
 obtain⟨k,dk,fs,rfl,pa,h⟩:=h
 refine⟨rfl,130,?_⟩
 have hr:(ew (K1 p) 191).length=13:=by kernel_rfl
 rw[hr]
 rcases h with ⟨h1,h2⟩|⟨x,F,hb,⟨d1,d2,d3,d4,d5⟩,h⟩
 ·exact jl (P:=PB w) (n:=0) (dP _ _ _) pa h1 h2
 ·exact oy (P:=PB w) (n:=0) (dP _ _ _) pa F hb d1 d2 d3 d4 d5 (by decide) (by decide) (by decide) rfl rfl rfl rfl rfl rfl rfl rfl h
theorem cxC (a:Addr):Cx0 prog w hb (K1 p) (T1 p a) (PC w) 4:=by
 refine cx1 B a (fun a h=>?_) (fun A r vs ws c α s K R h1 h2 h3 h4=>h4.elim)
 simp only[isK,beq_iff_eq] at h
 subst h
 exact⟨let ⟨o,h1,h2⟩:=(iO B.x B.lim).N.at_;df B h1 h2,uT B⟩
theorem x0:FnOk prog w hb 6 240 (e8 243 51037 52020 148016 149021 150021):=by
 refine iU (nr B.x B.lim) (cxC B 240) fun vs c K h=>?_
 obtain⟨k,dk,fs,rows,rfl,pa,hm,h⟩:=h
 exact⟨rfl,_,ux (P:=PC w) (n:=0) (dP _ _ _) pa hm rfl rfl h⟩
theorem zb:FnOk prog w hb 2 254 e5:=by
 refine iU (mY B.x B.lim) (uH B 254) fun vs c K h=>?_
 obtain⟨k,l,b,rfl,W,h1,h2,h3,h4⟩:=h
 exact⟨rfl,_,ue (P:=Pm1 w jL fun _=>false) (n:=0) W h1 h2 h3 h4⟩
theorem cxD (a:Addr):Cx0 prog w hb (K1 p) (T1 p a) (PD w) 6:=by
 refine cx1 B a (fun a h=>?_) ((xY B).more (by decide))
 simp only[isD,Bool.or_eq_true,beq_iff_eq] at h
 rcases h with (rfl|rfl)|rfl
 ·exact⟨let ⟨o,h1,h2⟩:=(qw B.x B.lim).N.at_;df B h1 h2,(zz B).more (by decide)⟩
 ·exact⟨let ⟨o,h1,h2⟩:=(nr B.x B.lim).N.at_;df B h1 h2,x0 B⟩
 ·exact⟨let ⟨o,h1,h2⟩:=(mY B.x B.lim).N.at_;df B h1 h2,(zb B).more (by decide)⟩
end
noncomputable def shM (n:Nat):Md→Md
 | .Q1 d f=>.Q1 d (f+n)
 | .Q2 d f=>.Q2 d (f+n)
 | .S1 d f=>.S1 d (f+n)
 | .S1e d f=>.S1e d (f+n)
 | .S3 d k f=>.S3 d k (f+n)
 | .S3e d f=>.S3e d (f+n)
 |m=>m
noncomputable def sh (g:List Nat)(n:Nat)(s:St):St:=⟨shM n s.md,s.lv,s.ln+n,g++(s.gd.map (·+n)).tail⟩
theorem qU {g:List Nat}{n:Nat}{s:St}(h:s.gd≠[]):nl (sh g n s)=sh g n (nl s):=by
 obtain⟨md,lv,ln,gd⟩:=s
 cases gd with
 |nil=>exact absurd rfl h
 |cons a gd=>
  cases lv with
  |zero=>
   show (⟨.N,0,ln+n+1,g++gd.map (·+n)++[ln+n+1]⟩:St)=⟨.N,0,ln+1+n,g++(gd++[ln+1]).map (·+n)⟩
   rw[List.map_append,Nat.add_right_comm,Qv];rfl
  |succ k=>
   show (⟨.N,k+1,ln+n+1,g++gd.map (·+n)⟩:St)=⟨.N,k+1,ln+1+n,g++gd.map (·+n)⟩
   rw[Nat.add_right_comm]
theorem vk {g:List Nat}{n:Nat}{s:St}(h:s.gd≠[])(c:Nat):step (sh g n s) c=sh g n (step s c):=by
 have hn:=qU (g:=g) (n:=n) h
 obtain⟨md,lv,ln,gd⟩:=s
 have eN:∀md,aY (sh g n ⟨md,lv,ln,gd⟩) c=sh g n (aY ⟨md,lv,ln,gd⟩ c):=fun md=>by
  unfold aY
  have hn':nl (sh g n ⟨md,lv,ln,gd⟩)=sh g n (nl ⟨md,lv,ln,gd⟩):=qU h
  by_cases h1:c=10
  ·rw[if_pos h1,if_pos h1];exact hn'
  rw[if_neg h1,if_neg h1]
  by_cases h2:c=40
  ·rw[if_pos h2,if_pos h2];rfl
  rw[if_neg h2,if_neg h2]
  by_cases h3:c=41
  ·rw[if_pos h3,if_pos h3];rfl
  rw[if_neg h3,if_neg h3]
  by_cases h4:c=34
  ·rw[if_pos h4,if_pos h4];rfl
  rw[if_neg h4,if_neg h4]
  by_cases h5:c=39
  ·rw[if_pos h5,if_pos h5];rfl
  rw[if_neg h5,if_neg h5]
  by_cases h6:c=35
  ·rw[if_pos h6,if_pos h6];rfl
  rw[if_neg h6,if_neg h6]
  by_cases h7:c=92
  ·rw[if_pos h7,if_pos h7];rfl
  rw[if_neg h7,if_neg h7];rfl
 have eS:∀md d f,bm (sh g n ⟨md,lv,ln,gd⟩) d (f+n) c=sh g n (bm ⟨md,lv,ln,gd⟩ d f c):=fun md d f=>by
  have hn':nl (sh g n ⟨md,lv,ln,gd⟩)=sh g n (nl ⟨md,lv,ln,gd⟩):=qU h
  unfold bm
  by_cases h1:c=qc d
  ·rw[if_pos h1,if_pos h1];rfl
  rw[if_neg h1,if_neg h1]
  by_cases h2:c=10
  ·rw[if_pos h2,if_pos h2];exact hn'
  rw[if_neg h2,if_neg h2]
  by_cases h3:c=92
  ·rw[if_pos h3,if_pos h3];rfl
  rw[if_neg h3,if_neg h3];rfl
 have e1:∀a b:Nat,a+b+1=a+1+b:=fun a b=>by exact R386
 cases md with
 |N=>exact eN _
 |Nb=>exact eN _
 |E=>
  show (if c=10 then _ else _)=sh g n (if c=10 then _ else _)
  by_cases q:c=10
  ·rw[if_pos q,if_pos q];unfold sh;rw[e1];rfl
  ·rw[if_neg q,if_neg q];rfl
 |C=>
  show (if c=10 then _ else _)=sh g n (if c=10 then _ else _)
  by_cases q:c=10
  ·rw[if_pos q,if_pos q];exact hn
  ·rw[if_neg q,if_neg q]
 |Q1 d f=>
  show (if c=qc d then _ else bm _ d (f+n) c)=sh g n (if c=qc d then _ else _)
  by_cases q:c=qc d
  ·rw[if_pos q,if_pos q];rfl
  ·rw[if_neg q,if_neg q];exact eS _ d f
 |Q2 d f=>
  show (if c=qc d then _ else aY _ c)=sh g n (if c=qc d then _ else _)
  by_cases q:c=qc d
  ·rw[if_pos q,if_pos q];rfl
  ·rw[if_neg q,if_neg q];exact eN _
 |S1 d f=>exact eS _ d f
 |S1e d f=>
  show (if c=10 then _ else _)=sh g n (if c=10 then _ else _)
  by_cases q:c=10
  ·rw[if_pos q,if_pos q];unfold sh;dsimp only;rw[e1];rfl
  ·rw[if_neg q,if_neg q];rfl
 |S3 d k f=>
  show (if c=qc d then (if k=2 then _ else _) else if c=10 then _ else if c=92 then _ else _)=sh g n (if c=qc d then (if k=2 then _ else _) else if c=10 then _ else if c=92 then _ else _)
  by_cases q:c=qc d
  ·rw[if_pos q,if_pos q]
   by_cases q2:k=2
   ·rw[if_pos q2,if_pos q2];rfl
   ·rw[if_neg q2,if_neg q2];rfl
  rw[if_neg q,if_neg q]
  by_cases q2:c=10
  ·rw[if_pos q2,if_pos q2];unfold sh;rw[e1];rfl
  rw[if_neg q2,if_neg q2]
  by_cases q3:c=92
  ·rw[if_pos q3,if_pos q3];rfl
  ·rw[if_neg q3,if_neg q3];rfl
 |S3e d f=>
  show (if c=10 then _ else _)=sh g n (if c=10 then _ else _)
  by_cases q:c=10
  ·rw[if_pos q,if_pos q];unfold sh;dsimp only;rw[e1];rfl
  ·rw[if_neg q,if_neg q];rfl
theorem yU {s:St}(h:s.gd≠[])(c:Nat):(step s c).gd≠[]:=by
 rcases kt s c with e|⟨e,_⟩
 ·rw[e];exact h
 ·rw[e];simp
theorem nc {g:List Nat}{n:Nat}:∀(l:List Nat) {s:St},s.gd≠[]→scan (sh g n s) l=sh g n (scan s l)
 | [],s,h=>rfl
 |c::l,s,h=>by rw[aZ,aZ,vk h];exact nc l (yU h c)
theorem cu:∀a b:List Nat,nls (a++b)=nls a+nls b
 | [],b=>by show nls b=0+nls b;exact R385
 |c::a,b=>by show (if c=10 then 1 else 0)+nls (a++b)=_;rw[cu a b,nls];exact R251
theorem i8:∀(a b:List Nat) (t:Nat),(a=[]∨a.getLast?=some 10)→au (a++b) (nls a+t)=a.length+au b t
 | [],b,t,_=>by show au b (0+t)=0+_;rw[Nat.zero_add,Nat.zero_add]
 | [c],b,t,h=>by
  have:c=10:=by simpa using h
  subst this
  show au (10::b) (1+0+t)=1+au b t
  rw[show 1+0+t=t+1 by exact R384,au,if_pos rfl]
 |c::d::a,b,t,h=>by
  have h':(d::a).getLast?=some 10:=by simpa [List.getLast?_cons_cons] using h
  have ih:=i8 (d::a) b t (.inr h')
  have hp:0<nls (d::a):=by
   have:=lU (d::a) (.inr h')
   cases hn:nls (d::a) with
   |zero=>rw[hn,cb] at this;contradiction
   |succ n=>exact R127
  show au (c::(d::a++b)) (nls (c::d::a)+t)=_
  by_cases hc:c=10
  ·rw[show nls (c::d::a)+t=(nls (d::a)+t)+1 by rw[nls,if_pos hc];exact R383,au,if_pos hc,ih];dsimp only[Qz];exact R380
  ·obtain⟨m,hm⟩:∃m,nls (d::a)+t=m+1:=⟨nls (d::a)+t-1,by exact R382 hp⟩
   rw[show nls (c::d::a)+t=m+1 by rw[nls,if_neg hc];exact R381 hm,au,if_neg hc,←hm,ih];dsimp only[Qz];exact R380
structure Cl (l gd:List Nat):Prop where
 sc:scan st0 (l.map tr)=⟨.N,0,nls l,gd⟩
 last:gd.getLast?=some (nls l)
 ends:l=[]∨l.getLast?=some 10
theorem dM {a b:List Nat}(ha:a=[]∨a.getLast?=some 10)(hb:b=[]∨b.getLast?=some 10):a++b=[]∨(a++b).getLast?=some 10:=by
 rcases hb with rfl|hb
 ·rw[Zg];exact ha
 ·right;rw[Qb,hb];rfl
theorem Cl.scan {l gd:List Nat}(h:Cl l gd)(S:List Nat):scan st0 ((l++S).map tr)=sh gd (nls l) (scan st0 (S.map tr)):=by
 rw[List.map_append,aV,h.sc]
 have e:(⟨.N,0,nls l,gd⟩:St)=sh gd (nls l) st0:=by
  show (⟨.N,0,nls l,gd⟩:St)=⟨.N,0,0+nls l,gd++[]⟩
  rw[Zg,Nat.zero_add]
 rw[e,nc _ (by decide)]
theorem Cl.app {l gd S gs:List Nat}(h:Cl l gd)(hS:Cl S (0::gs)):Cl (l++S) (gd++gs.map (·+nls l)):=by
 refine⟨?_,?_,dM h.ends hS.ends⟩
 ·rw[h.scan,hS.sc]
  show (⟨.N,0,nls S+nls l,gd++gs.map (·+nls l)⟩:St)=_
  rw[cu,Nat.add_comm]
 ·have hl:=hS.last
  rw[cu]
  cases gs with
  |nil=>
   have:nls S=0:=by simpa using hl.symm
   rw[this,List.map_nil,Zg];exact h.last
  |cons a gs=>
   rw[List.getLast?_cons_cons] at hl
   rw[Qb,List.getLast?_map,hl]
   show some (nls S+nls l)=_
   rw[Nat.add_comm]
structure JkOk (J:List Nat):Prop where
 cl:Cl J (List.range (nls J+1))
 jk:∀t,t<nls J→Re.junkB (J.drop (au J t))=true
theorem lj {s:St}(h:s.gd.getLast?=some s.ln):aU s=s.gd:=if_pos h
theorem qW {x:Str}{l gd S J:List Nat}{m:Nat}(hl:Cl l gd)(hx:sg x=l++(S++J))(hS:S=[]∨S.getLast?=some 10)(hm:nls S=m)(hg:aU (fin x)=gd++(List.range (nls J+1)).map (·+(nls l+m)))(hj:∀t,t<nls J→Re.junkB (J.drop (au J t))=true)(hn:Re.junkB (S++J)=false) :
  stm x=(l.length,l.length+S.length):=by
 obtain⟨e,he⟩:∃e,gd.length=e+1:=by
  cases hgd:gd with
  |nil=>have:=hl.last;rw[hgd] at this;contradiction
  |cons a r=>exact⟨r.length,rfl⟩
 have glast:gd[e]?=some (nls l):=by have:=hl.last;rw[Qp,he] at this;exact this
 unfold stm
 rw[hg]
 have hlen:(gd++(List.range (nls J+1)).map (·+(nls l+m))).length-1=e+1+nls J:=by
  rw[Qj,Zu,List.length_range,he];exact R393
 rw[hlen]
 have key:∀t,t≤nls J→(bo x (gd++(List.range (nls J+1)).map (·+(nls l+m))) (e+1+t))=(l.length,l.length+S.length):=by
  intro t
  induction t with
  |zero=>
   intro _
   have g0:(gd++(List.range (nls J+1)).map (·+(nls l+m))).getD e 0=nls l:=by
    rw[List.getD_eq_getElem?_getD,List.getElem?_append_left (R392 he),glast];rfl
   have l0:au (sg x) (nls l)=l.length:=by
    rw[hx];have:=i8 l (S++J) 0 hl.ends;rw[cb] at this;exact this
   have g1:(gd++(List.range (nls J+1)).map (·+(nls l+m))).getD (e+1) 0=nls (l++S)+0:=by
    rw[List.getD_eq_getElem?_getD,List.getElem?_append_right (by rw[he];exact Zv _),he,Nat.sub_self,Xy,List.getElem?_range (Nat.zero_lt_succ _),cu,hm]
    show 0+(nls l+m)=_;rw[Nat.zero_add];rfl
   have l1:au (sg x) (nls (l++S)+0)=l.length+S.length:=by
    rw[hx,←Qv,i8 (l++S) J 0 (dM hl.ends hS),cb,Qj];rfl
   show bo x _ (e+1)=_
   rw[bo,g0,g1,l0,l1,hx,List.drop_left,hn,if_neg (by decide)]
  |succ t ih=>
   intro ht
   have g1:(gd++(List.range (nls J+1)).map (·+(nls l+m))).getD (e+1+t) 0=nls (l++S)+t:=by
    rw[List.getD_eq_getElem?_getD,List.getElem?_append_right (R391 he),he,show e+1+t-(e+1)=t by exact R390,Xy,List.getElem?_range (R389 ht),cu,hm]
    show t+(nls l+m)=_;exact R388
   have l1:au (sg x) (nls (l++S)+t)=(l++S).length+au J t:=by
    rw[hx,←Qv];exact i8 (l++S) J t (dM hl.ends hS)
   have hd:(sg x).drop ((l++S).length+au J t)=J.drop (au J t):=by
    rw[hx,←Qv,←List.drop_drop,List.drop_left]
   show bo x _ (e+1+t+1)=_
   rw[bo,g1,l1,hd,hj t (R74 ht),if_pos rfl]
   exact ih (R73 ht)
 exact key _ (Zv _)
theorem pD {x:Str}{l gd S J:List Nat}(hl:Cl l gd)(hx:sg x=l++(S++J))(hS:Cl S [0,nls S])(hJ:JkOk J)(hn:Re.junkB (S++J)=false):stm x=(l.length,l.length+S.length)∧∃gd',Cl (l++(S++J)) gd':=by
 have c1:Cl (l++S) (gd++[nls S+nls l]):=hl.app hS
 obtain⟨jt,hjt⟩:∃jt,List.range (nls J+1)=0::jt:=by rw[List.range_succ_eq_map];exact⟨_,rfl⟩
 have c2:Cl (l++S++J) (gd++[nls S+nls l]++jt.map (·+nls (l++S))):=c1.app (by have:=hJ.cl;rw[hjt] at this;exact this)
 have hg:aU (fin x)=gd++(List.range (nls J+1)).map (·+(nls l+nls S)):=by
  have e:fin x=⟨.N,0,nls (l++S++J),gd++[nls S+nls l]++jt.map (·+nls (l++S))⟩:=by
   unfold fin;rw[hx,←Qv];exact c2.sc
  rw[lj (by rw[e];exact c2.last),e,hjt]
  show gd++[nls S+nls l]++jt.map (·+nls (l++S))=_
  rw[cu,Qv,List.map_cons,Nat.zero_add,Nat.add_comm (nls S)];rfl
 exact⟨qW hl hx hS.ends rfl hg hJ.jk hn,_,by rw[←Qv];exact c2⟩
theorem oP {x:Str}{l gd S:List Nat}(hl:Cl l gd)(hx:sg x=l++S)(hS:(scan st0 (S.map tr)).gd=[0]∧0<nls S)(hE:S.getLast?=some 10)(hn:Re.junkB S=false):stm x=(l.length,l.length+S.length):=by
 have e:fin x=sh gd (nls l) (scan st0 (S.map tr)):=by unfold fin;rw[hx];exact hl.scan S
 have eln:(fin x).ln=nls S+nls l:=by
  rw[e];show (scan st0 (S.map tr)).ln+nls l=_
  rw[jS,l7];show 0+nls S+nls l=_;exact R387
 have egd:(fin x).gd=gd:=by
  rw[e];show gd++((scan st0 (S.map tr)).gd.map (·+nls l)).tail=gd
  rw[hS.1];simp
 have hg:aU (fin x)=gd++(List.range (nls []+1)).map (·+(nls l+nls S)):=by
  unfold aU
  rw[egd,eln,hl.last,if_neg (fun q=>by have:=Option.some.inj q;omega)]
  show gd++[nls S+nls l]=gd++[0+(nls l+nls S)]
  rw[Nat.zero_add,Nat.add_comm]
 exact qW (J:=[]) hl (by rw[Zg];exact hx) (.inr hE) rfl hg (fun t ht=>absurd ht (Nat.not_lt_zero _)) (by rw[Zg];exact hn)
theorem ft {x:Str}{q:Nat}{s0 s:L2}(h:Rch x q s0 s):s=s0∨(s0.p<q∧Rch x q (dl x q s0) s):=by
 induction h with
 |refl=>exact .inl rfl
 |step h hp ih=>
  rcases ih with rfl|⟨h1,h2⟩
  ·exact .inr ⟨hp,.refl⟩
  ·exact .inr ⟨h1,.step h2 hp⟩
theorem rh {x:Str}{q:Nat}{s0 s:L2}(h0:s0.p<q)(h:Rch x q (dl x q s0) s):Rch x q s0 s:=by
 induction h with
 |refl=>exact .step .refl h0
 |step h hp ih=>exact .step ih hp
def B (w:List Nat)(p n:Nat)(br br':List (Nat×Nat)):Prop:=∀(x:Str) (q:Nat) (s:L2),q≤x.length→s.p=p→p≤q→ar x q p=w→s.st.length=n→s.br=br→∀s',Rch x q s s'→s'.p=q→s'.br=br'
theorem nS {p n:Nat}{br:List (Nat×Nat)}:B [] p n br br:=fun x q s hq e hp hr hn hb s' h he=>by
 subst e
 have h1:=cq (x:=x) (p:=s.p) hq
 rw[hr] at h1
 rcases ft h with rfl|⟨h2,_⟩
 ·exact hb
 ·have h1:0=q-s.p:=h1;exact (R497 h2 h1).elim
theorem j9 {ch k p n n':Nat}{r:List Nat}{br add br':List (Nat×Nat)}(ho:Re.ord_ ch=false)(hk:k≤r.length+1)(ht:∀last st,st.length=n→∃last' st',db p last st br (ch::r)=⟨p+k,last',st',br++add⟩∧st'.length=n')
  (g:B ((ch::r).drop k) (p+k) n' (br++add) br'):B (ch::r) p n br br':=fun x q s hq e hp hr hn hb s' h he=>by
 subst e
 have h1:=cq (x:=x) (p:=s.p) hq
 rw[hr] at h1
 have h2:r.length+1=q-s.p:=h1
 rcases ft h with rfl|⟨_,h⟩
 ·exact (R495 he h2).elim
 obtain⟨last',st',e,hn'⟩:=ht s.last s.st hn
 have e2:dl x q s=⟨s.p+k,last',st',br++add⟩:=by
  unfold dl
  rw[hr,Xw,List.dropWhile_cons,ho,←e,hb];rfl
 rw[e2] at h
 refine g x q _ hq rfl (R496 hk h2) ?_ hn' rfl s' h he
 rw[←hr];unfold ar;rw[List.drop_drop]
theorem on (c:Nat)(w:List Nat)(l:Str):lastOf (c::w) l=lastOf w (if cD c=true then l else ⟨#[c]⟩):=by
 unfold lastOf dz
 rw[List.reverse_cons,List.find?_append]
 cases w.reverse.find? fun c=>!cD c with
 |some d=>rfl
 |none=>show (match ([c].find? fun c=>!cD c) with|some c=>(⟨#[c]⟩:Str)|none=>l)=_;rw[List.find?_cons];cases cD c<;>rfl
theorem bh {c p n:Nat}{r:List Nat}{br br':List (Nat×Nat)}(ho:Re.ord_ c=true)(g:B r (p+1) n br br'):B (c::r) p n br br':=fun x q s hq e hp hr hn hb s' h he=>by
 subst e
 have h1:=cq (x:=x) (p:=s.p) hq
 rw[hr] at h1
 have h2:r.length+1=q-s.p:=h1
 rcases ft h with rfl|⟨_,h⟩
 ·exact (R495 he h2).elim
 have e1:ar x q (s.p+1)=r:=by
  have:ar x q (s.p+1)=(ar x q s.p).drop 1:=by unfold ar;rw[List.drop_drop]
  rw[this,hr];rfl
 have e2:dl x q s=db (s.p+1+(r.takeWhile Re.ord_).length) (lastOf (r.takeWhile Re.ord_) (if cD c=true then s.last else ⟨#[c]⟩)) s.st s.br (r.dropWhile Re.ord_):=by
  unfold dl
  rw[hr,Xw,List.dropWhile_cons,ho]
  show db (s.p+((r.takeWhile Re.ord_).length+1)) (lastOf (c::r.takeWhile Re.ord_) s.last) s.st s.br (r.dropWhile Re.ord_)=_
  rw[on,Nat.add_assoc s.p 1,Nat.add_comm 1]
 refine g x q ⟨s.p+1,(if cD c=true then s.last else ⟨#[c]⟩),s.st,s.br⟩ hq rfl (R494 ‹_›) e1 hn hb s' ?_ he
 rw[e2] at h
 by_cases hz:r=[]
 ·subst hz;exact h
 ·have hpos:0<r.length:=List.length_pos_iff.mpr hz
  refine rh (by show s.p+1<q;exact R493 h2 hpos) ?_
  unfold dl
  rw[e1];exact h
theorem rn {w rest:List Nat}{p n:Nat}{br br':List (Nat×Nat)}(hw:w.all (fun c=>c != 10)=true)(g:B rest (p+(w.length+2)) n (br++[(p,n+1),(p+(w.length+2),n)]) br'):B (35::(w++10::rest)) p n br br':=by
 have e:(w++10::rest).takeWhile (fun c=>c != 10)=w:=by
  rw[List.takeWhile_append_of_pos (fun a ha=>Xu.mp hw a ha)];simp
 refine j9 (k:=w.length+2) (n':=n) (add:=[(p,n+1),(p+(w.length+2),n)]) rfl (by simp) (fun last st hn=>⟨last,st,?_,hn⟩) ?_
 ·subst hn
  show L2.mk (p+((w++10::rest).takeWhile (fun c=>c != 10)).length+2) _ _ (_++[(p,st.length+1)]++[(p+((w++10::rest).takeWhile (fun c=>c != 10)).length+2,st.length)])=_
  rw[e,Qv];rfl
 ·show B ((w++10::rest).drop (w.length+1)) _ _ _ _
  rw[←List.drop_drop,List.drop_left];exact g
theorem iC {ch k p n:Nat}{r:List Nat}{br br':List (Nat×Nat)}(hc:ch=34∨ch=39)(hk:k≤r.length+1)(e:Re.strEnd (ch::r)=k)(g:B ((ch::r).drop k) (p+k) n (br++[(p,n+1),(p+k,n)]) br'):B (ch::r) p n br br':=by
 refine j9 (k:=k) (n':=n) (add:=[(p,n+1),(p+k,n)]) (by rcases hc with rfl|rfl<;>rfl) hk (fun last st hn=>⟨⟨#[ch]⟩,st,?_,hn⟩) g
 subst hn
 rcases hc with rfl|rfl
 ·show L2.mk (p+Re.strEnd (34::r)) _ _ (br++[(p,st.length+1)]++[(p+Re.strEnd (34::r),st.length)])=_
  rw[e,Qv];rfl
 ·show L2.mk (p+Re.strEnd (39::r)) _ _ (br++[(p,st.length+1)]++[(p+Re.strEnd (39::r),st.length)])=_
  rw[e,Qv];rfl
theorem uD (q:Nat)(h:q≠92)(h':q≠10):∀rest,Re.sEnd1 q (q::rest)=1
 | []=>by show (if q=92∨q=10 then 0 else 1)=1;rw[if_neg (by simp[h,h'])]
 |d::r=>by show (if q=92 then _ else if q=10 then _ else if q=q then 1 else _)=1;rw[if_neg h,if_neg h',if_pos rfl]
noncomputable def un2 (s:St):St:=match s.md with
 | .Nb=>{s with md:=.N}
 | .Q2 _ _=>{s with md:=.N}
 |_=>s
theorem qm (s:St){c:Nat}(h1:c≠34)(h2:c≠39)(l:List Nat):scan (un2 s) (c::l)=scan s (c::l):=by
 rw[aZ,aZ]
 obtain⟨md,lv,ln,gd⟩:=s
 cases md with
 |Q2 d f=>
  show scan (aY _ c) l=scan (if c=qc d then _ else aY _ c) l
  rw[if_neg (by cases d<;>assumption)];rfl
 |_=>rfl
noncomputable def qQ (w:List Nat)(p n:Nat):List (Nat×Nat):=[(p+1,n+1),(p+w.length,n)]
structure Pok (w:List Nat)(add:Nat→Nat→List (Nat×Nat))(f:Nat→Nat)(z:Nat):Prop where
 pb:∀p n rest br br',rest.head?≠some 39→B rest (p+w.length) (f n) (br++add p n) br'→B (w++rest) p n br br'
 sc:∀lv ln gd,z≤lv→un2 (scan ⟨.N,lv,ln,gd⟩ (w.map tr))=⟨.N,f lv,ln+nls w,gd⟩
 hd:∃c t,w=c::t∧tr c≠34∧tr c≠39∧c≠39
 low:∀c∈w,c<128
 len:w.length≤11
noncomputable def rising2:List (List Nat):=[[40],[102,91],[32,123],[44,40]]
noncomputable def falling2:List (List Nat):=[[41],[32,93],[125],[121,41]]
noncomputable def things2:List (List Nat):=[[43,39,40,39],[44,34,92,34,35,34],[43,34,34,34,10,41,39,10,34,34,34],[61,39,39],[37,39,92,10,91,39]]
noncomputable def ce:List (List Nat):=[[32,35,91,10],[122,35,32,41,39,92,10]]
noncomputable def plain2:List (List Nat):=[[97],[32,98],[92,10],[92,40],[92,39],[58],[9,46,99]]
theorem s9 {ch p n:Nat}{r:List Nat}{br br':List (Nat×Nat)}(hc:ch=40∨ch=91∨ch=123)(g:B r (p+1) (n+1) (br++[(p,n+1)]) br'):B (ch::r) p n br br':=
 j9 (k:=1) (by rcases hc with rfl|rfl|rfl<;>rfl) (Nat.le_add_left ..) (fun last st hn=>⟨_,st++[p],by subst hn;unfold db;exact if_pos hc,by simp[hn]⟩) g
theorem uJ {ch p n:Nat}{r:List Nat}{br br':List (Nat×Nat)}(hc:ch=41∨ch=93∨ch=125)(g:B r (p+1) (n-1) (br++[(p+1,n-1)]) br'):B (ch::r) p n br br':=
 j9 (k:=1) (by rcases hc with rfl|rfl|rfl<;>rfl) (Nat.le_add_left ..) (fun last st hn=>⟨⟨#[ch]⟩,st.dropLast,by
  have:st.dropLast.length=n-1:=by rw[List.length_dropLast,hn]
  rw[←this];rcases hc with rfl|rfl|rfl<;>rfl,by rw[List.length_dropLast,hn]⟩) g
theorem oJ:∀w∈rising2,Pok w (fun p n=>[(p+w.length-1,n+1)]) (·+1) 0:=by
 unfold rising2
 refine Qx.mpr ⟨?_,Qx.mpr ⟨?_,Qx.mpr ⟨?_,Qx.mpr ⟨?_,Zz _⟩⟩⟩⟩
 ·exact⟨fun p n rest br br' _ g=>s9 (by decide) g,fun lv ln gd _=>rfl,⟨_,_,rfl,by decide,by decide,by decide⟩,by decide,by decide⟩
 ·exact⟨fun p n rest br br' _ g=>bh rfl (s9 (by decide) g),fun lv ln gd _=>rfl,⟨_,_,rfl,by decide,by decide,by decide⟩,by decide,by decide⟩
 ·exact⟨fun p n rest br br' _ g=>bh rfl (s9 (by decide) g),fun lv ln gd _=>rfl,⟨_,_,rfl,by decide,by decide,by decide⟩,by decide,by decide⟩
 ·exact⟨fun p n rest br br' _ g=>bh rfl (s9 (by decide) g),fun lv ln gd _=>rfl,⟨_,_,rfl,by decide,by decide,by decide⟩,by decide,by decide⟩
theorem mD:∀w∈falling2,Pok w (fun p n=>[(p+w.length,n-1)]) (·-1) 0:=by
 unfold falling2
 refine Qx.mpr ⟨?_,Qx.mpr ⟨?_,Qx.mpr ⟨?_,Qx.mpr ⟨?_,Zz _⟩⟩⟩⟩
 ·exact⟨fun p n rest br br' _ g=>uJ (by decide) g,fun lv ln gd _=>rfl,⟨_,_,rfl,by decide,by decide,by decide⟩,by decide,by decide⟩
 ·exact⟨fun p n rest br br' _ g=>bh rfl (uJ (by decide) g),fun lv ln gd _=>rfl,⟨_,_,rfl,by decide,by decide,by decide⟩,by decide,by decide⟩
 ·exact⟨fun p n rest br br' _ g=>uJ (by decide) g,fun lv ln gd _=>rfl,⟨_,_,rfl,by decide,by decide,by decide⟩,by decide,by decide⟩
 ·exact⟨fun p n rest br br' _ g=>bh rfl (uJ (by decide) g),fun lv ln gd _=>rfl,⟨_,_,rfl,by decide,by decide,by decide⟩,by decide,by decide⟩
theorem ot:∀w∈things2,Pok w (qQ w) id 0:=by
 unfold things2
 refine Qx.mpr ⟨?_,Qx.mpr ⟨?_,Qx.mpr ⟨?_,Qx.mpr ⟨?_,Qx.mpr ⟨?_,Zz _⟩⟩⟩⟩⟩
 ·refine⟨fun p n rest br br' _ g=>bh rfl (iC (k:=3) (r:=40::39::rest) (by decide) (Nat.le_add_left 3 _) ?_ g),fun lv ln gd _=>rfl,⟨_,_,rfl,by decide,by decide,by decide⟩,by decide,by decide⟩
  show 1+(1+Re.sEnd1 39 (39::rest))=3
  rw[uD 39 (by decide) (by decide)]
 ·refine⟨fun p n rest br br' _ g=>bh rfl (iC (k:=5) (r:=92::34::35::34::rest) (by decide) (Nat.le_add_left 5 _) ?_ g),fun lv ln gd _=>rfl,⟨_,_,rfl,by decide,by decide,by decide⟩,by decide,by decide⟩
  show 1+(2+(1+Re.sEnd1 34 (34::rest)))=5
  rw[uD 34 (by decide) (by decide)]
 ·exact⟨fun p n rest br br' _ g=>bh rfl (iC (k:=10) (r:=34::34::10::41::39::10::34::34::34::rest) (by decide) (Nat.le_add_left 10 _) rfl g),fun lv ln gd _=>rfl,⟨_,_,rfl,by decide,by decide,by decide⟩,by decide,by decide⟩
 ·refine⟨fun p n rest br br' hq g=>bh rfl (iC (k:=2) (r:=39::rest) (by decide) (Nat.le_add_left 2 _) ?_ g),fun lv ln gd _=>rfl,⟨_,_,rfl,by decide,by decide,by decide⟩,by decide,by decide⟩
  show (if (39::rest).head?=some 39∧(39::rest).tail.head?=some 39 then _ else 1+Re.sEnd1 39 (39::rest))=2
  rw[if_neg (fun q=>hq q.2),uD 39 (by decide) (by decide)]
 ·refine⟨fun p n rest br br' _ g=>bh rfl (iC (k:=5) (r:=92::10::91::39::rest) (by decide) (Nat.le_add_left 5 _) ?_ g),fun lv ln gd _=>rfl,⟨_,_,rfl,by decide,by decide,by decide⟩,by decide,by decide⟩
  show 1+(2+(1+Re.sEnd1 39 (39::rest)))=5
  rw[uD 39 (by decide) (by decide)]
theorem lv1 {P:Nat→Prop}(h:∀k,P (k+1))(lv:Nat)(hl:1≤lv):P lv:=by
 cases lv with
 |zero=>exact absurd hl (by decide)
 |succ k=>exact h k
theorem lV:∀w∈ce,Pok w (qQ w) id 1:=by
 unfold ce
 refine Qx.mpr ⟨?_,Qx.mpr ⟨?_,Zz _⟩⟩
 ·exact⟨fun p n rest br br' _ g=>bh rfl (rn (w:=[91]) rfl g),fun lv ln gd h=>lv1 (P:=fun lv=>un2 (scan ⟨.N,lv,ln,gd⟩ ([32,35,91,10].map tr))=⟨.N,lv,ln+1,gd⟩) (fun k=>rfl) lv h,⟨_,_,rfl,by decide,by decide,by decide⟩,by decide,by decide⟩
 ·exact⟨fun p n rest br br' _ g=>bh rfl (rn (w:=[32,41,39,92]) rfl g),fun lv ln gd h=>lv1 (P:=fun lv=>un2 (scan ⟨.N,lv,ln,gd⟩ ([122,35,32,41,39,92,10].map tr))=⟨.N,lv,ln+1,gd⟩) (fun k=>rfl) lv h,⟨_,_,rfl,by decide,by decide,by decide⟩,by decide,by decide⟩
noncomputable def nG:Nat→Nat→List (Nat×Nat):=fun _ _=>[]
theorem nE {d p n:Nat}{r:List Nat}{br br':List (Nat×Nat)}(g:B r (p+2) n (br++[]) br'):B (92::d::r) p n br br':=
 j9 (k:=2) (add:=[]) (n':=n) rfl (Nat.le_add_left 2 _) (fun last st hn=>⟨if d=10 then last else ⟨#[92,d]⟩,st,by rw[Zg];rfl,hn⟩) g
theorem rH {w:List Nat}{p n:Nat}{br br' br2:List (Nat×Nat)}(e:br2=br)(g:B w p n br2 br'):B w p n br br':=e▸g
theorem qK:∀w∈plain2,Pok w nG id 0:=by
 unfold plain2
 have n:=fun (br:List (Nat×Nat))=>Zg br
 refine Qx.mpr ⟨?_,Qx.mpr ⟨?_,Qx.mpr ⟨?_,Qx.mpr ⟨?_,Qx.mpr ⟨?_,Qx.mpr ⟨?_,Qx.mpr ⟨?_,Zz _⟩⟩⟩⟩⟩⟩⟩
 ·exact⟨fun p _ rest br br' _ g=>bh rfl (rH (n br) g),fun lv ln gd _=>rfl,⟨_,_,rfl,by decide,by decide,by decide⟩,by decide,by decide⟩
 ·exact⟨fun p _ rest br br' _ g=>bh rfl (bh rfl (rH (n br) g)),fun lv ln gd _=>rfl,⟨_,_,rfl,by decide,by decide,by decide⟩,by decide,by decide⟩
 ·exact⟨fun p _ rest br br' _ g=>nE g,fun lv ln gd _=>rfl,⟨_,_,rfl,by decide,by decide,by decide⟩,by decide,by decide⟩
 ·exact⟨fun p _ rest br br' _ g=>nE g,fun lv ln gd _=>rfl,⟨_,_,rfl,by decide,by decide,by decide⟩,by decide,by decide⟩
 ·exact⟨fun p _ rest br br' _ g=>nE g,fun lv ln gd _=>rfl,⟨_,_,rfl,by decide,by decide,by decide⟩,by decide,by decide⟩
 ·exact⟨fun p _ rest br br' _ g=>bh rfl (rH (n br) g),fun lv ln gd _=>rfl,⟨_,_,rfl,by decide,by decide,by decide⟩,by decide,by decide⟩
 ·exact⟨fun p _ rest br br' _ g=>bh rfl (bh rfl (bh rfl (rH (n br) g))),fun lv ln gd _=>rfl,⟨_,_,rfl,by decide,by decide,by decide⟩,by decide,by decide⟩
theorem yr:Pok [10] nG id 1:=
 ⟨fun p _ rest br br' _ g=>bh rfl (rH (Zg br) g),fun lv ln gd h=>lv1 (P:=fun lv=>un2 (scan ⟨.N,lv,ln,gd⟩ ([10].map tr))=⟨.N,lv,ln+1,gd⟩) (fun k=>rfl) lv h,⟨_,_,rfl,by decide,by decide,by decide⟩,by decide,by decide⟩
structure Bd (p:Nat)(S:List Nat)(rows:List (Nat×Nat))(lv m:Nat):Prop where
 sc:un2 (scan st0 (S.map tr))=⟨.N,lv,nls S,[0]⟩
 pc:∀rest br',rest.head?≠some 39→B rest (p+S.length) lv rows br'→B (S++rest) p 0 [(p,0)] br'
 jk:∀R,Re.junkB (S++R)=false
 low:∀c∈S,c<128
 len:S.length≤3+11*m
 rl:rows.length≤1+2*m
theorem f9 {a b:List Nat}(ha:∀c∈a,c<128)(hb:∀c∈b,c<128):∀c∈a++b,c<128:=fun c hc=>by
 rcases Qu.mp hc with hc|hc
 ·exact ha c hc
 ·exact hb c hc
noncomputable def ml:List (List Nat):=[[],[32,32],[9]]
theorem bd0 (p:Nat):∀a∈ml,Bd p (a++[120]) [(p,0)] 0 0:=by
 unfold ml
 refine Qx.mpr ⟨?_,Qx.mpr ⟨?_,Qx.mpr ⟨?_,Zz _⟩⟩⟩
 ·exact⟨rfl,fun rest br' _ g=>bh rfl g,fun R=>rfl,by decide,by decide,Zv _⟩
 ·exact⟨rfl,fun rest br' _ g=>bh rfl (bh rfl (bh rfl g)),fun R=>rfl,by decide,by decide,Zv _⟩
 ·exact⟨rfl,fun rest br' _ g=>bh rfl (bh rfl g),fun R=>rfl,by decide,by decide,Zv _⟩
theorem nw {S w:List Nat}{t:St}(h:un2 (scan st0 (S.map tr))=t)(hw:∃c r,w=c::r∧tr c≠34∧tr c≠39∧c≠39):scan st0 ((S++w).map tr)=scan t (w.map tr):=by
 obtain⟨c,r,rfl,h1,h2,_⟩:=hw
 rw[List.map_append,aV,←h,List.map_cons]
 exact (qm _ h1 h2 _).symm
theorem Bd.add {p:Nat}{S:List Nat}{rows:List (Nat×Nat)}{lv m:Nat}(h:Bd p S rows lv m){w:List Nat}{add:Nat→Nat→List (Nat×Nat)}{f:Nat→Nat}{z:Nat}(k:Pok w add f z)(hz:z≤lv)(ha:(add (p+S.length) lv).length≤2) :
  Bd p (S++w) (rows++add (p+S.length) lv) (f lv) (m+1):=by
 refine⟨?_,fun rest br' hq g=>?_,fun R=>?_,f9 h.low k.low,?_,?_⟩
 ·rw[nw h.sc k.hd,k.sc _ _ _ hz,cu]
 ·rw[Qv]
  refine h.pc _ _ ?_ (k.pb _ _ _ _ _ hq ?_)
  ·obtain⟨c,t,rfl,_,_,hc⟩:=k.hd
   intro e;exact hc (Option.some.inj e)
  ·rw[Nat.add_assoc,←Qj];exact g
 ·rw[Qv];exact h.jk _
 ·rw[Qj];have:=h.len;have:=k.len;exact R501 ‹_› this
 ·rw[Qj];have:=h.rl;exact R500 ha this
structure Ed (p:Nat)(T:List Nat)(rows:List (Nat×Nat))(wh:Bool):Prop where
 sc:if wh=true then scan st0 (T.map tr)=⟨.N,0,nls T,[0,nls T]⟩ else (scan st0 (T.map tr)).gd=[0]
 pc:B T p 0 [(p,0)] rows
 jk:∀R,Re.junkB (T++R)=false
 low:∀c∈T,c<128
 ends:T.getLast?=some 10
 pos:0<nls T
theorem Bd.fin {p:Nat}{S:List Nat}{rows:List (Nat×Nat)}{lv m:Nat}(h:Bd p S rows lv m){w:List Nat}{add:List (Nat×Nat)}{wh:Bool}(hw:∃c r,w=c::r∧tr c≠34∧tr c≠39∧c≠39)(hp:∀p n br,B w p n br (br++(if add=[] then [] else [(p+1,n+1),(p+w.length,n)])))
  (ha:add=if add=[] then [] else [(p+S.length+1,lv+1),(p+S.length+w.length,lv)]) (hs:∀ln,if wh=true then lv=0∧scan ⟨.N,0,ln,[0]⟩ (w.map tr)=⟨.N,0,ln+nls w,[0,ln+nls w]⟩ else (scan ⟨.N,lv,ln,[0]⟩ (w.map tr)).gd=[0])
  (hl:∀c∈w,c<128) (he:w.getLast?=some 10) (hn:0<nls w):Ed p (S++w) (rows++add) wh:=by
 refine⟨?_,?_,fun R=>?_,f9 h.low hl,?_,?_⟩
 ·rw[nw h.sc hw,cu]
  have:=hs (nls S)
  cases wh with
  |true=>
   obtain⟨rfl,e⟩:=this
   exact e
  |false=>exact this
 ·refine h.pc _ _ ?_ ?_
  ·obtain⟨c,t,rfl,_,_,hc⟩:=hw
   intro e;exact hc (Option.some.inj e)
  ·rw[ha]
   have:=hp (p+S.length) lv rows
   exact this
 ·rw[Qv];exact h.jk _
 ·rw[Qb,he];rfl
 ·rw[cu];exact R499 hn
theorem jW {x:Str}{l S J:List Nat}{rows:List (Nat×Nat)}(hst:stm x=(l.length,l.length+S.length))(hx:sg x=l++(S++J))(g:B S l.length 0 [(l.length,0)] rows):iW x rows:=by
 intro s hr hp
 rw[hst] at hr hp
 have hq:l.length+S.length≤x.length:=by rw[←aE,hx];simp only[Qj];exact R498
 have h2:ar x (l.length+S.length) l.length=S:=by
  unfold ar
  rw[hx,←Qv,←Qj,List.take_left,List.drop_left]
 exact g x (l.length+S.length) (L0 l.length) hq rfl (Nat.le_add_right ..) h2 rfl rfl s hr hp
theorem rt {x:Str}{l gd T J:List Nat}{rows:List (Nat×Nat)}{wh:Bool}(hl:Cl l gd)(h:Ed l.length T rows wh)(hJ:JkOk J)(hx:sg x=l++(T++if wh=true then J else [])):iW x rows:=by
 have hs:=h.sc
 cases wh with
 |true=>
  have hx:sg x=l++(T++J):=hx
  exact jW (pD hl hx ⟨hs,rfl,.inr h.ends⟩ hJ (h.jk J)).1 hx h.pc
 |false=>
  have hx:sg x=l++(T++[]):=hx
  have hn:=h.jk []
  rw[Zg] at hn
  exact jW (oP hl (by rw[hx,Zg]) ⟨hs,h.pos⟩ h.ends hn) hx h.pc
noncomputable def junk2:List (List Nat):=[[],[10],[32,32,35,120,40,10],[10,9,10],[35,41,10]]
noncomputable def whole2:List (List Nat):=[[],[117,32,61,32,40,49,41,10],[10,35,32,118,10],[39,39,39,119,10,39,39,39,10]]
noncomputable def clB (S gd:List Nat):Bool:=decide (scan st0 (S.map tr)=⟨.N,0,nls S,gd⟩)&&gd.getLast?==some (nls S)&&(S==[]||S.getLast?==some 10)
theorem sO {S gd:List Nat}(h:clB S gd=true):Cl S gd:=by
 simp only[clB,Xv,decide_eq_true_eq,beq_iff_eq,Bool.or_eq_true] at h
 exact⟨h.1.1,h.1.2,h.2⟩
noncomputable def jkB (J:List Nat):Bool:=clB J (List.range (nls J+1))&&(List.range (nls J)).all fun t=>Re.junkB (J.drop (au J t))
theorem xv {J:List Nat}(h:jkB J=true):JkOk J:=by
 simp only[jkB,Xv,Xu] at h
 exact⟨sO h.1,fun t ht=>h.2 t (List.mem_range.mpr ht)⟩
theorem xV:(junk2.all fun J=>jkB J&&decide (J.length≤6)&&J.all fun c=>decide (c<128))=true:=by decide +kernel
theorem x5:(whole2.all fun W=>clB W (scan st0 (W.map tr)).gd&&decide (W.length≤9)&&W.all fun c=>decide (c<128))=true:=by decide +kernel
theorem xD {p:Nat}{S:List Nat}{rows:List (Nat×Nat)}{lv m:Nat}(h:Bd p S rows lv m):Ed p (S++[10]) rows (lv==0):=by
 have:=h.fin (w:=[10]) (add:=[]) (wh:=lv==0) ⟨_,_,rfl,by decide,by decide,by decide⟩ (fun p n br=>bh rfl (by rw[if_pos rfl,Zg];exact nS)) rfl (fun ln=>by
  cases lv with
  |zero=>exact⟨rfl,rfl⟩
  |succ k=>rfl) (by decide) rfl (by decide)
 rwa [Zg] at this
theorem wH {p:Nat}{S:List Nat}{rows:List (Nat×Nat)}{lv m:Nat}(h:Bd p S rows lv m):Ed p (S++[92,10]) rows false:=by
 have:=h.fin (w:=[92,10]) (add:=[]) (wh:=false) ⟨_,_,rfl,by decide,by decide,by decide⟩ (fun p n br=>nE (by rw[if_pos rfl,Zg];exact nS)) rfl (fun ln=>rfl) (by decide) rfl (by decide)
 rwa [Zg] at this
theorem vb {p:Nat}{S:List Nat}{rows:List (Nat×Nat)}{lv m:Nat}(h:Bd p S rows lv m):Ed p (S++[32,35,91,32,121,10]) (rows++[(p+S.length+1,lv+1),(p+S.length+6,lv)]) (lv==0):=
 h.fin (w:=[32,35,91,32,121,10]) (wh:=lv==0) ⟨_,_,rfl,by decide,by decide,by decide⟩ (fun p n br=>bh rfl (rn (w:=[91,32,121]) (rest:=[]) rfl (by rw[if_neg (by simp)];exact nS))) (by rw[if_neg (by simp)];rfl) (fun ln=>by
  cases lv with
  |zero=>exact⟨rfl,rfl⟩
  |succ k=>rfl) (by decide) rfl (by decide)
theorem t7 {p:Nat}{S:List Nat}{rows:List (Nat×Nat)}{lv m:Nat}(h:Bd p S rows lv m):Ed p (S++[44,39,39,39,40,10]) (rows++[(p+S.length+1,lv+1),(p+S.length+6,lv)]) false:=
 h.fin (w:=[44,39,39,39,40,10]) (wh:=false) ⟨_,_,rfl,by decide,by decide,by decide⟩ (fun p n br=>bh rfl (iC (k:=5) (r:=[39,39,40,10]) (by decide) (by decide) rfl (by rw[if_neg (by simp)];exact nS))) (by rw[if_neg (by simp)];rfl) (fun ln=>rfl) (by decide) rfl (by decide)
theorem xm {c:aa}(W:Wf c){t:Nat}(ht:t∉dom c)(acc:List D):Wf (c++[(t,.list acc)]):=by
 refine⟨?_,?_⟩
 ·rw[celW_iff]
  intro p hp
  rcases Qu.mp hp with hp|hp
  ·obtain⟨o,h1,h2⟩:=celW_iff.mp W.w p hp
   have hm:=ah h1
   exact⟨o,by rw[aD ht,if_neg (fun e:p.1=t=>ht (by simp only[←e];exact hm))];exact h1,eC (fun j hj=>by rw[af];exact List.mem_append_left _ hj) h2⟩
  ·have e:p=(t,.list acc):=by simpa using hp
   subst e;exact⟨.list acc,by rw[aD ht,if_pos rfl],rfl⟩
 ·rw[af,List.nodup_append]
  refine⟨W.nd,by simp,fun a ha b hb e=>ht ?_⟩
  have:b=t:=by simpa using hb
  simp only[←this,←e];exact ha
theorem nF {C:Addr}{c:aa}{k dk:Nat}{fs:List (Str×V)}(p:ParAt C c k dk fs){t:Nat}(ht:t∉dom c)(acc:List D):ParAt C (c++[(t,.list acc)]) k dk fs:=by
 have h1:k≠t:=fun e=>ht (e▸ah p.k_)
 have h2:dk≠t:=fun e=>ht (e▸ah p.d_)
 exact⟨xm p.w ht acc,by rw[aD ht,if_neg h1];exact p.k_,by rw[aD ht,if_neg h2];exact p.d_,p.no⟩
def far (g b A B Z:Nat)(c:aa):Prop:=g∉dom c∧b∉dom c∧A∉dom c∧B∉dom c∧Z∉dom c
theorem nk:∀rows:List (Nat×Nat),PyData.canLayAll0 (pys (brD rows))=true∧PyData.depthAll (pys (brD rows))≤1∧PySem.SeqAt.noMixAll (pys (brD rows)) (pys (brD rows))=true∧PySem.Spec.sameAll (pys (brD rows)) (pys (brD rows))=true
 | []=>⟨rfl,Zj _,rfl,rfl⟩
 | (a,b)::r=>by
  obtain⟨h1,h2,h3,h4⟩:=nk r
  refine⟨?_,?_,?_,?_⟩
  ·show ((true&&(true&&true))&&PyData.canLayAll0 (pys (brD r)))=true
   rw[h1];rfl
  ·show max (max 0 (max 0 0)+1) (PyData.depthAll (pys (brD r)))≤1
   exact R459 h2
  ·show ((true&&(true&&true))&&PySem.SeqAt.noMixAll (pys (brD r)) (pys (brD r)))=true
   rw[h3];rfl
  ·show (((((a:Nat):Int)==(a:Nat))&&((((b:Nat):Int)==(b:Nat))&&true))&&PySem.Spec.sameAll (pys (brD r)) (pys (brD r)))=true
   rw[h4,beq_self_eq_true,beq_self_eq_true];rfl
theorem u4 {c:aa}(rows:List (Nat×Nat)){K:Bool→Prop}(h:K false):fA c .NotEq (.d (.lst [.tup (brD rows),.tup (brD rows)])) (.d (.lst [.tup (brD rows),.tup (brD rows)])) K:=by
 obtain⟨h1,h2,h3,h4⟩:=nk rows
 refine⟨?_,?_,?_,?_⟩
 ·show ((PyData.canLayAll0 (pys (brD rows))&&(PyData.canLayAll0 (pys (brD rows))&&true))&&decide (max (PyData.depthAll (pys (brD rows))+1) (max (PyData.depthAll (pys (brD rows))+1) 0)+1≤64))=true
  rw[h1,decide_eq_true (R458 h2)];rfl
 ·show ((PyData.canLayAll0 (pys (brD rows))&&(PyData.canLayAll0 (pys (brD rows))&&true))&&decide (max (PyData.depthAll (pys (brD rows))+1) (max (PyData.depthAll (pys (brD rows))+1) 0)+1≤64))=true
  rw[h1,decide_eq_true (R458 h2)];rfl
 ·show (PySem.SeqAt.noMixAll (pys (brD rows)) (pys (brD rows))&&(PySem.SeqAt.noMixAll (pys (brD rows)) (pys (brD rows))&&true))=true
  rw[h3];rfl
 ·show K (!(PySem.Spec.sameAll (pys (brD rows)) (pys (brD rows))&&(PySem.Spec.sameAll (pys (brD rows)) (pys (brD rows))&&true)))
  rw[h4];exact h
noncomputable abbrev cp (rest:List Int) (t:aa):aa:=(233011,.list (rest.map .int))::t
noncomputable abbrev tB (rows:List (Nat×Nat)):aa:=[(235011,.list (brD rows))]
structure L2Ok (P:Pm):Prop where
 C:P.C=243
 dr:P.isFn 254=true
 drS:P.fn 254=e5
 st:P.isFn 156=true
 stS:P.fn 156=jN P.C
 rw_:P.isFn 240=true
 rwS:P.fn 240=e8 P.C 51037 52020 148016 149021 150021
 ini:P.fn P.init=gU P.C
noncomputable def bY (l:List (List Nat)):D:=.lst (l.map fun s=>.str ⟨s.toArray⟩)
theorem fg (a b:Str):sg (a++b)=sg a++sg b:=by
 show (a.cps++b.cps).toList=_
 rw[Array.toList_append]
theorem iV (l:List Nat):sg ⟨l.toArray⟩=l:=rfl
theorem ja (x y:Str):(x++y).length=x.length+y.length:=by rw[←aE,←aE,←aE,fg,Qj]
noncomputable abbrev S5 (s:List Nat):Str:=⟨s.toArray⟩
noncomputable abbrev fQ (b:Nat):IE:=.call (.g (.val (.ref 254))) [(.v 8),(.c (.int (b:Nat)))] none
theorem wfA (rest:List Int):Wf (cp rest []):=⟨⟨⟨_,rfl,rfl⟩,trivial⟩,(by decide:[233011].Nodup)⟩
theorem wfB (rows:List (Nat×Nat))(rest:List Int):Wf (cp rest (tB rows)):=⟨⟨⟨_,rfl,rfl⟩,⟨_,rfl,rfl⟩,trivial⟩,(by decide:[233011,235011].Nodup)⟩
section
variable {P:Pm}{pr:List Nat}{n:Nat}{l:Sl}{rest:List Int}{t:aa}
theorem s7 {u:V}{c:aa}(K':V→aa→Prop)(h:K' u c):wpE P (n+1) (.g u) l c K':=h
theorem fk (L:L2Ok P){b:Nat}(hb:0<b)(h8:aF l 8=some (.obj 233011))(W:∀rest,Wf (cp rest t))(hr:rest.length≤63) :
  ∃(v:Nat) (rest':List Int),v<b∧rest'.length≤63∧∀K':V→aa→Prop,K' (.d (.int (v:Nat))) (cp rest' t)→wpE P (n+4) (fQ b) l (cp rest t) K':=by
 have go:∀K':V→aa→Prop,e5 [.obj 233011,.d (.int (b:Nat))] (cp rest t) (fun v c'=>eJ (cp rest t) c'∧K' v c')→wpE P (n+4) (fQ b) l (cp rest t) K':=fun K' h=>by
  refine eQ (n:=n) (u:=.val (.ref 254)) (v1:=.obj 233011) (v2:=.d (.int (b:Nat))) (fun K' h=>h) (bD h8) (fun K' h=>h) ⟨L.dr,?_⟩
  rw[L.drS];exact h
 have hbig:rest.length≤big:=by unfold big;exact R457 hr
 cases rest with
 |nil=>exact⟨0,[],hb,Zj _,fun K' h=>go K' ⟨233011,[],b,rfl,W [],rfl,by exact R454 hb,by decide,.inl ⟨rfl,fun j hj=>hj,h⟩⟩⟩
 |cons a r=>
  obtain⟨h1,h2⟩:=uW a (m:=(b:Int)) (R456 hb)
  refine⟨(a.fmod b).toNat,r,by exact R455 hb h2,Nat.le_of_succ_le hr,fun K' h=>go K' ⟨233011,a::r,b,rfl,W _,rfl,by exact R454 hb,hbig,.inr ⟨a,r,rfl,fun j hj=>hj,?_⟩⟩⟩
  rw[show ((a.fmod b).toNat:Int)=a.fmod b by exact R453 h1] at h
  exact h
theorem u9 {t:List (List Nat)}{i:Nat}{s:List Nat}(h:t[i]?=some s):(t.map fun s=>D.str ⟨s.toArray⟩)[i]?=some (.str (S5 s)):=by rw[Xy,h];rfl
theorem fw {c:aa}{t:List (List Nat)}{i:Nat}{s:List Nat}(h:t[i]?=some s)(hl:t.length≤100){K:D→Prop}(hK:K (.str (S5 s))):ef c (.d (bY t)) (.d (.int (i:Nat))) K:=
 n6 (Int.natCast_nonneg _) (by rw[Int.toNat_natCast];exact u9 h) (by rw[Zu];unfold big;exact R449 hl) hK
theorem wM (L:L2Ok P)(h8:aF l 8=some (.obj 233011))(W:∀rest,Wf (cp rest t))(hr:rest.length≤63)(tb:List (List Nat)){b:Nat}(hb:tb.length=b)(h0:0<b)(h1:b≤100){e:IE}(he:∀K':V→aa→Prop,K' (.d (bY tb)) (cp rest t)→wpE P (n+4) e l (cp rest t) K') :
  ∃(s:List Nat) (rest':List Int),s∈tb∧rest'.length≤63∧∀K':V→aa→Prop,K' (.d (.str (S5 s))) (cp rest' t)→wpE P (n+5) (.item e (fQ b)) l (cp rest t) K':=by
 obtain⟨v,rest',hv,hr',go⟩:=fk (n:=n) L h0 h8 W hr
 obtain⟨s,hs⟩:∃s,tb[v]?=some s:=⟨_,Qk (R452 hb hv)⟩
 refine⟨s,rest',Qg hs,hr',fun K' h=>?_⟩
 rw[sM]
 exact he _ (go _ (fw hs (R451 hb h1) h))
theorem er {c:aa}{x y:Str}{K:D→Prop}(hl:x.length+y.length≤big)(h:K (.str (x++y))):ip c .Add (.d (.str x)) (.d (.str y)) K:=⟨hl,h⟩
theorem gj {c:aa}{x:Str}(h9:aF l 9=some (.d (.str x)))(hl:x.length≤1000)(K':V→aa→Prop)(h:K' (.d (.int (x.length:Nat))) c):wpE P (n+3) (.call (.g (.bi .len)) [(.v 9)] none) l c K':=by
 rw[dL]
 refine s7 (n:=n+1) _ ?_
 rw[aQ]
 exact bD (n:=n) h9 _ ⟨by unfold big;exact R450 hl,h⟩
theorem dZ {e1 e2:IE}{rows:List (Nat×Nat)}{a b:Nat}{r:List IS}{K:F→Sg'→Prop}(h10:aF l 10=some (.obj 235011))(hl:rows.length≤100)
  (he1:∀K':V→aa→Prop,K' (.d (.int (a:Nat))) (cp rest (tB rows))→wpE P (n+2) e1 l (cp rest (tB rows)) K') (he2:∀K':V→aa→Prop,K' (.d (.int (b:Nat))) (cp rest (tB rows))→wpE P (n+1) e2 l (cp rest (tB rows)) K')
  (h:wpB P pr (n+7) r ⟨l,cp rest (tB (rows++[(a,b)]))⟩ K):wpB P pr (n+8) (.expr (.meth (.v 10) .append [(.tup [e1,e2])])::r) ⟨l,cp rest (tB rows)⟩ K:=by
 refine d7 (n:=n+6) (.d .none) (c':=cp rest (tB (rows++[(a,b)]))) (fun K' hK=>?_) h
 refine jY (n:=n+3) (u:=.obj 235011) (v1:=.d (.tup [.int (a:Nat),.int (b:Nat)])) (bD h10) ⟨rfl,trivial⟩ (fun K' h=>fY (n:=n) he1 he2 h) ⟨rfl,?_⟩
 show (brD rows).length≤big∧K' (.d .none) (cp rest [(235011,.list (brD rows++[.tup [.int (a:Nat),.int (b:Nat)]]))])
 refine⟨by rw[fZ];unfold big;exact R449 hl,?_⟩
 have e:brD rows++[D.tup [.int (a:Nat),.int (b:Nat)]]=brD (rows++[(a,b)]):=by simp[brD]
 rw[e];exact hK
theorem tN {a b:IE}{c:aa}{K:Bool→aa→Prop}:wpT P (n+1) (.and a b) l c K=wpT P n a l c fun r c1=>(r=false→K false c1)∧(r=true→wpT P n b l c1 K):=rfl
theorem s8 (a b:Nat):(((a:Nat):Int)==(b:Nat))=(a==b):=by
 by_cases h:a=b
 ·rw[beq_iff_eq.mpr h,beq_iff_eq.mpr (by rw[h])]
 ·rw[beq_eq_false_iff_ne.mpr h,beq_eq_false_iff_ne.mpr (fun e=>h (R448 e))]
theorem lt_int (a b:Nat):decide (((a:Nat):Int)<(b:Nat))=decide (a<b):=decide_eq_decide.mpr Int.ofNat_lt
theorem ltT {i v b:Nat}{c:aa}(hi:aF l i=some (.d (.int (v:Nat)))){q:Bool}(e:q=decide (v<b))(K':Bool→aa→Prop)(h:K' q c):wpT P (n+2) (.cmp .Lt (.v i) (.c (.int (b:Nat)))) l c K':=
 b6 (n:=n+1) (.d (.int (v:Nat))) (.d (.int (b:Nat))) (bD hi) (fun K' h=>h) (by show K' (decide (((v:Nat):Int)<(b:Nat))) c;rw[lt_int,←e];exact h)
theorem gtT {i v b:Nat}{c:aa}(hi:aF l i=some (.d (.int (v:Nat)))){q:Bool}(e:q=decide (b<v))(K':Bool→aa→Prop)(h:K' q c):wpT P (n+2) (.cmp .Gt (.v i) (.c (.int (b:Nat)))) l c K':=
 b6 (n:=n+1) (.d (.int (v:Nat))) (.d (.int (b:Nat))) (bD hi) (fun K' h=>h) (by show K' (decide (((b:Nat):Int)<(v:Nat))) c;rw[lt_int,←e];exact h)
theorem eqT {i v b:Nat}{c:aa}(hi:aF l i=some (.d (.int (v:Nat)))){q:Bool}(e:q=(v==b))(K':Bool→aa→Prop)(h:K' q c):wpT P (n+2) (.cmp .Eq (.v i) (.c (.int (b:Nat)))) l c K':=
 b6 (n:=n+1) (.d (.int (v:Nat))) (.d (.int (b:Nat))) (bD hi) (fun K' h=>h) (by show K' (((v:Nat):Int)==(b:Nat)) c;rw[s8,←e];exact h)
theorem xR {a b:IE}{c:aa}{p q:Bool}(ha:∀K':Bool→aa→Prop,K' p c→wpT P n a l c K')(hb:∀K':Bool→aa→Prop,K' q c→wpT P n b l c K')(K':Bool→aa→Prop)(h:K' (p&&q) c):wpT P (n+1) (.and a b) l c K':=by
 rw[tN]
 exact ha _ ⟨fun e=>by rw[e] at h;exact h,fun e=>hb _ (by rw[e] at h;exact h)⟩
theorem tOr {a b:IE}{c:aa}{p q:Bool}(ha:∀K':Bool→aa→Prop,K' p c→wpT P n a l c K')(hb:∀K':Bool→aa→Prop,K' q c→wpT P n b l c K')(K':Bool→aa→Prop)(h:K' (p||q) c):wpT P (n+1) (.or a b) l c K':=by
 rw[rS]
 exact ha _ ⟨fun e=>by rw[e] at h;exact h,fun e=>hb _ (by rw[e] at h;exact h)⟩
end
noncomputable abbrev eL:IE:=.call (.g (.bi .len)) [(.v 9)] none
noncomputable abbrev kE (a b:IE):IS:=.expr (.meth (.v 10) .append [(.tup [a,b])])
noncomputable def jy:List IS:=[
  .asg 15 (fQ 22),
  .if_ (.cmp .Lt (.v 15) (.c (.int (4:Nat)))) [
   .asg 11 (.bin .Add (.v 11) (.c (.int 1))),
   .asg 9 (.bin .Add (.v 9) (.item (.v 2) (.v 15))),
   kE (.bin .Sub eL (.c (.int 1))) (.v 11)] [
   .if_ (.cmp .Lt (.v 15) (.c (.int (8:Nat)))) [
    .asg 11 (.call (.g (.bi .max)) [(.bin .Sub (.v 11) (.c (.int 1))),(.c (.int 0))] none),
    .asg 9 (.bin .Add (.v 9) (.item (.v 3) (.bin .Sub (.v 15) (.c (.int 4))))),
    kE eL (.v 11)] [
    .if_ (.or (.cmp .Lt (.v 15) (.c (.int (13:Nat)))) (.and (.cmp .Lt (.v 15) (.c (.int (15:Nat)))) (.cmp .Gt (.v 11) (.c (.int (0:Nat)))))) [
     kE (.bin .Add eL (.c (.int 1))) (.bin .Add (.v 11) (.c (.int 1))),
     .asg 9 (.bin .Add (.v 9) (.item (.bin .Add (.v 4) (.v 5)) (.bin .Sub (.v 15) (.c (.int 8))))),
     kE eL (.v 11)] [
     .if_ (.and (.cmp .Eq (.v 15) (.c (.int (15:Nat)))) (.cmp .Gt (.v 11) (.c (.int (0:Nat))))) [
      .asg 9 (.bin .Add (.v 9) (.c (.str ⟨#[10]⟩)))] [
      .asg 9 (.bin .Add (.v 9) (.item (.v 6) (.bin .Mod (.v 15) (.c (.int 7)))))]]]]]
noncomputable abbrev sl2 (a0:D) (x:Str) (lv last:Nat) (beh:Str) (r14 r15:Option V):Sl:=[some (.d a0),some (.d (bY whole2)),some (.d (bY rising2)),some (.d (bY falling2)),some (.d (bY things2)),some (.d (bY ce)),some (.d (bY plain2)),some (.d (bY junk2)),
 some (.obj 233011),some (.d (.str x)),some (.obj 235011),some (.d (.int (lv:Nat))),some (.d (.int (last:Nat))),some (.d (.str beh)),r14,r15,none,none]
section
variable {P:Pm}{pr:List Nat}{N:Nat}{rest:List Int}
theorem qV (L:L2Ok P)(hr:rest.length≤63){W S:List Nat}{x beh:Str}{rows:List (Nat×Nat)}{lv last m:Nat}(hx:sg x=W++S)(hW:W.length≤9)(hm:m≤12)(h:Bd W.length S rows lv m){a0:D}{r14 r15:Option V}{K:F→Sg'→Prop}
  (hK:∀x' lv' rest' rows' v S',sg x'=W++S'→Bd W.length S' rows' lv' (m+1)→rest'.length≤63→K .next ⟨sl2 a0 x' lv' last beh r14 (some (.d (.int (v:Nat)))),cp rest' (tB rows')⟩) :
  wpB P pr (N+60) jy ⟨sl2 a0 x lv last beh r14 r15,cp rest (tB rows)⟩ K:=by
 unfold jy
 obtain⟨v,rest1,hv,q1,g1⟩:=fk (n:=N+54) (l:=sl2 a0 x lv last beh r14 r15) (b:=22) L (by decide) rfl (wfB rows) hr
 refine bQ (n:=N+58) (.d (.int (v:Nat))) (c':=cp rest1 (tB rows)) g1 ?_
 have hS:=h.len
 have hrl:=h.rl
 have xl:x.length=W.length+S.length:=by rw[←aE,hx,Qj]
 have hxs:∀w,sg (x++S5 w)=W++(S++w):=fun w=>by rw[fg,hx,iV,Qv]
 have hxl:∀w,(x++S5 w).length=W.length+S.length+w.length:=fun w=>by rw[ja,xl];rfl
 have big1:∀w:List Nat,w.length≤11→x.length+(S5 w).length≤big:=fun w hw=>by have:(S5 w).length=w.length:=rfl;unfold big;exact R472 hW hm hS xl hw
 refine a9 (n:=N+57) (decide (v<4)) (c':=cp rest1 (tB rows)) (ltT (n:=N+55) rfl rfl) ?_
 by_cases h4:v<4
 ·rw[decide_eq_true h4]
  obtain⟨w,hw⟩:∃w,rising2[v]?=some w:=⟨_,Qk (show v<rising2.length from h4)⟩
  have k:=oJ w (Qg hw)
  have hp:0<w.length:=by obtain⟨c,t,e,_⟩:=k.hd;rw[e];exact Nat.succ_pos _
  refine ao (n:=N+55) (.d (.int ((lv+1:Nat):Nat))) (fun K' h=>h) ?_
  refine ao (n:=N+54) (.d (.str (x++S5 w))) (fun K' h=>?_) ?_
  ·exact bJ (n:=N+53) (.d (.str x)) (.d (.str (S5 w))) (fun K' h=>h) (fun K' h=>bd (n:=N+52) (.d (bY rising2)) (.d (.int (v:Nat))) (fun K' h=>h) (fun K' h=>h) (fw hw (by decide) h)) (er (big1 w k.len) h)
  refine dZ (n:=N+47) (a:=W.length+S.length+w.length-1) (b:=lv+1) rfl (R466 hm hrl) (fun K' h=>?_) (fun K' h=>h) (al (n:=N+53) (al (n:=N+57) ?_))
  ·refine bJ (n:=N+48) (.d (.int ((x++S5 w).length:Nat))) (.d (.int 1)) (gj (n:=N+45) rfl (by rw[hxl];have:=k.len;exact R462 hW hm hS this)) (fun K' h=>h) ?_
   show K' (.d (.int ((((x++S5 w).length:Nat):Int)-1))) _
   rw[hxl,show (((W.length+S.length+w.length:Nat):Int)-1)=((W.length+S.length+w.length-1:Nat):Int) by exact R471 hp];exact h
  ·exact hK _ _ _ _ _ _ (hxs w) (h.add k (Zj _) (by show 1≤2;decide)) q1
 rw[decide_eq_false h4]
 refine a9 (n:=N+55) (decide (v<8)) (c':=cp rest1 (tB rows)) (ltT (n:=N+53) rfl rfl) ?_
 by_cases h8:v<8
 ·rw[decide_eq_true h8]
  obtain⟨w,hw⟩:∃w,falling2[v-4]?=some w:=⟨_,Qk (show v-4<falling2.length by show v-4<4;exact R470 h8)⟩
  have k:=mD w (Qg hw)
  refine ao (n:=N+53) (.d (.int ((lv-1:Nat):Nat))) (fun K' h=>?_) ?_
  ·show K' (.d (.int (if (0:Int) > ((lv:Nat):Int)-1 then 0 else ((lv:Nat):Int)-1))) _
   rw[show (if (0:Int) > ((lv:Nat):Int)-1 then 0 else ((lv:Nat):Int)-1)=((lv-1:Nat):Int) by split<;>omega];exact h
  refine ao (n:=N+52) (.d (.str (x++S5 w))) (fun K' h=>?_) ?_
  ·refine bJ (n:=N+51) (.d (.str x)) (.d (.str (S5 w))) (fun K' h=>h) (fun K' h=>bd (n:=N+50) (.d (bY falling2)) (.d (.int ((v-4:Nat):Nat))) (fun K' h=>h) (fun K' h=>?_) (fw hw (by decide) h)) (er (big1 w k.len) h)
   show K' (.d (.int (((v:Nat):Int)-4))) _
   rw[show ((v:Nat):Int)-4=((v-4:Nat):Int) by exact R469 h4];exact h
  refine dZ (n:=N+45) (a:=W.length+S.length+w.length) (b:=lv-1) rfl (R466 hm hrl) (fun K' h=>?_) (fun K' h=>h) (al (n:=N+51) (al (n:=N+55) (al (n:=N+57) ?_)))
  ·rw[←hxl] at h;exact gj (n:=N+44) rfl (by rw[hxl];have:=k.len;exact R462 hW hm hS this) _ h
  ·exact hK _ _ _ _ _ _ (hxs w) (h.add k (Zj _) (by show 1≤2;decide)) q1
 rw[decide_eq_false h8]
 refine a9 (n:=N+53) (decide (v<13)||(decide (v<15)&&decide (0<lv))) (c':=cp rest1 (tB rows)) (tOr (n:=N+52) (ltT (n:=N+50) rfl rfl) (xR (n:=N+51) (ltT (n:=N+49) rfl rfl) (gtT (n:=N+49) rfl rfl))) ?_
 cases hc:(decide (v<13)||(decide (v<15)&&decide (0<lv))) with
 |true=>
  simp only[Bool.or_eq_true,Xv,decide_eq_true_eq] at hc
  obtain⟨w,hw⟩:∃w,(things2++ce)[v-8]?=some w:=⟨_,Qk (show v-8<(things2++ce).length by show v-8<7;exact R468 hc)⟩
  have k:∃z,Pok w (qQ w) id z∧z≤lv:=by
   by_cases h13:v-8<5
   ·rw[List.getElem?_append_left (show v-8<things2.length from h13)] at hw
    exact⟨0,ot w (Qg hw),Zj _⟩
   ·rw[List.getElem?_append_right (show things2.length≤v-8 from Nat.le_of_not_lt h13)] at hw
    exact⟨1,lV w (Qg hw),by exact R467 hc h13⟩
  obtain⟨z,k,hz⟩:=k
  refine dZ (n:=N+45) (a:=x.length+1) (b:=lv+1) rfl (R466 hm hrl) (fun K' h=>?_) (fun K' h=>h) ?_
  ·exact bJ (n:=N+46) (.d (.int (x.length:Nat))) (.d (.int 1)) (gj (n:=N+43) rfl (R465 hW hm hS xl)) (fun K' h=>h) h
  refine ao (n:=N+50) (.d (.str (x++S5 w))) (fun K' h=>?_) ?_
  ·refine bJ (n:=N+49) (.d (.str x)) (.d (.str (S5 w))) (fun K' h=>h) (fun K' h=>bd (n:=N+48) (.d (bY (things2++ce))) (.d (.int ((v-8:Nat):Nat))) (fun K' h=>?_) (fun K' h=>?_) (fw hw (by decide) h)) (er (big1 w k.len) h)
   ·exact bJ (n:=N+47) (.d (bY things2)) (.d (bY ce)) (fun K' h=>h) (fun K' h=>h) ⟨by show 5+2≤big;decide,h⟩
   ·show K' (.d (.int (((v:Nat):Int)-8))) _
    rw[show ((v:Nat):Int)-8=((v-8:Nat):Int) by exact R464 h8];exact h
  refine dZ (n:=N+43) (a:=W.length+S.length+w.length) (b:=lv) rfl (by rw[Qj];show rows.length+1≤100;exact R463 hm hrl) (fun K' h=>?_) (fun K' h=>h) (al (n:=N+49) (al (n:=N+53) (al (n:=N+55) (al (n:=N+57) ?_))))
  ·rw[←hxl] at h;exact gj (n:=N+42) rfl (by rw[hxl];have:=k.len;exact R462 hW hm hS this) _ h
  ·rw[xl,Qv]
   exact hK _ _ _ _ _ _ (hxs w) (h.add k hz (by show 2≤2;decide)) q1
 |false=>
  simp only[Bool.or_eq_false_iff,Bool.and_eq_false_iff,decide_eq_false_iff_not] at hc
  refine a9 (n:=N+51) ((v==15)&&decide (0<lv)) (c':=cp rest1 (tB rows)) (xR (n:=N+50) (eqT (n:=N+48) rfl rfl) (gtT (n:=N+48) rfl rfl)) ?_
  have fin:∀w,(∃z,Pok w nG id z∧z≤lv)→K .next ⟨sl2 a0 (x++S5 w) lv last beh r14 (some (.d (.int (v:Nat)))),cp rest1 (tB rows)⟩:=fun w hk=>by
   obtain⟨z,k,hz⟩:=hk
   have:=h.add k hz (by show 0≤2;decide)
   rw[show rows++nG (W.length+S.length) lv=rows from Zg rows] at this
   exact hK _ _ _ _ _ _ (hxs w) this q1
  cases hd:((v==15)&&decide (0<lv)) with
  |true=>
   simp only[Xv,decide_eq_true_eq] at hd
   refine ao (n:=N+49) (.d (.str (x++S5 [10]))) (fun K' h=>?_) (al (n:=N+49) (al (n:=N+51) (al (n:=N+53) (al (n:=N+55) (al (n:=N+57) (fin [10] ⟨1,yr,hd.2⟩))))))
   exact bJ (n:=N+48) (.d (.str x)) (.d (.str (S5 [10]))) (fun K' h=>h) (fun K' h=>h) (er (big1 [10] (by decide)) h)
  |false=>
   obtain⟨w,hw⟩:∃w,plain2[v % 7]?=some w:=⟨_,Qk (show v % 7<plain2.length by show v % 7<7;exact R461)⟩
   have k:=qK w (Qg hw)
   refine ao (n:=N+49) (.d (.str (x++S5 w))) (fun K' h=>?_) (al (n:=N+49) (al (n:=N+51) (al (n:=N+53) (al (n:=N+55) (al (n:=N+57) (fin w ⟨0,k,Zj _⟩))))))
   refine bJ (n:=N+48) (.d (.str x)) (.d (.str (S5 w))) (fun K' h=>h) (fun K' h=>bd (n:=N+47) (.d (bY plain2)) (.d (.int ((v % 7:Nat):Nat))) (fun K' h=>h) (fun K' h=>?_) (fw hw (by decide) h)) (er (big1 w k.len) h)
   refine bJ (n:=N+46) (.d (.int (v:Nat))) (.d (.int 7)) (fun K' h=>h) (fun K' h=>h) ⟨by decide,?_⟩
   rw[show ((v:Nat):Int).fmod 7=((v % 7:Nat):Int) by rw[Int.fmod_eq_emod_of_nonneg _ (by decide)];exact R460];exact h
end
section
variable {P:Pm}{pr:List Nat}{c:aa}{A B Z k dk g b n t1:Nat}{x:Str}{fs:List (Str×V)}
theorem wX {n i j:Nat}{f:Addr}{nm:Str}{l:Sl}{c:aa}{k dk:Nat}{fs:List (Str×V)}{v:V}(hi:aF l i=some (.obj k))(hj:aF l j=some v)(hk:ae c k=some (.inst P.C dk))(hdk:ae c dk=some (.ns fs))(hno:look fs nm=none)(hf:P.isFn f=true)(K':V→aa→Prop)
  (h:P.fn f [.obj k,v] c (fun v c3=>eJ c c3∧K' v c3)):wpE P (n+3) (.umeth (.v i) f nm [(.v j)]) l c K':=by
 simp only[iL]
 refine bD (n:=n+1) hi _ ?_
 refine⟨kj hk hdk hno,?_⟩
 simp only[aQ]
 exact bD (n:=n) hj _ ⟨hf,h⟩
theorem ro {n kk:Nat}{a b:IE}{t:Option IE}{fr:List Nat}{l:Sl}{c:aa}{K:V→aa→Prop}:wpE P (n+1) (.comp a b t fr kk) l c K=wpE P n b l c (ke (wpE P n) (wpT P n) a t (fr.map (aF l)) kk K):=rfl
theorem sE {n i:Nat}{e:IE}{r:List IS}{σ:Sg'}{K:F→Sg'→Prop}:wpB P pr (n+2) (.asgC i e::r) σ K=wpE P n e σ.l σ.c fun v c1=>wpB P pr (n+1) r ⟨σ.l.set i (some v),c1⟩ K:=rfl
theorem pC {n kk:Nat}{a b t:IE}{l:Sl}{c:aa}{K:V→aa→Prop}:wpE P (n+1) (.comp2 a b t kk) l c K=wpE P n a l c (mu (wpE P n) (wpT P n) b t kk K):=rfl
theorem uN {n:Nat}{a:IE}{l:Sl}{c:aa}{K:Bool→aa→Prop}:wpT P (n+1) (.not a) l c K=wpT P n a l c fun r c1=>K (!r) c1:=rfl
theorem rs {cl:Addr}(p1:ParAt P.C (cset c dk (.ns (setd fs x))) k dk (setd fs x))(pa:ParAt P.C c k dk fs)(hm:NoM fs)(hfl:fs.length≤800)(T:TextOk x)(hbig:2*x.length+10≤big){rows:List (Nat×Nat)}(ho:iW x rows)(hfar:far g b A B Z c)(ht1:t1∉dom c)(h1g:far g b A B Z [(t1,.list [])])
  (hc:P.isFn cl=true) (hcf:P.fn cl=e8 P.C g b A B Z) {i:Nat} {l:Sl} (hi:aF l i=some (.obj k)) (K':V→aa→Prop)
  (hK':∀s,ParAt P.C (cset c dk (.ns (studied2 (setd fs x) x s))) k dk (studied2 (setd fs x) x s)→K' (.d (.lst [.tup (brD rows),.tup (brD rows)])) (cset c dk (.ns (studied2 (setd fs x) x s)))) :
  wpE P (n+37) (.comp (.umeth (.v 1) cl nIs []) (.call (.g (.bi .range)) [(.c (.int 2))] none) none [i] t1) l (cset c dk (.ns (setd fs x))) K':=by
 have hkd:k≠dk:=fun e=>by have:=pa.k_;rw[e,pa.d_] at this;simp at this
 have dkd:=ah pa.d_
 have hm1:=hm.setd x
 have F1:Fresh (setd fs x) x:=mA T (R474 hfl)
 have d1:∀f,dom (cset c dk (.ns f))=dom c:=fun f=>ai ..
 have pS:∀s,ParAt P.C (cset c dk (.ns (studied2 (setd fs x) x s))) k dk (studied2 (setd fs x) x s):=fun s=>by
  have W:=gO p1.w p1.d_ x s
  simp only[a8] at W
  exact⟨W,by rw[av dkd,if_neg hkd];exact pa.k_,by rw[av dkd,if_pos rfl],(hm1.studied2 x s) _ (by decide +kernel)⟩
 have kk1:∀f,t1∉dom (cset c dk (.ns f)):=fun f=>by rw[d1];exact ht1
 have farA:∀f acc,far g b A B Z (cset c dk (.ns f)++[(t1,.list acc)]):=fun f acc=>by
  obtain⟨a1,a2,a3,a4,a5⟩:=hfar
  obtain⟨b1,b2,b3,b4,b5⟩:=h1g
  have q:∀j,j∉dom c→j∉dom [(t1,O.list [])]→j∉dom (cset c dk (.ns f)++[(t1,.list acc)]):=fun j h1 h2 h3=>by
   rw[af,d1] at h3
   rcases Qu.mp h3 with h3|h3
   ·exact h1 h3
   ·exact h2 h3
  exact⟨q _ a1 b1,q _ a2 b2,q _ a3 b3,q _ a4 b4,q _ a5 b5⟩
 rw[ro]
 refine⟨⟨by decide,by decide,by decide,by decide⟩,[.int 0,.int 1],rfl,by decide,kk1 _,fun i acc c'=>(i=0∧acc=[]∧c'=cset c dk (.ns (setd fs x)))∨(0<i∧i≤2∧acc=List.replicate i (.tup (brD rows))∧∃s,s.br=rows∧c'=cset c dk (.ns (studied2 (setd fs x) x s))),.inl ⟨rfl,rfl,rfl⟩,?_,?_⟩
 ·rintro j d acc c' hj (⟨rfl,rfl,rfl⟩|⟨h0,hi2,rfl,s,he,rfl⟩)
  ·refine⟨kk1 _,?_⟩
   have pp:=nF p1 (kk1 _) []
   refine gp (n:=n+33) (k:=k) (dk:=dk) hi pp.k_ pp.d_ (hm1 _ (by decide +kernel)) hc _ ?_
   rw[hcf]
   refine⟨k,dk,setd fs x,rows,rfl,pp,hm1,.inr ⟨x,F1,hbig,farA _ _,ho,fun s he=>⟨fun j hj=>by rw[ai];exact hj,?_⟩⟩⟩
   have e:cset (cset c dk (.ns (setd fs x))++[(t1,.list [])]) dk (.ns (studied2 (setd fs x) x s))=cset c dk (.ns (studied2 (setd fs x) x s))++[(t1,.list [])]:=by
    rw[aX (by rw[d1];exact dkd),a8]
   exact⟨.tup (brD rows),cset c dk (.ns (studied2 (setd fs x) x s)),rfl,e,kk1 _,.inr ⟨by decide,by decide,rfl,s,he,rfl⟩⟩
  ·have hi1:j=1:=by
    have:=(Qw.mp hj).1
    have:j<2:=this
    exact R473 h0 this
   subst hi1
   refine⟨kk1 _,?_⟩
   have pp:=nF (pS s) (kk1 _) (List.replicate 1 (.tup (brD rows)))
   refine gp (n:=n+33) (k:=k) (dk:=dk) hi pp.k_ pp.d_ ((hm1.studied2 x s) _ (by decide +kernel)) hc _ ?_
   rw[hcf]
   refine⟨k,dk,_,rows,rfl,pp,hm1.studied2 x s,.inl ⟨he▸vJ _ x s,fun j hj=>hj,?_⟩⟩
   exact⟨.tup (brD rows),cset c dk (.ns (studied2 (setd fs x) x s)),rfl,rfl,kk1 _,.inr ⟨by decide,by decide,rfl,s,he,rfl⟩⟩
 ·rintro acc c' (⟨q,_⟩|⟨_,_,rfl,s,he,rfl⟩)
  ·contradiction
  ·exact⟨kk1 _,(pS s).w.drop (kk1 _),hK' s (pS s)⟩
theorem vv {z:Int}{bi:Bi}{r:Bool}(hr:tS (.int z) bi=some r){l:Sl}(h1:aF l 1=some (.d (.int z)))(K':Bool→aa→Prop)(h:K' r c):wpT P (n+5) (.call (.g (.bi .isinstance)) [(.v 1),(.g (.bi bi))] none) l c K':=by
 show wpE P (n+4) (.call (.g (.bi .isinstance)) [(.v 1),(.g (.bi bi))] none) l c (fun u c1=>bR c1 u fun r=>K' r c1)
 refine eQ (n:=n) (u:=.bi .isinstance) (v1:=.d (.int z)) (v2:=.bi bi) (s7 (n:=n+2)) (bD h1) (s7 (n:=n)) ?_
 show aw (tS (.int z) bi) _
 rw[hr];exact h
theorem xC {rows:List (Nat×Nat)}{i:Nat}{d:D}(h:(brD rows)[i]?=some d):∃a b:Nat,d=.tup [.int (a:Nat),.int (b:Nat)]:=by
 unfold brD at h
 rw[Xy] at h
 cases e:rows[i]? with
 |none=>rw[e] at h;contradiction
 |some r=>rw[e] at h;exact⟨r.1,r.2,(Option.some.inj h).symm⟩
theorem pA (W:Wf c){rows:List (Nat×Nat)}{kk:Nat}(hk:kk∉dom c){l:Sl}(h17:aF l 17=some (.d (.lst [.tup (brD rows),.tup (brD rows)])))(K':V→aa→Prop)(h:K' (.d (.bool true)) c) :
  wpE P (n+10) (.cmp .Eq (.comp2 (.item (.v 17) (.c (.int 0))) (.v 0) (.or (.call (.g (.bi .isinstance)) [(.v 1),(.g (.bi .bool))] none) (.not (.call (.g (.bi .isinstance)) [(.v 1),(.g (.bi .int))] none))) kk) (.lst [] none)) l c K':=by
 refine nv (n:=n+9) (.d (.lst [])) (.d (.lst [])) (fun K' h=>?_) (fun K' h=>⟨by decide,h⟩) ⟨rfl,rfl,rfl,h⟩
 rw[pC]
 refine bd (n:=n+7) (.d (.lst [.tup (brD rows),.tup (brD rows)])) (.d (.int 0)) (bD h17) (fun K' h=>h) ?_
 refine n6 (d:=.tup (brD rows)) (by decide) rfl (by show 2≤big;decide) ?_
 show mu (wpE P (n+8)) (wpT P (n+8)) _ _ kk _ (.d (.tup (brD rows))) c
 refine⟨(trivial:cC (.d (.tup (brD rows)))),brD rows,rfl,hk,fun i d hd=>?_,W.drop hk,h⟩
 obtain⟨a,b,rfl⟩:=xC hd
 refine bD (n:=n+7) (v:=.d (.tup [.int (a:Nat),.int (b:Nat)])) rfl _ ⟨rfl,trivial,[.int (a:Nat),.int (b:Nat)],rfl,fun j e he=>?_⟩
 have:∃z:Int,e=.int z:=by
  have:=Qg he
  simp only[Qy,List.not_mem_nil,or_false] at this
  rcases this with rfl|rfl<;>exact⟨_,rfl⟩
 obtain⟨z,rfl⟩:=this
 refine tOr (n:=n+7) (p:=false) (q:=false) (vv (n:=n+2) (z:=z) rfl rfl) (fun K' h=>?_) _ ⟨rfl,rfl⟩
 rw[uN]
 exact vv (n:=n+1) (z:=z) (r:=true) rfl rfl _ h
end
noncomputable def vC:List (List Nat):=[[],[32,35,91,32,121,10],[],[44,39,39,39,40,10]]
noncomputable abbrev wZ:IE:=.call (.g (.bi .tuple)) [(.v 10)] none
noncomputable def jK:List IS:=[
 .asg 16 (.make 243 [(.c (.int 4)),(.c (.int 8))] 0 0),
 .expr (.umeth (.v 16) 156 x6 [(.v 9)]),
 .asgC 17 (.comp (.umeth (.v 1) 240 nIs []) (.call (.g (.bi .range)) [(.c (.int 2))] none) none [16] 270011),
 .if_ (.cmp .NotEq (.v 17) (.lst [wZ,wZ] none)) [
  .ret (some (.c (.bool false)))] [],
 .ret (some (.cmp .Eq (.comp2 (.item (.v 17) (.c (.int 0))) (.v 0) (.or (.call (.g (.bi .isinstance)) [(.v 1),(.g (.bi .bool))] none) (.not (.call (.g (.bi .isinstance)) [(.v 1),(.g (.bi .int))] none))) 273011) (.lst [] none)))]
noncomputable def fu:List IS:=
 .if_ (.and (.cmp .Lt (.v 12) (.c (.int (2:Nat)))) (.cmp .Eq (.v 11) (.c (.int (0:Nat))))) [
  .asg 9 (.bin .Add (.v 9) (.v 13))] []::jK
noncomputable def mi:List IS:=
 .if_ (.or (.cmp .Eq (.v 12) (.c (.int (1:Nat)))) (.cmp .Eq (.v 12) (.c (.int (3:Nat))))) [
  kE (.bin .Add eL (.c (.int 1))) (.bin .Add (.v 11) (.c (.int 1))),
  .asg 9 (.bin .Add (.v 9) (.item (.lst [(.c (.str ⟨#[]⟩)),(.c (.str ⟨#[32,35,91,32,121,10]⟩)),(.c (.str ⟨#[]⟩)),(.c (.str ⟨#[44,39,39,39,40,10]⟩))] none) (.v 12))),
  kE eL (.v 11)] [
  .if_ (.cmp .Eq (.v 12) (.c (.int (2:Nat)))) [
   .asg 9 (.bin .Add (.v 9) (.c (.str ⟨#[92,10]⟩)))] [
   .asg 9 (.bin .Add (.v 9) (.c (.str ⟨#[10]⟩)))]]::fu
noncomputable abbrev tM (C:Addr) (rows:List (Nat×Nat)) (fs:List (Str×V)):aa:=[(235011,.list (brD rows)),(2,.ns fs),(1,.inst C 2)]
theorem xr:NoM fs0:=by intro m hm;revert m hm;decide +kernel
section
variable {P:Pm}{N:Nat}{rest:List Int}
theorem z3 (C:Addr)(rest:List Int)(rows:List (Nat×Nat)):ParAt C (cp rest (tM C rows fs0)) 1 2 fs0:=
 ⟨⟨⟨⟨_,rfl,rfl⟩,⟨_,rfl,rfl⟩,⟨_,rfl,x4 _⟩,⟨_,rfl,rfl,rfl,.tail _ (.tail _ (.head _))⟩,trivial⟩,(by decide:[233011,235011,2,1].Nodup)⟩,rfl,rfl,xr _ (by decide +kernel)⟩
theorem vo {n:Nat}{l:Sl}{c:aa}{rows:List (Nat×Nat)}(h10:aF l 10=some (.obj 235011))(hc:ae c 235011=some (.list (brD rows)))(hl:rows.length≤100)(K':V→aa→Prop)(h:K' (.d (.tup (brD rows))) c):wpE P (n+3) wZ l c K':=by
 rw[dL]
 refine s7 (n:=n+1) _ ?_
 rw[aQ]
 refine bD (n:=n) h10 _ ?_
 show aw (match ae c 235011 with|some (.list xs)=>some (false,xs)|_=>none) _
 rw[hc]
 exact⟨rfl,by rw[fZ];unfold big;exact R449 hl,h⟩
theorem uc (L:L2Ok P){x beh:Str}{rows:List (Nat×Nat)}{lv last:Nat}(T:TextOk x)(hbig:2*x.length+10≤big)(ho:iW x rows)(hrl:rows.length≤100){a0:D}{K:F→Sg'→Prop}(hK:∀l c,K (.ret (.d (.bool true))) ⟨l,c⟩) :
  wpB P [] (N+98) jK ⟨sl2 a0 x lv last beh none none,cp rest (tB rows)⟩ K:=by
 unfold jK
 refine bQ (n:=N+96) (.obj 1) (c':=cp rest (tM P.C rows fs0)) (fun K' h=>?_) ?_
 ·refine⟨L.C.symm,?_⟩
  show ∃k dk,_
  rw[←L.C,L.ini]
  refine⟨1,2,(by decide:1∉[233011,235011]),(by decide:2∉[233011,235011]),by decide,1,2,rfl,?_,rfl,rfl,rfl,fun j hj=>hj,h⟩
  exact⟨⟨⟨_,rfl,rfl⟩,⟨_,rfl,rfl⟩,⟨_,rfl,trivial⟩,⟨_,rfl,rfl,rfl,.tail _ (.tail _ (.head _))⟩,trivial⟩,(by decide:[233011,235011,2,1].Nodup)⟩
 have p0:=z3 P.C rest rows
 have p1:=p0.setd x
 refine d7 (n:=N+95) (.d .none) (c':=cset (cp rest (tM P.C rows fs0)) 2 (.ns (setd fs0 x))) (fun K' h=>?_) ?_
 ·refine wX (n:=N+92) (k:=1) (dk:=2) (v:=.d (.str x)) rfl rfl p0.k_ p0.d_ (xr _ (by decide +kernel)) L.st K' ?_
  rw[L.stS]
  exact⟨1,2,fs0,x,rfl,p0,by decide,T,fun j hj=>by rw[ai];exact hj,h⟩
 show wpB P [] ((N+94)+2) _ _ _
 rw[sE]
 refine rs (n:=N+57) (x:=x) (k:=1) (dk:=2) p1 p0 xr (by decide) T hbig ho ⟨(by decide:51037∉[233011,235011,2,1]),(by decide:52020∉[233011,235011,2,1]),(by decide:148016∉[233011,235011,2,1]),(by decide:149021∉[233011,235011,2,1]),(by decide:150021∉[233011,235011,2,1])⟩ (by decide:270011∉[233011,235011,2,1]) ⟨(by decide:51037∉[270011]),(by decide:52020∉[270011]),(by decide:148016∉[270011]),(by decide:149021∉[270011]),(by decide:150021∉[270011])⟩ L.rw_ L.rwS rfl _ fun s pS=>?_
 generalize hc:cset (cp rest (tM P.C rows fs0)) 2 (.ns (studied2 (setd fs0 x) x s))=c at *
 have hg:ae c 235011=some (.list (brD rows)):=by rw[←hc];rfl
 have hk:273011∉dom c:=by rw[←hc,ai];exact (by decide:273011∉[233011,235011,2,1])
 refine a9 (n:=N+93) false (c':=c) (fun K' h=>?_) (al (n:=N+92) ?_)
 ·refine b6 (n:=N+92) (.d (.lst [.tup (brD rows),.tup (brD rows)])) (.d (.lst [.tup (brD rows),.tup (brD rows)])) (fun K' h=>h) (fun K' h=>?_) (u4 rows h)
  rw[jF,aQ]
  refine vo (n:=N+87) rfl hg hrl _ ?_
  rw[aQ]
  exact vo (n:=N+86) rfl hg hrl _ ⟨by show 2≤big;decide,h⟩
 refine gV (n:=N+92) (.d (.bool true)) (c':=c) (fun K' h=>pA (n:=N+82) pS.w hk rfl K' h) (hK _ _)
theorem nM (L:L2Ok P){W T J:List Nat}{gd:List Nat}{x:Str}{rows:List (Nat×Nat)}{lv last:Nat}{wh:Bool}(hW:Cl W gd)(lW:∀c∈W,c<128)(nW:W.length≤9)(hJ:J∈junk2)(hx:sg x=W++T)(hT:Ed W.length T rows wh)(hwh:wh=(decide (last<2)&&(lv==0)))(nT:T.length≤200)(hrl:rows.length≤100)
  {a0:D} {K:F→Sg'→Prop} (hK:∀l c,K (.ret (.d (.bool true))) ⟨l,c⟩):wpB P [] (N+99) fu ⟨sl2 a0 x lv last (S5 J) none none,cp rest (tB rows)⟩ K:=by
 unfold fu
 have tJ:=Xu.mp xV J hJ
 simp only[Xv,decide_eq_true_eq] at tJ
 obtain⟨⟨j1,j2⟩,j3⟩:=tJ
 have jk:=xv j1
 have hl:=aE x
 rw[hx,Qj] at hl
 refine a9 (n:=N+97) wh (c':=cp rest (tB rows)) (fun K' h=>xR (n:=N+96) (ltT (n:=N+94) rfl rfl) (eqT (n:=N+94) rfl rfl) K' (hwh▸h)) ?_
 have go:∀x',sg x'=W++(T++if wh=true then J else [])→wpB P [] (N+98) jK ⟨sl2 a0 x' lv last (S5 J) none none,cp rest (tB rows)⟩ K:=fun x' hx'=>by
  have h1:=aE x'
  rw[hx',Qj,Qj] at h1
  have h2:(if wh=true then J else []).length≤6:=by
   cases wh with
   |true=>exact j2
   |false=>exact Zj _
  refine uc L ⟨?_,?_,?_⟩ (by unfold big;exact R483 nW nT h1 h2) (rt hW hT jk hx') hrl hK
  ·rw[hx']
   refine f9 lW (f9 hT.low fun c hc=>?_)
   cases wh with
   |true=>exact of_decide_eq_true (Xu.mp j3 c hc)
   |false=>cases hc
  ·rw[hx']
   refine dM hW.ends (dM (.inr hT.ends) ?_)
   cases wh with
   |true=>exact jk.cl.ends
   |false=>exact .inl rfl
  ·rw[hx',Qj,Qj];unfold big;exact R482 nW nT h2
 cases wh with
 |true=>
  refine ao (n:=N+95) (.d (.str (x++S5 J))) (fun K' h=>?_) (al (n:=N+95) (go _ (by rw[fg,hx,iV,Qv];rfl)))
  refine bJ (n:=N+94) (.d (.str x)) (.d (.str (S5 J))) (fun K' h=>h) (fun K' h=>h) (er (by have:(S5 J).length=J.length:=rfl;unfold big;exact R481 nW nT j2 hl) h)
 |false=>exact al (n:=N+96) (go x (by rw[hx];exact congrArg (W++·) (Zg T).symm))
theorem uZ (L:L2Ok P){W S J:List Nat}{gd:List Nat}{x:Str}{rows:List (Nat×Nat)}{lv last m:Nat}(hW:Cl W gd)(lW:∀c∈W,c<128)(nW:W.length≤9)(hJ:J∈junk2)(hx:sg x=W++S)(h:Bd W.length S rows lv m)(hm:m≤12)(h4:last<4)
  {a0:D} {K:F→Sg'→Prop} (hK:∀l c,K (.ret (.d (.bool true))) ⟨l,c⟩):wpB P [] (N+100) mi ⟨sl2 a0 x lv last (S5 J) none none,cp rest (tB rows)⟩ K:=by
 unfold mi
 have hS:=h.len
 have hrl:=h.rl
 have xl:x.length=W.length+S.length:=by rw[←aE,hx,Qj]
 have hxs:∀w,sg (x++S5 w)=W++(S++w):=fun w=>by rw[fg,hx,iV,Qv]
 have hxl:∀w,(x++S5 w).length=W.length+S.length+w.length:=fun w=>by rw[ja,xl];rfl
 have big1:∀w:List Nat,w.length≤11→x.length+(S5 w).length≤big:=fun w hw=>by have:(S5 w).length=w.length:=rfl;unfold big;exact R472 nW hm hS xl hw
 refine a9 (n:=N+98) ((last==1)||(last==3)) (c':=cp rest (tB rows)) (tOr (n:=N+97) (eqT (n:=N+95) rfl rfl) (eqT (n:=N+95) rfl rfl)) ?_
 have long:∀(w:List Nat) (wh:Bool),vC[last]?=some w→w.length=6→Ed W.length (S++w) (rows++[(W.length+S.length+1,lv+1),(W.length+S.length+6,lv)]) wh→wh=(decide (last<2)&&(lv==0))→
   wpB P [] (N+98) [kE (.bin .Add eL (.c (.int 1))) (.bin .Add (.v 11) (.c (.int 1))),.asg 9 (.bin .Add (.v 9) (.item (.lst [(.c (.str ⟨#[]⟩)),(.c (.str ⟨#[32,35,91,32,121,10]⟩)),(.c (.str ⟨#[]⟩)),(.c (.str ⟨#[44,39,39,39,40,10]⟩))] none) (.v 12))),kE eL (.v 11)]
    ⟨sl2 a0 x lv last (S5 J) none none,cp rest (tB rows)⟩ (fun f τ=>match f with | .next=>wpB P [] (N+99) fu τ K|f=>K f τ):=by
  intro w wh hw hwl hE hwh
  refine dZ (n:=N+90) (a:=x.length+1) (b:=lv+1) rfl (R466 hm hrl) (fun K' h=>?_) (fun K' h=>h) ?_
  ·exact bJ (n:=N+91) (.d (.int (x.length:Nat))) (.d (.int 1)) (gj (n:=N+88) rfl (R465 nW hm hS xl)) (fun K' h=>h) h
  refine ao (n:=N+95) (.d (.str (x++S5 w))) (fun K' h=>?_) ?_
  ·exact bJ (n:=N+94) (.d (.str x)) (.d (.str (S5 w))) (fun K' h=>h) (fun K' h=>bd (n:=N+93) (.d (bY vC)) (.d (.int (last:Nat))) (fun K' h=>⟨by show 4≤big;decide,h⟩) (fun K' h=>h) (fw hw (by decide) h)) (er (big1 w (R480 hwl)) h)
  refine dZ (n:=N+88) (a:=W.length+S.length+6) (b:=lv) rfl (by rw[Qj];show rows.length+1≤100;exact R463 hm hrl) (fun K' h=>?_) (fun K' h=>h) (al (n:=N+94) ?_)
  ·rw[←hwl,←hxl] at h;exact gj (n:=N+87) rfl (by rw[hxl];exact R479 nW hm hS hwl) _ h
  rw[xl,Qv]
  exact nM L hW lW nW hJ (hxs w) hE hwh (by rw[Qj];exact R478 hm hS hwl) (by rw[Qj];show rows.length+2≤100;exact R477 hm hrl) hK
 have short:∀(w:List Nat) (wh:Bool),w.length≤2→Ed W.length (S++w) rows wh→wh=(decide (last<2)&&(lv==0))→wpB P [] (N+96) [.asg 9 (.bin .Add (.v 9) (.c (.str (S5 w))))] ⟨sl2 a0 x lv last (S5 J) none none,cp rest (tB rows)⟩
   (fun f τ=>match f with | .next=>wpB P [] (N+97) [] τ (fun f τ=>match f with | .next=>wpB P [] (N+99) fu τ K|f=>K f τ)|f=>(match f with | .next=>wpB P [] (N+99) fu τ K|f=>K f τ)):=by
  intro w wh hwl hE hwh
  refine ao (n:=N+94) (.d (.str (x++S5 w))) (fun K' h=>?_) (al (n:=N+94) (al (n:=N+96) ?_))
  ·exact bJ (n:=N+93) (.d (.str x)) (.d (.str (S5 w))) (fun K' h=>h) (fun K' h=>h) (er (big1 w (R476 hwl)) h)
  exact nM L hW lW nW hJ (hxs w) hE hwh (by rw[Qj];exact R475 hm hS hwl) (R466 hm hrl) hK
 have hq:last=0∨last=1∨last=2∨last=3:=by omega
 rcases hq with rfl|rfl|rfl|rfl
 ·exact a9 (n:=N+96) false (c':=cp rest (tB rows)) (eqT (n:=N+94) rfl rfl) (short [10] _ (by decide) (xD h) rfl)
 ·exact long _ _ rfl rfl (vb h) rfl
 ·exact a9 (n:=N+96) true (c':=cp rest (tB rows)) (eqT (n:=N+94) rfl rfl) (short [92,10] _ (by decide) (wH h) rfl)
 ·exact long _ _ rfl rfl (t7 h) rfl
end
noncomputable def jq:List IS:=
 .asg 1 (.lst [(.c (.str ⟨#[]⟩)),(.c (.str ⟨#[117,32,61,32,40,49,41,10]⟩)),(.c (.str ⟨#[10,35,32,118,10]⟩)),(.c (.str ⟨#[39,39,39,119,10,39,39,39,10]⟩))] none) ::
 .asg 2 (.lst [(.c (.str ⟨#[40]⟩)),(.c (.str ⟨#[102,91]⟩)),(.c (.str ⟨#[32,123]⟩)),(.c (.str ⟨#[44,40]⟩))] none) ::
 .asg 3 (.lst [(.c (.str ⟨#[41]⟩)),(.c (.str ⟨#[32,93]⟩)),(.c (.str ⟨#[125]⟩)),(.c (.str ⟨#[121,41]⟩))] none) ::
 .asg 4 (.lst [(.c (.str ⟨#[43,39,40,39]⟩)),(.c (.str ⟨#[44,34,92,34,35,34]⟩)),(.c (.str ⟨#[43,34,34,34,10,41,39,10,34,34,34]⟩)),(.c (.str ⟨#[61,39,39]⟩)),(.c (.str ⟨#[37,39,92,10,91,39]⟩))] none) ::
 .asg 5 (.lst [(.c (.str ⟨#[32,35,91,10]⟩)),(.c (.str ⟨#[122,35,32,41,39,92,10]⟩))] none) ::
 .asg 6 (.lst [(.c (.str ⟨#[97]⟩)),(.c (.str ⟨#[32,98]⟩)),(.c (.str ⟨#[92,10]⟩)),(.c (.str ⟨#[92,40]⟩)),(.c (.str ⟨#[92,39]⟩)),(.c (.str ⟨#[58]⟩)),(.c (.str ⟨#[9,46,99]⟩))] none) ::
 .asg 7 (.lst [(.c (.str ⟨#[]⟩)),(.c (.str ⟨#[10]⟩)),(.c (.str ⟨#[32,32,35,120,40,10]⟩)),(.c (.str ⟨#[10,9,10]⟩)),(.c (.str ⟨#[35,41,10]⟩))] none) ::
 .asg 8 (.call (.g (.bi .list)) [(.v 0)] (some 233011)) ::
 .asg 9 (.item (.v 1) (fQ 4)) ::
 .asg 10 (.lst [(.tup [eL,(.c (.int 0))])] (some 235011)) ::
 .asg 11 (.c (.int 0)) ::
 .asg 9 (.bin .Add (.bin .Add (.v 9) (.item (.lst [(.c (.str ⟨#[]⟩)),(.c (.str ⟨#[32,32]⟩)),(.c (.str ⟨#[9]⟩))] none) (fQ 3))) (.c (.str ⟨#[120]⟩))) ::
 .asg 12 (fQ 4) ::
 .asg 13 (.item (.v 7) (fQ 5)) ::
 .for_ 14 (.call (.g (.bi .range)) [(.call (.g (.bi .max)) [(.c (.int 3)),(.call (.g (.bi .min)) [(.c (.int 12)),(.call (.g (.bi .len)) [(.v 8)] none)] none)] none)] none) jy::mi
theorem tf {n:Int}{j:Nat}{d:D}(h:(bS 0 n)[j]?=some d):(j:Int)<n:=by
 unfold bS at h
 have:=(Qw.mp h).1
 simp at this;exact R492 this
section
variable {P:Pm}{N:Nat}
noncomputable abbrev slo (a0:D) (r9 r10 r11 r12 r13:Option V):Sl:=[some (.d a0),some (.d (bY whole2)),some (.d (bY rising2)),some (.d (bY falling2)),some (.d (bY things2)),some (.d (bY ce)),some (.d (bY plain2)),some (.d (bY junk2)),some (.obj 233011),r9,r10,r11,r12,r13,none,none,none,none]
theorem vd (L:L2Ok P)(l:List Int)(hl:l.length≤63){K:F→Sg'→Prop}(hK:∀l c,K (.ret (.d (.bool true))) ⟨l,c⟩) :
  wpB P [] (N+115) jq ⟨start [.d (.lst (l.map .int))] 17,[]⟩ K:=by
 have hll:(l.map D.int).length≤big:=by rw[Zu];unfold big;exact R457 hl
 unfold jq
 show wpB P [] (N+115) _ ⟨[some (.d (.lst (l.map .int))),none,none,none,none,none,none,none,none,none,none,none,none,none,none,none,none,none],[]⟩ K
 refine ao (n:=N+113) (.d (bY whole2)) (fun K' h=>⟨by show 4≤big;decide,h⟩) ?_
 refine ao (n:=N+112) (.d (bY rising2)) (fun K' h=>⟨by show 4≤big;decide,h⟩) ?_
 refine ao (n:=N+111) (.d (bY falling2)) (fun K' h=>⟨by show 4≤big;decide,h⟩) ?_
 refine ao (n:=N+110) (.d (bY things2)) (fun K' h=>⟨by show 5≤big;decide,h⟩) ?_
 refine ao (n:=N+109) (.d (bY ce)) (fun K' h=>⟨by show 2≤big;decide,h⟩) ?_
 refine ao (n:=N+108) (.d (bY plain2)) (fun K' h=>⟨by show 7≤big;decide,h⟩) ?_
 refine ao (n:=N+107) (.d (bY junk2)) (fun K' h=>⟨by show 5≤big;decide,h⟩) ?_
 refine bQ (n:=N+106) (.obj 233011) (c':=cp l []) (fun K' h=>⟨hll,(by decide:233011∉([]:List Nat)),h⟩) ?_
 generalize ha:D.lst (l.map .int)=a0
 obtain⟨W,r1,mW,q1,g1⟩:=wM (P:=P) (n:=N+100) (l:=slo a0 none none none none none) L rfl wfA hl whole2 (b:=4) rfl (by decide) (by decide) (e:=.v 1) (fun K' h=>h)
 have tW:=Xu.mp x5 W mW
 simp only[Xv,decide_eq_true_eq] at tW
 obtain⟨⟨w1,w2⟩,w3⟩:=tW
 have hW:=sO w1
 have lW:∀c∈W,c<128:=fun c hc=>of_decide_eq_true (Xu.mp w3 c hc)
 have sW:(S5 W).length=W.length:=rfl
 refine bQ (n:=N+105) (.d (.str (S5 W))) (c':=cp r1 []) g1 ?_
 refine bQ (n:=N+104) (.obj 235011) (c':=cp r1 (tB [(W.length,0)])) (fun K' h=>?_) ?_
 ·rw[jF,aQ]
  refine fY (n:=N+98) (d1:=.int (W.length:Nat)) (d2:=.int 0) (fun K' h=>gj (n:=N+97) (x:=S5 W) rfl (R491 w2) K' h) (fun K' h=>h) ?_
  exact⟨by show 1≤big;decide,(by decide:235011∉[233011]),h⟩
 refine ao (n:=N+103) (.d (.int (0:Nat))) (fun K' h=>h) ?_
 show wpB P [] (N+104) _ ⟨slo a0 (some (.d (.str (S5 W)))) (some (.obj 235011)) (some (.d (.int (0:Nat)))) none none,cp r1 (tB [(W.length,0)])⟩ K
 obtain⟨a,r2,ma,q2,g2⟩:=wM (n:=N+95) (l:=slo a0 (some (.d (.str (S5 W)))) (some (.obj 235011)) (some (.d (.int (0:Nat)))) none none) L rfl (wfB [(W.length,0)]) q1 ml (b:=3) rfl (by decide) (by decide) (e:=.lst [(.c (.str ⟨#[]⟩)),(.c (.str ⟨#[32,32]⟩)),(.c (.str ⟨#[9]⟩))] none) (fun K' h=>⟨by show 3≤big;decide,h⟩)
 have B0:=bd0 W.length a ma
 have la:(a++[120]).length≤3:=B0.len
 have la':(S5 a).length≤2:=by rw[Qj] at la;show a.length≤2;have:([120]:List Nat).length=1:=rfl;exact R490 la this
 have e0:sg (S5 W++S5 a++S5 [120])=W++(a++[120]):=by rw[fg,fg,iV,iV,iV,Qv]
 refine bQ (n:=N+102) (.d (.str (S5 W++S5 a++S5 [120]))) (c':=cp r2 (tB [(W.length,0)])) (fun K' h=>?_) ?_
 ·rw[dS,dS]
  refine bD (n:=N+99) rfl _ (g2 _ (er (by unfold big;exact R489 w2 la') ?_))
  show ip (cp r2 (tB [(W.length,0)])) .Add (.d (.str (S5 W++S5 a))) (.d (.str (S5 [120]))) (fun d=>K' (.d d) (cp r2 (tB [(W.length,0)])))
  exact er (x:=S5 W++S5 a) (y:=S5 [120]) (by rw[ja];show _+1≤big;unfold big;exact R488 w2 la') h
 obtain⟨last,r3,h4,q3,g3⟩:=fk (n:=N+97) (l:=slo a0 (some (.d (.str (S5 W++S5 a++S5 [120])))) (some (.obj 235011)) (some (.d (.int (0:Nat)))) none none) (b:=4) L (by decide) rfl (wfB [(W.length,0)]) q2
 refine bQ (n:=N+101) (.d (.int (last:Nat))) (c':=cp r3 (tB [(W.length,0)])) g3 ?_
 obtain⟨J,r4,mJ,q4,g4⟩:=wM (n:=N+95) (l:=slo a0 (some (.d (.str (S5 W++S5 a++S5 [120])))) (some (.obj 235011)) (some (.d (.int (0:Nat)))) (some (.d (.int (last:Nat)))) none) L rfl (wfB [(W.length,0)]) q3 junk2 (b:=5) rfl (by decide) (by decide) (e:=.v 7) (fun K' h=>h)
 refine bQ (n:=N+100) (.d (.str (S5 J))) (c':=cp r4 (tB [(W.length,0)])) g4 ?_
 show wpB P [] (N+101) _ ⟨sl2 a0 (S5 W++S5 a++S5 [120]) 0 last (S5 J) none none,cp r4 (tB [(W.length,0)])⟩ K
 have hl4:(r4.map D.int).length≤big:=by rw[Zu];unfold big;exact R457 q4
 generalize hn:(if (if ((r4.map D.int).length:Int)<12 then ((r4.map D.int).length:Int) else 12) > 3 then (if ((r4.map D.int).length:Int)<12 then ((r4.map D.int).length:Int) else 12) else 3)=nn
 have hn1:3≤nn∧nn≤12:=by rw[←hn];split<;>split<;>omega
 refine dn (n:=N+100) ?_
 rw[nN]
 have hit:∀K':V→aa→Prop,K' (.rng 0 nn) (cp r4 (tB [(W.length,0)]))→wpE P (N+99) (.call (.g (.bi .range)) [(.call (.g (.bi .max)) [(.c (.int 3)),(.call (.g (.bi .min)) [(.c (.int 12)),(.call (.g (.bi .len)) [(.v 8)] none)] none)] none)] none) (sl2 a0 (S5 W++S5 a++S5 [120]) 0 last (S5 J) none none) (cp r4 (tB [(W.length,0)])) K':=fun K' h=>by
  refine⟨hl4,?_⟩
  rw[←hn] at h
  exact h
 refine hit _ ?_
 refine⟨⟨by decide,by decide,by exact R487 hn1,by exact R486 hn1⟩,_,rfl,fun j τ=>∃rest x lv rows S,rest.length≤63∧sg x=W++S∧Bd W.length S rows lv j∧τ=⟨sl2 a0 x lv last (S5 J) none none,cp rest (tB rows)⟩,
  ⟨r4,_,0,_,_,q4,e0,B0,rfl⟩,?_,?_⟩
 ·rintro j d _ hd ⟨rest,x,lv,rows,S,hr,hx,hB,rfl⟩
  have hj:=tf hd
  refine⟨by show 14<18;decide,?_⟩
  refine qV (N:=N+39) L hr hx w2 (R485 hn1 hj) hB fun x' lv' rest' rows' v S' t1 t2 t3=>?_
  refine⟨⟨sl2 a0 x' lv' last (S5 J) none none,cp rest' (tB rows')⟩,⟨?_,rfl,(wfB rows' rest').w,fun k hk=>by cases hk⟩,rest',x',lv',rows',S',t3,t1,t2,rfl⟩
  exact⟨⟨_,rfl,vD _ _ _⟩,⟨_,rfl,vD _ _ _⟩,⟨_,rfl,vD _ _ _⟩,⟨_,rfl,vD _ _ _⟩,⟨_,rfl,vD _ _ _⟩,⟨_,rfl,vD _ _ _⟩,⟨_,rfl,vD _ _ _⟩,⟨_,rfl,vD _ _ _⟩,⟨_,rfl,.inl ⟨rfl,List.mem_cons_self⟩⟩,⟨_,rfl,vD _ _ _⟩,⟨_,rfl,.inl ⟨rfl,List.mem_cons_of_mem _ List.mem_cons_self⟩⟩,
   ⟨_,rfl,vD _ _ _⟩,⟨_,rfl,vD _ _ _⟩,⟨_,rfl,vD _ _ _⟩,trivial⟩
 ·rintro _ ⟨rest,x,lv,rows,S,hr,hx,hB,rfl⟩
  have hlen:(bS 0 nn).length=nn.toNat:=by simp[bS]
  rw[hlen] at hB
  exact uZ L hW lW w2 mJ hx hB (R484 hn1) h4 hK
end
theorem q5 (p:Params):bL 60 (T1 p 259) (bA (K1 p) 259)=some jq:=by kernel_rfl
section
variable {p:Params}{hb:Heap}(X:(K1 p).In hb)(lim:hb.NoLimit)
include X lim
theorem xA:FnT hb 259 (T1 p 259) jq [Qq "script"] (ew (K1 p) 259) (fW (K1 p) 259) (bA (K1 p) 259) 60:=
 eG X lim (by kernel_rfl) (lsS fun _=>ls0 (by kernel_rfl)) rfl (by kernel_rfl) (by kernel_rfl) (q5 p)
end
theorem Lk2 (w:World):L2Ok (PD w):=⟨rfl,rfl,rfl,rfl,rfl,rfl,rfl,rfl⟩
noncomputable def qD:Spec:=fun vs c K=>∃l:List Int,vs=[.d (.lst (l.map .int))]∧l.length≤63∧c=[]∧K (.d (.bool true)) []
section
variable {prog:Program}{w:World}{p:Params}{hb:Heap}{mg mb:Str→Option Value}(B:Base1 w p hb mg mb)
include B
theorem law1:nH prog w hb 8 259 qD:=by
 refine wF (xA B.x B.lim) (by kernel_rfl) (cxD B 259) fun vs c K h=>?_
 obtain⟨l,rfl,hl,rfl,hK⟩:=h
 refine⟨rfl,115,?_⟩
 have hr:(ew (K1 p) 259).length=17:=by kernel_rfl
 rw[hr]
 exact vd (Lk2 w) (N:=0) l hl fun l c=>⟨.d (.bool true),[],vD _ _ _,trivial,fun k hk=>hk,hK⟩
end
def zu (P:Params)(h:Heap)(w:Value)(d:WData):Prop:=match d with
 | .int i=>∃t,w=.int i t
 |_=>True
def yo (P:Params)(h:Heap)(ws:List Value)(ds:List WData):Prop:=match ds with
 | []=>ws=[]
 |d::ds=>∃w r,ws=w::r∧Well P h w d∧WellAll P h r ds
theorem qe {P:Params}{h:Heap}{w:Value}{d:WData}(i:Well P h w d):zu P h w d:=by cases i<;>first|trivial|exact⟨_,rfl⟩
theorem fN {P:Params}{h:Heap}{ws:List Value}{ds:List WData}(i:WellAll P h ws ds):yo P h ws ds:=by
 cases i with
 |nil=>rfl
 |cons a r=>exact⟨_,_,rfl,a,r⟩
theorem pH {P:Params}{h:Heap}{own:Addr→Prop}{l:List Int}:∀{ws:List Value},WellAll P h ws (ofPys (l.map .int))→IsDs h own (l.map D.int) ws:=by
 induction l with
 |nil=>intro ws i;obtain rfl:ws=[]:=fN i;exact .nil
 |cons n l ih=>
  intro ws i
  obtain⟨w,r,rfl,a,q⟩:=fN i
  obtain⟨t,rfl⟩:=qe a
  exact .cons (.int n t) (ih q)
theorem enter {prog:Program}{w:World}{s:Shared}{d:Nat}{a:Addr}{spec:Spec}(F:nH prog w s.heap d a spec)(hd:d≤20){l:List Int}{b:Addr}(hl:Well w.params s.heap (.ref b) (ofPy (.list (l.map .int))))
  (sp:spec [.d (.lst (l.map .int))] [] (fun v c=>v=.d (.bool true))) {Q:Value→Shared→Prop} {E:Value→Shared→Prop}
  (hq:∀h' tk,(∀x o,s.heap.get? x=some o→h'.get? x=some o)→Q (.bool true) {s with heap:=h',toks:=tk}):wpAny (model prog w) callerA (call (.ref a) [.ref b]) Q E s:=by
 have C:Cst s.heap [] [] (fun _=>0) s.heap:=⟨fun _ _ e=>e,fun k o e=>(by contradiction),fun k hk=>(by contradiction),fun k hk=>(by contradiction),fun k hk=>(by contradiction)⟩
 refine wpAny_call (F callerA ⟨rfl,?_,?_⟩ [.d (.lst (l.map .int))] [.ref b] [] (fun _=>0) s _ _ C ?_ sp ?_)
 ·have:(1+claimMargin)+20<recursionLimit:=by decide +kernel
  show (1+claimMargin)+d<recursionLimit;exact R446 hd this
 ·have:4+10*20+200<cLine:=by decide +kernel
  show 4+10*d+200<cLine;exact R445 hd this
 ·refine .cons ?_ .nil
  have hl:Well w.params s.heap (.ref b) (.list (ofPys (l.map .int))):=hl
  cases hl with
  | @list _ vs _ g r=>
   refine IsD.lst (ws:=vs) (ep:=0) g ?_ (pH r)
   rintro⟨k,hk,_⟩;contradiction
 ·rintro v c' α' g h' tk rfl C' L' i
  cases i
  exact hq h' tk fun x o e=>L'.kept x o e (by rintro⟨k,hk,_⟩;cases hk)
end Mine
end
open PySem PySem.W PyProof.Rows
set_option maxRecDepth 100000 in
set_option maxHeartbeats 8000000 in
theorem PySem.Challenge.cw_dm0168_02_holds : PySem.Challenge.rw_dm0168_02.Holds := by
 w_on
 refine holds_law (by kernel_rfl) fun said=>?_
 refine holds_openN (q:=Mine.H2.view) (loose:=Mine.H2.loose) (Xt:=Mine.H2.Xt) (XP:=XL Mine.H2.view Mine.H2.lv) (Yf:=Hook.obs Mine.H2.H) (Ya:=Hook.val Mine.H2.H) (YP:=Hook.says Mine.H2.H) (N:=16546) Mine.H2.hl (Hook.of Mine.H2.H) (Hook.keeps Mine.H2.H)
  (fun s e=>xl_of s (Bool.and_eq_true_iff.mp e).1) XL.keeps (by rfl) (by rfl) (by rfl) (fun s e=>recFacts_of (Bool.and_eq_true_iff.mp e).2) (by rfl) (by first|assumption|decide +kernel) (by decide +kernel) ⟨rfl,rfl,rfl,rfl,rfl,by decide +kernel⟩ ?hw ?hc
 case hw=>w_witness2
 intro w s0 s1 mg mb G Y fa o pm cd doc dV kV ho hd hcd hD hmg hg args vals as hpre hlay hrd hwl hlo
 have KX:(Mine.K1 w.params).In s1.heap:=Y
 refine Ground.open G ?_
 intro T B D TE TW
 wrow_args hpre hlay hrd hwl hlo
 rename_i l hs hlay0 hL1 hr1 hl2 as1 as2 a ws as3 hL ra w1 r0 hI hr hcond hcond1
 clear B D TE TW hs hlay0 hL1 hr1 hl2 ra r0 hr hD hcd hd ho Y
 have hB:Mine.Base1 w w.params s1.heap mg mb:=⟨KX,T.nolimit,T.g,T.b,T.builtins⟩
 have hfa:fa=259:=by
  have e:mg (Qq "law")=some (.ref fa):=hmg
  have e2:nsFind (Mine.nsOf (Mine.K1 w.params) mainGlobals) (Qq "law")=some (.ref 259):=by kernel_rfl
  rw[Mine.mg_of KX T.g (by kernel_rfl) (Qq "law"),e2] at e
  cases e;rfl
 subst hfa
 have hlen:l.length≤63:=by omega
 refine Mine.enter (Mine.law1 hB) (by decide) (l:=l) w1 ⟨l,rfl,hlen,rfl,rfl⟩ fun h' tk hk=>?_
 refine⟨.inl ⟨.bool true,.bool true,[],rfl,raisesW_false (by wrow_none_raised),.bool _,?_,fun _=>⟨List.nodup_nil,fun a ha=>(by cases ha)⟩⟩,hk,rfl,hg⟩
 wrow_post
