import PyProof.Rows.All
import Wide.All
import OpenK.AllK
import Wide.FinOn
import PyProof.AttrMissHeap
import PyProof.StationsW
import PyProof.AssertRaise
import Lean
import PySem.Challenge.RW_dm0168_03
set_option Elab.async false
set_option linter.all false
set_option genSizeOf false
set_option genSizeOfSpec false
set_option genInjectivity false
set_option genCtorIdx false
open PySem.Str renaming ofString->Qq
open List renaming forall_mem_cons->Qx,length_cons->Qz,length_append->Qj,append_assoc->Qv,getElem?_eq_getElem->Qk,getElem?_eq_some_iff->Qw,mem_append->Qu,mem_cons->Qy,mem_of_getElem?->Qg,getLast?_append->Qb,getLast?_eq_getElem?->Qp,size_toArray->Xq,takeWhile_cons->Xw,all_eq_true->Xu,getElem?_map->Xy,drop_drop->Xg,not_mem_nil->Xb,length_drop->Xp,lookup_cons->Zq,getElem?_drop->Zx,mem_singleton->Zw,length_map->Zu,append_nil->Zg
open Nat renaming mul_le_mul_left->Xx,zero_le->Zj,le_refl->Zv,le_trans->Zk
open PySem.Heap renaming get?_push_of_some->Xz,get?_push_size->Xj
open Bool renaming and_eq_true->Xv
open PySem.World renaming withFollow->Xk
open PySem renaming wpAny_bind->Zb,wpAny_pure->Zp,wpAny_mono->Vq,wpAny_holding->Vx,wpAny_of_eq->Vz,wpAny_standAt->Vj,wpAny_assign_Name->Vv
noncomputable section
open Option renaming some→Kf,none→Wq
open PySem renaming Value→Wx,Expr→Wz,Shared→Wj,World→Wv,Addr→Ww,Heap→Wu
set_option maxRecDepth 100000
set_option maxHeartbeats 8000000
section
namespace Mine.H3
open PySem PySem.W PyProof.Rows
theorem looked:PySem.Challenge.rw_dm0168_03.wellSaid=true:=by
 delta OpenLaw.wellSaid OpenRow.wellSaid OpenRow.partSaid looksOpen
 repeat' with_reducible refine look_both ?_ ?_
 all_goals decide +kernel
end Mine.H3
end
section
namespace Mine.H3
open PySem PySem.W PySem.Calls PyProof.Rows
noncomputable abbrev pw:Program:=PySem.Challenge.pw_dm0168_03
noncomputable def bA:List Stmt->Nat->Stmt
 | [],_=>.Pass ⟨0,0,0,0⟩|s::_,0=>s|_::r,n+1=>bA r n
set_option backward.match.sparseCases false in
noncomputable def cY:Stmt->List Stmt
 | .FunctionDef _ _ b _ _ _ _ _ _ _=>b| .ClassDef _ _ _ b _ _ _ _ _ _ _=>b|_=>[]
set_option backward.match.sparseCases false in
noncomputable def gZ:Stmt->Arguments
 | .FunctionDef _ a _ _ _ _ _ _ _ _=>a|_=>default
set_option backward.match.sparseCases false in
noncomputable def er:Stmt->Scope
 | .FunctionDef _ _ _ _ _ _ s _ _ _=>s| .ClassDef _ _ _ _ _ _ s _ _ _ _=>s|_=>default
noncomputable def sv (s:String)(n:Nat):Wx:=.str (Qq s) n
noncomputable def kv (P:Params)(s:String)(n:Nat)(v:Wx):DictEntry:=⟨PyData.keyHash P<|Qq s,.str (Qq s) n,v⟩
def kq (P:Params)(s:String)(n:Nat):DictEntry:=kv P s n<|.builtin s
noncomputable def ki (k n v m:Nat):DictEntry:=⟨k,.int k n,.int v m⟩
def mb (n:Nat):Stmt:=bA (cY<|bA pw.main.body 19) n
noncomputable def pq (a:String):PySem.Str:=⟨⟨(Qq "Parser.").cps.toList++(Qq a).cps.toList⟩⟩
def kr (k n v m:Nat):Nat->List DictEntry
 |0=>[]|c+1=>ki k n v m::kr (k+1) (n+2) v m c
noncomputable def iz (l:List Int):List Wx:=l.map λ k=>.int k 0
noncomputable def ic:List Int->Nat->List Wx
 | [],_=>[]|k::r,n=>.int k n::ic r (n+1)
def sc:List String->Nat->List Wx
 | [],_=>[]|s::r,n=>sv s n::sc r (n+1)
def KK (P:Params):List String->Nat->List DictEntry
 | [],_=>[]|s::r,n=>kq P s n::KK P r (n+1)
def Ke (P:Params):List String->Nat->List DictEntry
 | [],_=>[]|s::r,n=>kv P s n (.type s)::Ke P r (n+1)
noncomputable def up (t:BT):List (Nat×Obj)->BT
 | []=>t| (i,o)::r=>up (t.ins i o) r
noncomputable def ap (t:BT)(n:Nat):List Obj->BT
 | []=>t|o::r=>ap (t.ins n o) (n+1) r
def u0 (a:List String)(b:Nat):Obj:=⟨.type "tuple",Wq,.seq ⟨sc a b⟩ 0,#[]⟩
def u1 (a:String)(b:Nat)(c:Int)(d:Int)(e:Nat)(f:Int)(g:Nat):Obj:=⟨.type "code",Wq,.fields #[sv a b,.str (pq a)<|b+1,sv "/claim/cut.py"<|b+2,.int c 0,.int d 0,.int 0 0,.int 0 0,.int 3 0,.ref e,.bool true,.int 276 0,.ref<|e+1,.none,.ref<|e+2,.ref<|e+3,.ref<|e+4,.int f 0,.int c 0,sv "/claim/cut.py" g],#[]⟩
def u2 (a:String)(b:Stmt):Obj:=⟨.none,Wq,.func ⟨Qq a,pq a,gZ b,.stmts<|cY b,er b,0,[],.none,.none,.none,.none,Wq,.none,.none,0⟩,#[]⟩
def u3 (a:String)(b:Stmt)(c:Nat):Obj:=⟨.type "function",Wq,.func ⟨Qq a,pq a,gZ b,.stmts<|cY b,er b,3,[],.none,.none,.none,sv "cpy313.idlelib.pyparse" 289,Wq,.ref c,.none,0⟩,#[]⟩
def u4 (a:String)(b:Nat):Obj:=⟨.type "tuple",Wq,.seq #[sv a b] 0,#[]⟩
def u5 (a:String)(b:Stmt):Obj:=⟨.none,Wq,.func ⟨Qq a,Qq a,gZ b,.stmts<|cY b,er b,0,[],.none,.none,.none,.none,Wq,.none,.none,0⟩,#[]⟩
def u6 (a:String)(b:Stmt)(c:String)(d:Nat)(e:Nat):Obj:=⟨.type "function",Wq,.func ⟨Qq a,Qq a,gZ b,.stmts<|cY b,er b,3,[],.none,.none,.none,sv c d,Wq,.ref e,.none,0⟩,#[]⟩
def u7 (a:String)(b:List Int)(c:Nat):Obj:=⟨.type a,Wq,.seq ⟨ic b c⟩ 0,#[]⟩
def u8 (a:String)(b:Nat)(c:Int)(d:Int)(e:Nat)(f:Int)(g:Nat):Obj:=⟨.type "code",Wq,.fields #[sv a b,sv a<|b+1,sv "/claim/cut.py"<|b+2,.int c 0,.int d 0,.int 0 0,.int 0 0,.int 3 0,.ref e,.bool true,.int 276 0,.ref<|e+1,.none,.ref<|e+2,.ref<|e+3,.ref<|e+4,.int f 0,.int c 0,sv "/claim/cut.py" g],#[]⟩
noncomputable def u9 (a:Nat):Obj:=⟨.type "StopIteration",Wq,.fields #[.ref a,.none,.none,.none,.bool false,.none],#[]⟩
noncomputable def BY (a:String)(b:Nat):Obj:=⟨.type "builtin_function_or_method",Wq,.fields #[.builtin a,.ref b],#[]⟩
def Dv (a:List Int):Obj:=⟨.type "range_iterator",Wq,.fields ⟨iz a⟩,#[]⟩
noncomputable def Gk (a:Int)(b:Nat)(c:Int):Obj:=⟨.type "tuple",Wq,.seq #[.int a b,.int c<|b+2] 0,#[]⟩
def H6 (a:List Int):Obj:=⟨.type "tuple",Wq,.seq ⟨iz a⟩ 0,#[]⟩
def Ia (a:Nat):Obj:=⟨.ref 89,Kf 96,.dict ⟨kr 0 827 120 826 a⟩ a,#[]⟩
def IH (a:String)(b:Nat)(c:Int)(d:Nat)(e:Int)(f:Int):Obj:=⟨.type "code",Wq,.fields #[sv a b,sv a<|b+1,sv "/claim/cut.py"<|b+2,.int c 0,.int 0 0,.int 0 0,.int 0 0,.int 0 0,.ref d,.bool false,.int e 0,.ref<|d+1,.none,.none,.none,.none,.int f 0,.int c 0,sv "/claim/cut.py"<|b+4],#[]⟩
def IO (a:Nat)(b:Nat)(c:String)(d:Nat):Obj:=⟨.type "frame",Wq,.plain,#[Kf<|.ref a,Kf<|.ref 3,Kf<|.ref b,Wq,Kf<|sv c d,Wq,Kf<|.ref 0]⟩
def IV (a:Nat)(b:Nat):Obj:=⟨.type "getset_descriptor",Wq,.fields #[sv "__dict__" a,.ref b,.builtin "function.__dict__",.builtin "function.__dict__#set"],#[]⟩
def IG (a:Nat)(b:Nat):Obj:=⟨.type "getset_descriptor",Wq,.fields #[sv "__weakref__" a,.ref b,.builtin "ExceptionGroup.__weakref__",.none],#[]⟩
def JG (a:String)(b:Nat)(c:Nat)(d:Nat):Obj:=⟨.type "re.Pattern",Wq,.fields #[sv a b,.int 96 c,.int 0 0,.none,.none,.ref d,.int 0 0],#[]⟩
def J4 (a:Nat)(b:Int)(c:Nat)(d:Int):Obj:=⟨.type "code",Wq,.fields #[sv "<genexpr>" a,sv "<genexpr>"<|a+1,sv "/claim/cut.py"<|a+2,.int b 0,.int 1 0,.int 0 0,.int 0 0,.int 35 0,.ref c,.bool true,.int 276 0,.ref<|c+1,.none,.none,.none,.none,.int d 0,.int b 0,sv "/claim/cut.py"<|a+4],#[]⟩
def I5 (P:Params)(a:Nat)(b:Nat)(c:String)(d:Nat):Obj:=⟨.type "frame",Wq,.dict #[kv P ".0" a<|.ref b,kv P "c" (a+7)<|sv c d] 2,#[]⟩
def Jv (a:Int)(b:Nat):Obj:=⟨.type "generator",Wq,.fields #[.int a 0,sv "<genexpr>" b,sv "<genexpr>"<|b+1],#[]⟩
def Jh (a:Nat)(b:Nat)(c:Nat):Obj:=⟨.type "AttributeError",Wq,.fields #[.ref a,.none,.none,.none,.bool false,.none,sv "keys" b,.ref c],#[]⟩
def JV (a:String)(b:Stmt)(c:Stmt):Obj:=⟨.none,Wq,.func ⟨Qq a,pq a,gZ b,.stmts<|cY b,er c,0,[],.none,.none,.none,.none,Wq,.none,.none,0⟩,#[]⟩
def J6 (a:String)(b:Stmt)(c:Stmt)(d:Nat):Obj:=⟨.type "function",Wq,.func ⟨Qq a,pq a,gZ b,.stmts<|cY b,er c,3,[],.none,.none,.none,sv "cpy313.idlelib.pyparse" 289,Wq,.ref d,.none,0⟩,#[]⟩
noncomputable def KQ (a:String)(b:Nat)(c:Nat):Obj:=⟨.type "type",Wq,.cls ⟨Qq a,[.type "object"],[.ref b,.type "object"],c,Qq a,true,[],[],false,Wq,false⟩,#[]⟩
open PySem.W.BT renaming node->N,nil->O
open PySem.W.Fast renaming te10110043849684766642->tA,te10274390034422433532->tB,te10295753902157049106->tC,te11892475500146522536->tD,te14082659384304107361->tE,te14364793385576792824->tF,te14374325043358763698->tG,te15667345088766844465->tH
def o0 (P:Params):Obj:=⟨.type "dict",Wq,.dict ⟨[kv P "__name__" 1<|sv "builtins" 160,kv P "__doc__" 2<|.builtin "builtins.__doc__:str#opaque",kv P "__package__" 3<|.builtin "builtins.__package__:str#opaque",kv P "__loader__" 4<|.builtin "builtins.__loader__:shared#opaque",kv P "__spec__" 5<|.builtin "builtins.__spec__#opaque"]++(KK P ["__build_class__","__import__","abs","all","any","ascii","bin","breakpoint","callable","chr","compile","delattr","dir","divmod","eval","exec","format","getattr","globals","hasattr","hash","hex","id","input","isinstance","issubclass","iter","aiter","len","locals","max","min","next","anext","oct","ord","pow","print","repr","round","setattr","sorted","sum","vars"] 6)++[kv P "None" 50 .none,kv P "Ellipsis" 51 .ellipsis,kv P "NotImplemented" 52 .notImplemented,kv P "False" 53<|.bool false,kv P "True" 54<|.bool true]++(Ke P ["bool","memoryview","bytearray","bytes","classmethod","complex","dict","enumerate","filter","float","frozenset","property","int","list","map","object","range","reversed","set","slice","staticmethod","str","super","tuple","type","zip"] 55)++[kv P "__debug__" 81<|.bool true]++(Ke P ["BaseException","BaseExceptionGroup","Exception","GeneratorExit","KeyboardInterrupt","SystemExit","ArithmeticError","AssertionError","AttributeError","BufferError","EOFError","ImportError","LookupError","MemoryError","NameError","OSError","ReferenceError","RuntimeError","StopAsyncIteration","StopIteration","SyntaxError","SystemError","TypeError","ValueError","Warning","FloatingPointError","OverflowError","ZeroDivisionError","BytesWarning","DeprecationWarning","EncodingWarning","FutureWarning","ImportWarning","PendingDeprecationWarning","ResourceWarning","RuntimeWarning","SyntaxWarning","UnicodeWarning","UserWarning","BlockingIOError","ChildProcessError","ConnectionError","FileExistsError","FileNotFoundError","InterruptedError","IsADirectoryError","NotADirectoryError","PermissionError","ProcessLookupError","TimeoutError","IndentationError","_IncompleteInputError","IndexError","KeyError","ModuleNotFoundError","NotImplementedError","PythonFinalizationError","RecursionError","UnboundLocalError","UnicodeError","BrokenPipeError","ConnectionAbortedError","ConnectionRefusedError","ConnectionResetError","TabError","UnicodeDecodeError","UnicodeEncodeError","UnicodeTranslateError","ExceptionGroup"] 82)++[kv P "EnvironmentError" 151<|.type "OSError",kv P "IOError" 152<|.type "OSError",kq P "open" 153,kv P "quit" 154<|.builtin "builtins.quit#opaque",kv P "exit" 155<|.builtin "builtins.exit#opaque",kv P "copyright" 156<|.builtin "builtins.copyright#opaque",kv P "credits" 157<|.builtin "builtins.credits#opaque",kv P "license" 158<|.builtin "builtins.license#opaque",kv P "help" 159<|.builtin "builtins.help#opaque"]⟩ 159,#[]⟩
def o1 (P:Params):Obj:=⟨.type "dict",Wq,.dict #[kv P "builtins" 162<|.ref 4,kv P "__main__" 163<|.ref 5,kv P "_sre" 244<|.ref 12] 3,#[]⟩
def o2 (P:Params):Obj:=⟨.none,Wq,.dict #[kv P "\x69mport.loaded._sre" 183<|.bool true,kv P "class._frozen_importlib.BuiltinImporter" 185<|.ref 14,kv P "watched.\x69mport" 206<|.ref 18,kv P "class._frozen_importlib.ModuleSpec" 216<|.ref 22,kv P "sys.modules.booked-epoch" 245<|.int 3 0,kv P "\x69mport.later-laid._sre" 270<|.bool true,kv P "watched.library" 272<|.ref 27,kv P "watched.library-objects" 0<|sv "\x0c" 0,kv P "watched.library-deep._sre" 273<|sv "\x04\x00\x00\x0b\x04\x00\x00\x0b\x04\x00\x00\x03\x04\x00\x00\x0b\x08\x04dict\x02" 0] 9,#[]⟩
def o3 (P:Params):Obj:=⟨.type "dict",Wq,.dict #[kv P "__name__" 165<|sv "__main__" 164,kv P "__doc__" 166 .none,kv P "__package__" 167 .none,kv P "__loader__" 168<|.builtin "__main__.__loader__#opaque",kv P "__spec__" 169 .none,kv P "__annotations__" 170<|.ref 6,kv P "__builtins__" 171<|.ref 4,kv P "__file__" 173<|sv "/claim/cut.py" 172,kv P "__cached__" 174 .none,kv P "_sre" 275<|.ref 12] 10,#[]⟩
noncomputable def o4:Obj:=⟨.type "module",Kf 0,.plain,#[]⟩
noncomputable def o5:Obj:=⟨.type "module",Kf 3,.plain,#[]⟩
noncomputable def o6:Obj:=⟨.type "dict",Wq,.dict #[] 0,#[]⟩
noncomputable def o7:Obj:=⟨.type "tuple",Wq,.seq #[] 0,#[]⟩
noncomputable def o8:Obj:=⟨.none,Wq,.fields #[],#[]⟩
def o9:Obj:=IH "<module>" 176 1 7 175 179
def o10:Obj:=IO 9 3 "__main__" 164
noncomputable def mJ:Obj:=⟨.type "module",Kf 11,.plain,#[]⟩
def o13 (P:Params):Obj:=⟨.type "dict",Wq,.dict #[kv P "__module__" 189<|sv "_frozen_importlib" 186,kv P "__firstlineno__" 190<|.int 971 187,kv P "__doc__" 191<|.builtin "_frozen_importlib.BuiltinImporter.__doc__:str#opaque",kv P "_ORIGIN" 192<|sv "built-in" 188,kv P "find_spec" 193<|.builtin "_frozen_importlib.BuiltinImporter.find_spec#opaque",kv P "create_module" 194<|.builtin "_frozen_importlib.BuiltinImporter.create_module#opaque",kv P "exec_module" 195<|.builtin "_frozen_importlib.BuiltinImporter.exec_module#opaque",kv P "get_code" 196<|.builtin "_frozen_importlib.BuiltinImporter.get_code#opaque",kv P "get_source" 197<|.builtin "_frozen_importlib.BuiltinImporter.get_source#opaque",kv P "is_package" 198<|.builtin "_frozen_importlib.BuiltinImporter.is_package#opaque",kv P "load_module" 199<|.builtin "_frozen_importlib.BuiltinImporter.load_module#opaque",kv P "__static_attributes__" 200<|.ref 15,kv P "__dict__" 202<|.ref 16,kv P "__weakref__" 204<|.ref 17] 14,#[]⟩
def o14:Obj:=KQ "BuiltinImporter" 14 13
def o15:Obj:=IV 201 14
def o16:Obj:=IG 203 14
def o17:Obj:=⟨.none,Wq,.seq #[.int 13 0,sv "\x06½\n__module__\x06º\x11_frozen_importlib\x06¾\x0f__firstlineno__\x04»\x00ϋ\x06¿\x07__doc__\t4_frozen_importlib.BuiltinImporter.__doc__:str#opaque\x06À\x07_ORIGIN\x06¼\x08built-in\x06Á\tfind_spec\t2_frozen_importlib.BuiltinImporter.find_spec#opaque\x06Â\x0dcreate_module\t6_frozen_importlib.BuiltinImporter.create_module#opaque\x06Ã\x0bexec_module\t4_frozen_importlib.BuiltinImporter.exec_module#opaque\x06Ä\x08get_code\t1_frozen_importlib.BuiltinImporter.get_code#opaque\x06Å\nget_source\t3_frozen_importlib.BuiltinImporter.get_source#opaque\x06Æ\nis_package\t3_frozen_importlib.BuiltinImporter.is_package#opaque\x06Ç\x0bload_module\t4_frozen_importlib.BuiltinImporter.load_module#opaque\x06È\x15__static_attributes__\x04\x00\x00\x0f\x06Ê\x08__dict__\x04\x00\x00\x10\x06Ì\x0b__weakref__\x04\x00\x00\x11" 0,.bool true,.bool true,sv "" 205,.int 21 0,sv "\x06ã\n__module__\x06Ù\x11_frozen_importlib\x06ä\x0f__firstlineno__\x04Ú\x00Ȳ\x06å\x07__doc__\t/_frozen_importlib.ModuleSpec.__doc__:str#opaque\x06æ\x08__init__\t,_frozen_importlib.ModuleSpec.__init__#opaque\x06ç\x08__repr__\t,_frozen_importlib.ModuleSpec.__repr__#opaque\x06è\x06__eq__\t*_frozen_importlib.ModuleSpec.__eq__#opaque\x06é\x06cached\t*_frozen_importlib.ModuleSpec.cached#opaque\x06ê\x06parent\t*_frozen_importlib.ModuleSpec.parent#opaque\x06ë\x0chas_location\t0_frozen_importlib.ModuleSpec.has_location#opaque\x06ì\x15__static_attributes__\x04\x00\x00\x17\x06î\x08__dict__\x04\x00\x00\x18\x06ð\x0b__weakref__\x04\x00\x00\x19\x06ñ\x08__hash__\x00" 0,.bool true,.bool true,sv "" 242] 1,#[]⟩
noncomputable def o18:Obj:=⟨.type "list",Wq,.seq #[] 0,#[]⟩
def o19 (P:Params):Obj:=⟨.type "dict",Wq,.dict #[kv P "name" 208<|sv "_sre" 207,kv P "loader" 209<|.ref 14,kv P "origin" 210<|sv "built-in" 184,kv P "loader_state" 211 .none,kv P "submodule_search_locations" 212 .none,kv P "_uninitialized_submodules" 213<|.ref 19,kv P "_set_fileattr" 214<|.bool false,kv P "_cached" 215 .none,kv P "_initializing" 243<|.bool false] 9,#[]⟩
def o20 (P:Params):Obj:=⟨.type "dict",Wq,.dict #[kv P "__module__" 227<|sv "_frozen_importlib" 217,kv P "__firstlineno__" 228<|.int 562 218,kv P "__doc__" 229<|.builtin "_frozen_importlib.ModuleSpec.__doc__:str#opaque",kv P "__init__" 230<|.builtin "_frozen_importlib.ModuleSpec.__init__#opaque",kv P "__repr__" 231<|.builtin "_frozen_importlib.ModuleSpec.__repr__#opaque",kv P "__eq__" 232<|.builtin "_frozen_importlib.ModuleSpec.__eq__#opaque",kv P "cached" 233<|.builtin "_frozen_importlib.ModuleSpec.cached#opaque",kv P "parent" 234<|.builtin "_frozen_importlib.ModuleSpec.parent#opaque",kv P "has_location" 235<|.builtin "_frozen_importlib.ModuleSpec.has_location#opaque",kv P "__static_attributes__" 236<|.ref 23,kv P "__dict__" 238<|.ref 24,kv P "__weakref__" 240<|.ref 25,kv P "__hash__" 241 .none] 13,#[]⟩
def Gv:Obj:=KQ "ModuleSpec" 22 21
def Gp:Obj:=u0 ["_cached","_set_fileattr","_uninitialized_submodules","loader","loader_state","name","origin","submodule_search_locations"] 219
def o23:Obj:=IV 237 22
def o24:Obj:=IG 239 22
noncomputable def o25:Obj:=⟨.ref 22,Kf 20,.plain,#[]⟩
def o26:Obj:=⟨.none,Wq,.seq #[.int 11 0,.str (PySem.Str.mk #[6,247,8,95,95,110,97,109,101,95,95,6,246,4,95,115,114,101,6,248,7,95,95,100,111,99,95,95,0,6,250,11,95,95,112,97,99,107,97,103,101,95,95,6,249,0,6,251,10,95,95,108,111,97,100,101,114,95,95,4,0,0,14,6,252,8,95,95,115,112,101,99,95,95,4,0,0,26,6,253,7,99,111,109,112,105,108,101,9,12,95,115,114,101,46,99,111,109,112,105,108,101,6,254,8,116,101,109,112,108,97,116,101,9,13,95,115,114,101,46,116,101,109,112,108,97,116,101,6,255,11,103,101,116,99,111,100,101,115,105,122,101,9,16,95,115,114,101,46,103,101,116,99,111,100,101,115,105,122,101,6,256,13,97,115,99,105,105,95,105,115,99,97,115,101,100,9,18,95,115,114,101,46,97,115,99,105,105,95,105,115,99,97,115,101,100,6,257,15,117,110,105,99,111,100,101,95,105,115,99,97,115,101,100,9,20,95,115,114,101,46,117,110,105,99,111,100,101,95,105,115,99,97,115,101,100,6,258,13,97,115,99,105,105,95,116,111,108,111,119,101,114,9,18,95,115,114,101,46,97,115,99,105,105,95,116,111,108,111,119,101,114,6,259,15,117,110,105,99,111,100,101,95,116,111,108,111,119,101,114,9,20,95,115,114,101,46,117,110,105,99,111,100,101,95,116,111,108,111,119,101,114,6,261,5,77,65,71,73,67,4,260,0,20230612,6,263,8,67,79,68,69,83,73,90,69,4,262,0,4,6,265,9,77,65,88,82,69,80,69,65,84,4,264,0,4294967295,6,267,9,77,65,88,71,82,79,85,80,83,4,266,0,1073741823,6,269,9,99,111,112,121,114,105,103,104,116,6,268,53,32,83,82,69,32,50,46,50,46,50,32,67,111,112,121,114,105,103,104,116,32,40,99,41,32,49,57,57,55,45,50,48,48,50,32,98,121,32,83,101,99,114,101,116,32,76,97,98,115,32,65,66,32]) 0,.bool true,.bool false,sv "_sre" 271] 0,#[]⟩
def KT (P:Params):Wu:=⟨Array.mk [o0 P,o1 P,o2 P,o3 P,o4,o5,o6,o7,o8,o9,o10,⟨.type "dict",Wq,.dict #[kv P "__name__" 247<|sv "_sre" 246,kv P "__doc__" 248 .none,kv P "__package__" 250<|sv "" 249,kv P "__loader__" 251<|.ref 14,kv P "__spec__" 252<|.ref 26,kv P "compile" 253<|.builtin "_sre.compile",kv P "template" 254<|.builtin "_sre.template",kv P "getcodesize" 255<|.builtin "_sre.getcodesize",kv P "ascii_iscased" 256<|.builtin "_sre.ascii_iscased",kv P "unicode_iscased" 257<|.builtin "_sre.unicode_iscased",kv P "ascii_tolower" 258<|.builtin "_sre.ascii_tolower",kv P "unicode_tolower" 259<|.builtin "_sre.unicode_tolower",kv P "MAGIC" 261<|.int 20230612 260,kv P "CODESIZE" 263<|.int 4 262,kv P "MAXREPEAT" 265<|.int 4294967295 264,kv P "MAXGROUPS" 267<|.int 1073741823 266,kv P "copyright" 269<|sv " SRE 2.2.2 Copyright (c) 1997-2002 by Secret Labs AB " 268] 17,#[]⟩,mJ,o13 P,o14,o7,o15,o16,o17,o18,o19 P,o20 P,Gv,Gp,o23,o24,o25,o26],{}⟩
def o27 (P:Params):Obj:=⟨.type "dict",Wq,.dict #[kv P "__name__" 247<|sv "_sre" 246,kv P "__doc__" 248 .none,kv P "__package__" 250<|sv "" 249,kv P "__loader__" 251<|.builtin "off-the-table:_sre.__loader__:shared#opaque",kv P "__spec__" 252<|.builtin "off-the-table:_sre.__spec__:shared#opaque",kv P "compile" 253<|.builtin "_sre.compile",kv P "template" 254<|.builtin "off-the-table:_sre.template:shared#opaque",kv P "getcodesize" 255<|.builtin "off-the-table:_sre.getcodesize:shared#opaque",kv P "ascii_iscased" 256<|.builtin "off-the-table:_sre.ascii_iscased:shared#opaque",kv P "unicode_iscased" 257<|.builtin "off-the-table:_sre.unicode_iscased:shared#opaque",kv P "ascii_tolower" 258<|.builtin "off-the-table:_sre.ascii_tolower:shared#opaque",kv P "unicode_tolower" 259<|.builtin "off-the-table:_sre.unicode_tolower:shared#opaque",kv P "MAGIC" 261<|.int 20230612 260,kv P "CODESIZE" 263<|.int 4 262,kv P "MAXREPEAT" 265<|.int 4294967295 264,kv P "MAXGROUPS" 267<|.int 1073741823 266,kv P "copyright" 269<|sv " SRE 2.2.2 Copyright (c) 1997-2002 by Secret Labs AB " 268] 17,#[]⟩
def Cw (P:Params):Wu:=⟨Array.mk [o0 P,o1 P,o2 P,o3 P,o4,o5,o6,o7,o8,o9,o10,o27 P,mJ,o13 P,o14,o7,o15,o16,o17,o18,o19 P,o20 P,Gv,Gp,o23,o24,o25,o26],{}⟩
def o28:Obj:=IH "<module>" 277 1 28 276 280
def Jl:Obj:=IO 30 3 "__main__" 164
def Lm (P:Params):Wu:=⟨Array.mk [o0 P,o1 P,o2 P,o3 P,o4,o5,o6,o7,o8,o9,o10,o27 P,mJ,o13 P,o14,o7,o15,o16,o17,o18,o19 P,o20 P,Gv,Gp,o23,o24,o25,o26,o7,o8,o28,Jl],{}⟩
def Sa (w:Wv)(os:OsState):Wj:=⟨Lm w.params,Array.mk [],⟨0,0,0,0⟩,282,os⟩
def Kt (P:Params):BT:=ap .nil 0 [o0 P,o1 P,o2 P,o3 P,o4,o5,o6,o7,o8,o9,o10,o27 P,mJ,o13 P,o14,o7,o15,o16,o17,o18,o19 P,o20 P,Gv,Gp,o23,o24,o25,o26,o7,o8,o28,Jl]
def S0 (w:Wv)(os:OsState):SharedT:=⟨Kt w.params,32,{},Array.mk [],⟨0,0,0,0⟩,282,os⟩
def o32:Obj:=u4 "k" 285
def JH:Obj:=u5 "_wall"<|bA pw.main.body 1
def o34:Obj:=u8 "_wall" 282 2 1 32 286 287
def o35:Obj:=u6 "_wall" (bA pw.main.body 1) "__main__" 164 37
noncomputable def o37:Obj:=⟨.type "tuple",Wq,.seq #[.none] 0,#[]⟩
def o38:Obj:=H6 [14,4,0,1,4294967295,24,11,0,4294967295,13,6,16,32,16,9,0,1,23,16,0,1,16,35,13,4,8,13,0,24,5,0,4294967295,2,1,18,16,10,1]
def JS:Obj:=JG "\n    [ \\t]*\n    (?: \\# \\S .* )?\n    \\n\n" 292 333 42
def Kq (P:Params):BT:=ap (up (Kt P) [(3,⟨.type "dict",Wq,.dict #[kv P "__name__" 165<|sv "cpy313.idlelib.pyparse" 289,kv P "__doc__" 166 .none,kv P "__package__" 167 .none,kv P "__loader__" 168<|.builtin "__main__.__loader__#opaque",kv P "__spec__" 169 .none,kv P "__annotations__" 170<|.ref 6,kv P "__builtins__" 171<|.ref 4,kv P "__file__" 173<|sv "/claim/cut.py" 172,kv P "__cached__" 174 .none,kv P "_sre" 275<|.ref 12,kv P "_wall" 288<|.ref 38,kv P "_twin_re_2" 334<|.ref 43] 12,#[]⟩),(29,⟨.none,Wq,.fields #[.int 2 0,.int 0 0,.ref 37],#[]⟩)]) 32 [o7,o8,o32,o7,JH,o34,o35,u7 "list" [14,4,0,1,4294967295,24,11,0,4294967295,13,6,16,32,16,9,0,1,23,16,0,1,16,35,13,4,8,13,0,24,5,0,4294967295,2,1,18,16,10,1] 294,o6,o37,o38,JS]
def S1 (w:Wv)(os:OsState):SharedT:=⟨Kq w.params,44,{},Array.mk [],⟨0,0,0,0⟩,335,os⟩
def JL:Obj:=H6 [14,9,4,1,4294967295,16,34,16,39,0,7,72,16,34,16,34,16,34,24,12,0,4294967295,13,7,21,16,34,16,92,0,1,23,37,0,4294967295,7,6,16,92,3,15,15,13,16,34,5,7,0,16,34,16,34,1,15,2,0,24,12,0,4294967295,13,7,21,16,34,16,92,0,1,18,23,9,0,1,16,34,16,34,16,34,18,15,186,56,16,34,24,17,0,4294967295,13,12,21,9,1024,4,268435456,0,0,0,0,0,0,1,23,24,0,4294967295,16,92,3,24,17,0,4294967295,13,12,21,9,1024,4,268435456,0,0,0,0,0,0,1,18,24,6,0,1,16,34,1,15,130,72,16,39,16,39,16,39,24,12,0,4294967295,13,7,21,16,39,16,92,0,1,23,37,0,4294967295,7,6,16,92,3,15,15,13,16,39,5,7,0,16,39,16,39,1,15,2,0,24,12,0,4294967295,13,7,21,16,39,16,92,0,1,18,23,9,0,1,16,39,16,39,16,39,18,15,58,56,16,39,24,17,0,4294967295,13,12,21,9,1024,128,268435456,0,0,0,0,0,0,1,23,24,0,4294967295,16,92,3,24,17,0,4294967295,13,12,21,9,1024,128,268435456,0,0,0,0,0,0,1,18,24,6,0,1,16,39,1,15,2,0,1]
noncomputable def o43:Obj:=⟨.type "re.Pattern",Wq,.fields #[.str (Qq "\n    \\\"\"\" [^\"\\\\]* (?:\n                     (?: \\\\. | \"(?!\"\") )\n                     [^\"\\\\]*\n                 )*\n    (?: \\\"\"\" )?\n\n|   \" [^\"\\\\\\n]* (?: \\\\. [^\"\\\\\\n]* )* \"?\n\n|   ''' [^'\\\\]* (?:\n                   (?: \\\\. | '(?!'') )\n                   [^'\\\\]*\n                )*\n    (?: ''' )?\n\n|   ' [^'\\\\\\n]* (?: \\\\. [^'\\\\\\n]* )* '?\n") 336,.int 112 608,.int 0 0,.none,.none,.ref 47,.int 0 0],#[]⟩
def JO:Obj:=H6 [14,4,0,1,4294967295,24,11,0,4294967295,13,6,16,32,16,9,0,1,13,9,21,8,12,16,35,16,92,0,1]
def JY:Obj:=JG "\n    [ \\t]*\n    [^\\s#\\\\]    # if we match, m.end()-1 is the interesting char\n" 611 642 52
def Ks (P:Params):BT:=ap (up (Kq P) [(3,⟨.type "dict",Wq,.dict #[kv P "__name__" 165<|sv "cpy313.idlelib.pyparse" 289,kv P "__doc__" 166 .none,kv P "__package__" 167 .none,kv P "__loader__" 168<|.builtin "__main__.__loader__#opaque",kv P "__spec__" 169 .none,kv P "__annotations__" 170<|.ref 6,kv P "__builtins__" 171<|.ref 4,kv P "__file__" 173<|sv "/claim/cut.py" 172,kv P "__cached__" 174 .none,kv P "_sre" 275<|.ref 12,kv P "_wall" 288<|.ref 38,kv P "_twin_re_2" 334<|.ref 43,kv P "_twin_re_3" 609<|.ref 48,kv P "_twin_re_4" 643<|.ref 53] 14,#[]⟩)]) 44 [u7 "list" [14,9,4,1,4294967295,16,34,16,39,0,7,72,16,34,16,34,16,34,24,12,0,4294967295,13,7,21,16,34,16,92,0,1,23,37,0,4294967295,7,6,16,92,3,15,15,13,16,34,5,7,0,16,34,16,34,1,15,2,0,24,12,0,4294967295,13,7,21,16,34,16,92,0,1,18,23,9,0,1,16,34,16,34,16,34,18,15,186,56,16,34,24,17,0,4294967295,13,12,21,9,1024,4,268435456,0,0,0,0,0,0,1,23,24,0,4294967295,16,92,3,24,17,0,4294967295,13,12,21,9,1024,4,268435456,0,0,0,0,0,0,1,18,24,6,0,1,16,34,1,15,130,72,16,39,16,39,16,39,24,12,0,4294967295,13,7,21,16,39,16,92,0,1,23,37,0,4294967295,7,6,16,92,3,15,15,13,16,39,5,7,0,16,39,16,39,1,15,2,0,24,12,0,4294967295,13,7,21,16,39,16,92,0,1,18,23,9,0,1,16,39,16,39,16,39,18,15,58,56,16,39,24,17,0,4294967295,13,12,21,9,1024,128,268435456,0,0,0,0,0,0,1,23,24,0,4294967295,16,92,3,24,17,0,4294967295,13,12,21,9,1024,128,268435456,0,0,0,0,0,0,1,18,24,6,0,1,16,39,1,15,2,0,1] 338,o6,o37,JL,o43,u7 "list" [14,4,0,1,4294967295,24,11,0,4294967295,13,6,16,32,16,9,0,1,13,9,21,8,12,16,35,16,92,0,1] 613,o6,o37,JO,JY]
def S2 (w:Wv)(os:OsState):SharedT:=⟨Ks w.params,54,{},Array.mk [],⟨0,0,0,0⟩,644,os⟩
def o49:Obj:=H6 [14,4,0,4,4294967295,24,9,0,4294967295,13,4,8,12,0,1,7,15,16,114,16,101,16,116,16,117,16,114,16,110,15,58,13,16,98,16,114,16,101,16,97,16,107,15,45,19,16,99,16,111,16,110,16,116,16,105,16,110,16,117,16,101,15,26,13,16,114,16,97,16,105,16,115,16,101,15,13,11,16,112,16,97,16,115,16,115,15,2,0,6,10,1]
def J2:Obj:=JG "\n    \\s*\n    (?: return\n    |   break\n    |   continue\n    |   raise\n    |   pass\n    )\n    \\b\n" 645 739 57
def o52:Obj:=H6 [14,4,0,1,4294967295,24,17,1,4294967295,13,12,21,9,0,908,939524096,671088640,0,0,0,0,0,1,1]
noncomputable def o53:Obj:=⟨.type "re.Pattern",Wq,.fields #[.str (Qq "\n    [^[\\](){}#'\"\\\\]+\n") 742,.int 96 769,.int 0 0,.none,.none,.ref 62,.int 0 0],#[]⟩
def Jm:Obj:=BY "re.Pattern.match" 43
def KH (P:Params):BT:=ap (up (Ks P) [(3,⟨.type "dict",Wq,.dict #[kv P "__name__" 165<|sv "cpy313.idlelib.pyparse" 289,kv P "__doc__" 166 .none,kv P "__package__" 167 .none,kv P "__loader__" 168<|.builtin "__main__.__loader__#opaque",kv P "__spec__" 169 .none,kv P "__annotations__" 170<|.ref 6,kv P "__builtins__" 171<|.ref 4,kv P "__file__" 173<|sv "/claim/cut.py" 172,kv P "__cached__" 174 .none,kv P "_sre" 275<|.ref 12,kv P "_wall" 288<|.ref 38,kv P "_twin_re_2" 334<|.ref 43,kv P "_twin_re_3" 609<|.ref 48,kv P "_twin_re_4" 643<|.ref 53,kv P "_twin_re_5" 740<|.ref 58,kv P "_twin_re_6" 770<|.ref 63,kv P "C_NONE" 779<|.int 0 774,kv P "C_BACKSLASH" 780<|.int 1 775,kv P "C_STRING_FIRST_LINE" 781<|.int 2 776,kv P "C_STRING_NEXT_LINES" 782<|.int 3 777,kv P "C_BRACKET" 783<|.int 4 778,kv P "_junkre" 785<|.ref 68] 22,#[]⟩)]) 54 [u7 "list" [14,4,0,4,4294967295,24,9,0,4294967295,13,4,8,12,0,1,7,15,16,114,16,101,16,116,16,117,16,114,16,110,15,58,13,16,98,16,114,16,101,16,97,16,107,15,45,19,16,99,16,111,16,110,16,116,16,105,16,110,16,117,16,101,15,26,13,16,114,16,97,16,105,16,115,16,101,15,13,11,16,112,16,97,16,115,16,115,15,2,0,6,10,1] 647,o6,o37,o49,J2,u7 "list" [14,4,0,1,4294967295,24,17,1,4294967295,13,12,21,9,0,908,939524096,671088640,0,0,0,0,0,1,1] 744,o6,o37,o52,o53,⟨.type "range",Wq,.fields #[.int 0 772,.int 5 771,.int 1 773],#[]⟩,Dv [5,0,1],o7,u9 66,Jm]
def S3 (w:Wv)(os:OsState):SharedT:=⟨KH w.params,69,{},Array.mk [],⟨0,0,0,0⟩,786,os⟩
def Jg:Obj:=BY "re.Pattern.match" 48
def o61:Obj:=BY "re.Pattern.match" 53
def Km:Obj:=BY "re.Pattern.match" 58
def o63:Obj:=BY "re.Pattern.match" 63
noncomputable def o64:Obj:=⟨.type "tuple",Wq,.seq #[.type "dict"] 0,#[]⟩
noncomputable def o65:Obj:=⟨.type "builtin_function_or_method",Wq,.fields #[.builtin "type.__prepare__",.type "type"],#[]⟩
def o70:Obj:=u0 ["self","key"] 809
def o71:Obj:=⟨.none,Wq,.func ⟨Qq "__missing__",Qq "ParseMap.__missing__",gZ<|bA (cY<|bA pw.main.body 14) 0,.stmts<|cY<|bA (cY<|bA pw.main.body 14) 0,er<|bA (cY<|bA pw.main.body 14) 0,0,[],.none,.none,.none,.none,Wq,.none,.none,0⟩,#[]⟩
def o72:Obj:=⟨.type "code",Wq,.fields #[sv "__missing__" 806,sv "ParseMap.__missing__" 807,sv "/claim/cut.py" 808,.int 19 0,.int 2 0,.int 0 0,.int 0 0,.int 3 0,.ref 80,.bool true,.int 276 0,.ref 81,.none,.ref 82,.ref 83,.ref 84,.int 811 0,.int 19 0,sv "/claim/cut.py" 812],#[]⟩
def o73:Obj:=⟨.type "function",Wq,.func ⟨Qq "__missing__",Qq "ParseMap.__missing__",gZ<|bA (cY<|bA pw.main.body 14) 0,.stmts<|cY<|bA (cY<|bA pw.main.body 14) 0,er<|bA (cY<|bA pw.main.body 14) 0,3,[],.none,.none,.none,sv "cpy313.idlelib.pyparse" 289,Wq,.ref 85,.none,0⟩,#[]⟩
def o74 (P:Params):Obj:=⟨.type "dict",Wq,.dict #[kv P "__module__" 801<|sv "cpy313.idlelib.pyparse" 289,kv P "__firstlineno__" 805<|.int 17 804,kv P "__missing__" 813<|.ref 86,kv P "__static_attributes__" 814<|.ref 87,kv P "__dict__" 816<|.ref 90,kv P "__weakref__" 818<|.ref 91,kv P "__doc__" 819 .none] 4,#[]⟩
def o75:Obj:=⟨.type "type",Wq,.cls ⟨Qq "ParseMap",[.type "dict"],[.ref 89,.type "dict",.type "object"],88,Qq "ParseMap",true,[],[],false,Wq,false⟩,#[Kf<|.ref 73,Wq,Kf<|sv "ParseMap" 794,Kf<|sv "ParseMap" 802,Kf<|.builtin "dict.__new__",Kf<|.bool true]⟩
def Jn:Obj:=IV 815 89
def o77:Obj:=IG 817 89
def KJ (P:Params):BT:=ap (up (KH P) [(3,⟨.type "dict",Wq,.dict #[kv P "__name__" 165<|sv "cpy313.idlelib.pyparse" 289,kv P "__doc__" 166 .none,kv P "__package__" 167 .none,kv P "__loader__" 168<|.builtin "__main__.__loader__#opaque",kv P "__spec__" 169 .none,kv P "__annotations__" 170<|.ref 6,kv P "__builtins__" 171<|.ref 4,kv P "__file__" 173<|sv "/claim/cut.py" 172,kv P "__cached__" 174 .none,kv P "_sre" 275<|.ref 12,kv P "_wall" 288<|.ref 38,kv P "_twin_re_2" 334<|.ref 43,kv P "_twin_re_3" 609<|.ref 48,kv P "_twin_re_4" 643<|.ref 53,kv P "_twin_re_5" 740<|.ref 58,kv P "_twin_re_6" 770<|.ref 63,kv P "C_NONE" 779<|.int 0 774,kv P "C_BACKSLASH" 780<|.int 1 775,kv P "C_STRING_FIRST_LINE" 781<|.int 2 776,kv P "C_STRING_NEXT_LINES" 782<|.int 3 777,kv P "C_BRACKET" 783<|.int 4 778,kv P "_junkre" 785<|.ref 68,kv P "_match_stringre" 787<|.ref 69,kv P "_itemre" 789<|.ref 70,kv P "_closere" 791<|.ref 71,kv P "_chew_ordinaryre" 793<|.ref 72,kv P "ParseMap" 821<|.ref 89] 27,#[]⟩),(29,⟨.none,Wq,.fields #[.int 2 0,.int 0 0,.ref 37,.int 17 0,.int 0 0,.ref 78],#[]⟩)]) 69 [Jg,o61,Km,o63,o64,o65,⟨.type "dict",Wq,.dict #[kv P "__module__" 801<|sv "cpy313.idlelib.pyparse" 289,kv P "__qualname__" 803<|sv "ParseMap" 802,kv P "__firstlineno__" 805<|.int 17 804,kv P "__missing__" 813<|.ref 86,kv P "__static_attributes__" 814<|.ref 87] 5,#[]⟩,o7,⟨.none,Wq,.fields #[.int 19 0,.int 4 0,.ref 85],#[]⟩,IH "ParseMap" 796 17 76 276 799,IO 78 75 "cpy313.idlelib.pyparse" 289,o7,o8,o70,o7,o71,o72,o73,o7,o74 P,o75,Jn,o77,⟨.type "super",Wq,.fields #[.ref 89,.ref 89,.ref 89],#[]⟩,BY "object.__init_subclass__" 89]
def S4 (w:Wv)(os:OsState):SharedT:=⟨KJ w.params,94,{},Array.mk [],⟨0,0,0,0⟩,822,os⟩
def CH (P:Params):BT:=ap (KJ P) 94 [BY "dict.fromkeys" 89,⟨.type "range",Wq,.fields #[.int 0 824,.int 128 823,.int 1 825],#[]⟩,o6,⟨.ref 89,Kf 96,.dict #[] 0,#[]⟩,Dv [0,128,1]]
def HH (w:Wv)(os:OsState):SharedT:=⟨CH w.params,99,{},Array.mk [],⟨0,0,0,0⟩,827,os⟩
def BP (P:Params):BT:=up (CH P) [(97,(Ia 25)),(98,(Dv [25,103,1]))]
def G7 (w:Wv)(os:OsState):SharedT:=⟨BP w.params,99,{},Array.mk [],⟨0,0,0,0⟩,877,os⟩
def CG (P:Params):BT:=up (BP P) [(97,(Ia 50)),(98,(Dv [50,78,1]))]
def GO (w:Wv)(os:OsState):SharedT:=⟨CG w.params,99,{},Array.mk [],⟨0,0,0,0⟩,927,os⟩
def BV (P:Params):BT:=up (CG P) [(97,(Ia 75)),(98,(Dv [75,53,1]))]
def Ir (w:Wv)(os:OsState):SharedT:=⟨BV w.params,99,{},Array.mk [],⟨0,0,0,0⟩,977,os⟩
def CI (P:Params):BT:=up (BV P) [(97,(Ia 100)),(98,(Dv [100,28,1]))]
def y9 (w:Wv)(os:OsState):SharedT:=⟨CI w.params,99,{},Array.mk [],⟨0,0,0,0⟩,1027,os⟩
def KB (P:Params):BT:=ap (up (CI P) [(3,⟨.type "dict",Wq,.dict #[kv P "__name__" 165<|sv "cpy313.idlelib.pyparse" 289,kv P "__doc__" 166 .none,kv P "__package__" 167 .none,kv P "__loader__" 168<|.builtin "__main__.__loader__#opaque",kv P "__spec__" 169 .none,kv P "__annotations__" 170<|.ref 6,kv P "__builtins__" 171<|.ref 4,kv P "__file__" 173<|sv "/claim/cut.py" 172,kv P "__cached__" 174 .none,kv P "_sre" 275<|.ref 12,kv P "_wall" 288<|.ref 38,kv P "_twin_re_2" 334<|.ref 43,kv P "_twin_re_3" 609<|.ref 48,kv P "_twin_re_4" 643<|.ref 53,kv P "_twin_re_5" 740<|.ref 58,kv P "_twin_re_6" 770<|.ref 63,kv P "C_NONE" 779<|.int 0 774,kv P "C_BACKSLASH" 780<|.int 1 775,kv P "C_STRING_FIRST_LINE" 781<|.int 2 776,kv P "C_STRING_NEXT_LINES" 782<|.int 3 777,kv P "C_BRACKET" 783<|.int 4 778,kv P "_junkre" 785<|.ref 68,kv P "_match_stringre" 787<|.ref 69,kv P "_itemre" 789<|.ref 70,kv P "_closere" 791<|.ref 71,kv P "_chew_ordinaryre" 793<|.ref 72,kv P "ParseMap" 821<|.ref 89,kv P "trans" 1083<|.ref 97] 28,#[]⟩),(97,(Ia 128)),(98,(Dv [128,0,1]))]) 99 [o7,u9 99]
def S5 (w:Wv)(os:OsState):SharedT:=⟨KB w.params,101,{},Array.mk [],⟨0,0,0,0⟩,1084,os⟩
noncomputable def o88:Obj:=⟨.type "str_ascii_iterator",Wq,.fields #[.none,.int 3 0],#[]⟩
def Kw (P:Params):BT:=ap (up (KB P) [(29,⟨.none,Wq,.fields #[.int 2 0,.int 0 0,.ref 37,.int 17 0,.int 0 0,.ref 78,.int 22 0,.int 13 0,.ref 104],#[]⟩),(97,⟨.ref 89,Kf 96,.dict ⟨(kr 0 827 120 826 40)++[ki 40 907 40 1100]++(kr 41 909 120 826 50)++[ki 91 1009 40 1112]++(kr 92 1011 120 826 31)++[ki 123 1073 40 1106]++(kr 124 1075 120 826 4)⟩ 128,#[]⟩)]) 101 [o88,o7,o8,J4 1085 22 102 1088,I5 P 1090 101 "[" 1108,Jv 0 1091,u4 "'generator' object has no attribute 'keys'" 1094,Jh 107 1095 106,Gk 40 1098 40,Gk 123 1104 40,Gk 91 1110 40,o7,u9 112,o7,u9 114]
def S6 (w:Wv)(os:OsState):SharedT:=⟨Kw w.params,116,{},Array.mk [.finished],⟨0,0,0,0⟩,1114,os⟩
def KN (P:Params):BT:=ap (up (Kw P) [(29,⟨.none,Wq,.fields #[.int 2 0,.int 0 0,.ref 37,.int 17 0,.int 0 0,.ref 78,.int 22 0,.int 13 0,.ref 104,.int 23 0,.int 13 0,.ref 119],#[]⟩),(97,⟨.ref 89,Kf 96,.dict ⟨(kr 0 827 120 826 40)++[ki 40 907 40 1100,ki 41 909 41 1130]++(kr 42 911 120 826 49)++[ki 91 1009 40 1112,ki 92 1011 120 826,ki 93 1013 41 1142]++(kr 94 1015 120 826 29)++[ki 123 1073 40 1106,ki 124 1075 120 826,ki 125 1077 41 1136,ki 126 1079 120 826,ki 127 1081 120 826]⟩ 128,#[]⟩)]) 116 [o88,o7,o8,J4 1115 23 117 1118,I5 P 1120 116 "]" 1138,Jv 1 1121,u4 "'generator' object has no attribute 'keys'" 1124,Jh 122 1125 121,Gk 41 1128 41,Gk 125 1134 41,Gk 93 1140 41,o7,u9 127,o7,u9 129]
def S7 (w:Wv)(os:OsState):SharedT:=⟨KN w.params,131,{},Array.mk [.finished,.finished],⟨0,0,0,0⟩,1144,os⟩
def o112:Obj:=⟨.ref 89,Kf 96,.dict ⟨(kr 0 827 120 826 10)++[ki 10 847 10 1174]++(kr 11 849 120 826 23)++[ki 34 895 34 1159,ki 35 897 35 1179]++(kr 36 899 120 826 3)++[ki 39 905 39 1164,ki 40 907 40 1100,ki 41 909 41 1130]++(kr 42 911 120 826 49)++[ki 91 1009 40 1112,ki 92 1011 92 1169,ki 93 1013 41 1142]++(kr 94 1015 120 826 29)++[ki 123 1073 40 1106,ki 124 1075 120 826,ki 125 1077 41 1136,ki 126 1079 120 826,ki 127 1081 120 826]⟩ 128,#[]⟩
def KC (P:Params):BT:=ap (up (KN P) [(29,⟨.none,Wq,.fields #[.int 2 0,.int 0 0,.ref 37,.int 17 0,.int 0 0,.ref 78,.int 22 0,.int 13 0,.ref 104,.int 23 0,.int 13 0,.ref 119,.int 24 0,.int 13 0,.ref 134],#[]⟩),(97,o112)]) 131 [⟨.type "str_ascii_iterator",Wq,.fields #[.none,.int 5 0],#[]⟩,o7,o8,J4 1145 24 132 1148,I5 P 1150 131 "#" 1176,Jv 2 1151,u4 "'generator' object has no attribute 'keys'" 1154,Jh 137 1155 136,u7 "tuple" [34,34] 1158,u7 "tuple" [39,39] 1163,u7 "tuple" [92,92] 1168,u7 "tuple" [10,10] 1173,u7 "tuple" [35,35] 1178,o7,u9 144,o7,u9 146]
def S8 (w:Wv)(os:OsState):SharedT:=⟨KC w.params,148,{},Array.mk [.finished,.finished,.finished],⟨0,0,0,0⟩,1181,os⟩
def D0:Obj:=u0 ["self","indentwidth","tabwidth"] 1196
def o133:Obj:=u2 "__init__"<|mb 0
def ET:Obj:=u1 "__init__" 1193 27 3 155 1199 1200
def Fk:Obj:=u3 "__init__" (mb 0) 160
def o136:Obj:=u0 ["self","s"] 1205
def DX:Obj:=u2 "set_code"<|mb 1
def o138:Obj:=u1 "set_code" 1202 31 2 162 1207 1208
def o139:Obj:=u3 "set_code" (mb 1) 167
def o140:Obj:=u0 ["self","is_char_in_string"] 1213
def E2:Obj:=u2 "find_good_parse_start"<|mb 2
def o142:Obj:=u1 "find_good_parse_start" 1210 36 2 169 1215 1216
def o143:Obj:=u3 "find_good_parse_start" (mb 2) 174
def Dx:Obj:=u0 ["self","lo"] 1221
def o145:Obj:=u2 "set_lo"<|mb 3
def o146:Obj:=u1 "set_lo" 1218 39 2 176 1223 1224
def o147:Obj:=u3 "set_lo" (mb 3) 181
def o148:Obj:=u0 ["self","code","continuation","level","lno","goodlines","push_good","i","n","ch","quote","firstlno","w"] 1229
def EM:Obj:=u2 "_study1"<|mb 4
def o150:Obj:=u1 "_study1" 1226 42 1 183 1242 1243
def o151:Obj:=u3 "_study1" (mb 4) 188
def o152:Obj:=u4 "self" 1248
def o153:Obj:=u2 "get_continuation_type"<|mb 5
def Fa:Obj:=u1 "get_continuation_type" 1245 127 1 190 1249 1250
def o155:Obj:=u3 "get_continuation_type" (mb 5) 195
def o156:Obj:=u0 ["self","code","goodlines","i","p","q","nothing","lastch","stack","push_stack","bracketing","m","newp","ch"] 1255
def Dp:Obj:=u2 "_study2"<|mb 6
def FE:Obj:=u1 "_study2" 1252 131 1 197 1269 1270
def DO:Obj:=u3 "_study2" (mb 6) 202
def E8:Obj:=u0 ["self","j","code","n","origi","i","m","extra"] 1275
def FS:Obj:=u2 "compute_bracket_indent"<|mb 7
def De:Obj:=u1 "compute_bracket_indent" 1272 204 1 204 1283 1284
def o163:Obj:=u3 "compute_bracket_indent" (mb 7) 209
def o164:Obj:=u0 ["self","goodlines"] 1289
def o165:Obj:=u2 "get_num_lines_in_stmt"<|mb 8
def o166:Obj:=u1 "get_num_lines_in_stmt" 1286 227 1 211 1291 1292
def o167:Obj:=u3 "get_num_lines_in_stmt" (mb 8) 216
def o168:Obj:=u4 "self" 1297
def o169:Obj:=u2 "compute_backslash_indent"<|mb 9
def o170:Obj:=u1 "compute_backslash_indent" 1294 232 1 218 1298 1299
def o171:Obj:=u3 "compute_backslash_indent" (mb 9) 223
def o172:Obj:=u4 "self" 1304
def E5:Obj:=JV "get_base_indent_string" (mb 10)<|mb 9
def ED:Obj:=u1 "get_base_indent_string" 1301 235 1 225 1305 1306
def o175:Obj:=J6 "get_base_indent_string" (mb 10) (mb 9) 230
def o176:Obj:=u4 "self" 1311
def o177:Obj:=JV "is_block_opener" (mb 11)<|mb 5
def o178:Obj:=u1 "is_block_opener" 1308 238 1 232 1312 1313
def o179:Obj:=J6 "is_block_opener" (mb 11) (mb 5) 237
def o180:Obj:=u4 "self" 1318
def o181:Obj:=u2 "is_block_closer"<|mb 12
def o182:Obj:=u1 "is_block_closer" 1315 242 1 239 1319 1320
def Dr:Obj:=u3 "is_block_closer" (mb 12) 244
def o184:Obj:=u4 "self" 1325
def o185:Obj:=JV "get_last_stmt_bracketing" (mb 13)<|mb 5
def o186:Obj:=u1 "get_last_stmt_bracketing" 1322 246 1 246 1326 1327
def o187:Obj:=J6 "get_last_stmt_bracketing" (mb 13) (mb 5) 251
def o188:Obj:=u0 ["code","continuation","goodlines","indentwidth","lastch","lastopenbracketpos","stmt_bracketing","stmt_end","stmt_start","study_level","tabwidth"] 1329
def DC (P:Params):Obj:=⟨.type "dict",Wq,.dict #[kv P "__module__" 1188<|sv "cpy313.idlelib.pyparse" 289,kv P "__firstlineno__" 1192<|.int 25 1191,kv P "__init__" 1201<|.ref 161,kv P "set_code" 1209<|.ref 168,kv P "find_good_parse_start" 1217<|.ref 175,kv P "set_lo" 1225<|.ref 182,kv P "_study1" 1244<|.ref 189,kv P "get_continuation_type" 1251<|.ref 196,kv P "_study2" 1271<|.ref 203,kv P "compute_bracket_indent" 1285<|.ref 210,kv P "get_num_lines_in_stmt" 1293<|.ref 217,kv P "compute_backslash_indent" 1300<|.ref 224,kv P "get_base_indent_string" 1307<|.ref 231,kv P "is_block_opener" 1314<|.ref 238,kv P "is_block_closer" 1321<|.ref 245,kv P "get_last_stmt_bracketing" 1328<|.ref 252,kv P "__static_attributes__" 1340<|.ref 253,kv P "__dict__" 1342<|.ref 256,kv P "__weakref__" 1344<|.ref 257,kv P "__doc__" 1345 .none] 4,#[]⟩
def o190:Obj:=⟨.type "type",Wq,.cls ⟨Qq "Parser",[.type "object"],[.ref 255,.type "object"],254,Qq "Parser",true,[],[],false,Wq,false⟩,#[Wq,Wq,Kf<|sv "Parser" 1181,Kf<|sv "Parser" 1189,Kf<|.builtin "object.__new__",Kf<|.bool true]⟩
def ER:Obj:=IV 1341 255
def Fc:Obj:=IG 1343 255
def Kp (P:Params):BT:=ap (up (KC P) [(3,⟨.type "dict",Wq,.dict #[kv P "__name__" 165<|sv "cpy313.idlelib.pyparse" 289,kv P "__doc__" 166 .none,kv P "__package__" 167 .none,kv P "__loader__" 168<|.builtin "__main__.__loader__#opaque",kv P "__spec__" 169 .none,kv P "__annotations__" 170<|.ref 6,kv P "__builtins__" 171<|.ref 4,kv P "__file__" 173<|sv "/claim/cut.py" 172,kv P "__cached__" 174 .none,kv P "_sre" 275<|.ref 12,kv P "_wall" 288<|.ref 38,kv P "_twin_re_2" 334<|.ref 43,kv P "_twin_re_3" 609<|.ref 48,kv P "_twin_re_4" 643<|.ref 53,kv P "_twin_re_5" 740<|.ref 58,kv P "_twin_re_6" 770<|.ref 63,kv P "C_NONE" 779<|.int 0 774,kv P "C_BACKSLASH" 780<|.int 1 775,kv P "C_STRING_FIRST_LINE" 781<|.int 2 776,kv P "C_STRING_NEXT_LINES" 782<|.int 3 777,kv P "C_BRACKET" 783<|.int 4 778,kv P "_junkre" 785<|.ref 68,kv P "_match_stringre" 787<|.ref 69,kv P "_itemre" 789<|.ref 70,kv P "_closere" 791<|.ref 71,kv P "_chew_ordinaryre" 793<|.ref 72,kv P "ParseMap" 821<|.ref 89,kv P "trans" 1083<|.ref 97,kv P "Parser" 1347<|.ref 255] 29,#[]⟩),(29,⟨.none,Wq,.fields #[.int 2 0,.int 0 0,.ref 37,.int 17 0,.int 0 0,.ref 78,.int 22 0,.int 13 0,.ref 104,.int 23 0,.int 13 0,.ref 119,.int 24 0,.int 13 0,.ref 134,.int 25 0,.int 0 0,.ref 153],#[]⟩)]) 148 [o7,o65,⟨.type "dict",Wq,.dict #[kv P "__module__" 1188<|sv "cpy313.idlelib.pyparse" 289,kv P "__qualname__" 1190<|sv "Parser" 1189,kv P "__firstlineno__" 1192<|.int 25 1191,kv P "__init__" 1201<|.ref 161,kv P "set_code" 1209<|.ref 168,kv P "find_good_parse_start" 1217<|.ref 175,kv P "set_lo" 1225<|.ref 182,kv P "_study1" 1244<|.ref 189,kv P "get_continuation_type" 1251<|.ref 196,kv P "_study2" 1271<|.ref 203,kv P "compute_bracket_indent" 1285<|.ref 210,kv P "get_num_lines_in_stmt" 1293<|.ref 217,kv P "compute_backslash_indent" 1300<|.ref 224,kv P "get_base_indent_string" 1307<|.ref 231,kv P "is_block_opener" 1314<|.ref 238,kv P "is_block_closer" 1321<|.ref 245,kv P "get_last_stmt_bracketing" 1328<|.ref 252,kv P "__static_attributes__" 1340<|.ref 253] 18,#[]⟩,o7,⟨.none,Wq,.fields #[.int 27 0,.int 4 0,.ref 160,.int 31 0,.int 4 0,.ref 167,.int 36 0,.int 4 0,.ref 174,.int 39 0,.int 4 0,.ref 181,.int 42 0,.int 4 0,.ref 188,.int 127 0,.int 4 0,.ref 195,.int 131 0,.int 4 0,.ref 202,.int 204 0,.int 4 0,.ref 209,.int 227 0,.int 4 0,.ref 216,.int 232 0,.int 4 0,.ref 223,.int 235 0,.int 4 0,.ref 230,.int 238 0,.int 4 0,.ref 237,.int 242 0,.int 4 0,.ref 244,.int 246 0,.int 4 0,.ref 251],#[]⟩,IH "Parser" 1183 25 151 276 1186,IO 153 150 "cpy313.idlelib.pyparse" 289,o7,o8,D0,o7,o133,ET,Fk,o7,o8,o136,o7,DX,o138,o139,o7,o8,o140,o7,E2,o142,o143,o7,o8,Dx,o7,o145,o146,o147,o7,o8,o148,o7,EM,o150,o151,o7,o8,o152,o7,o153,Fa,o155,o7,o8,o156,o7,Dp,FE,DO,o7,o8,E8,o7,FS,De,o163,o7,o8,o164,o7,o165,o166,o167,o7,o8,o168,o7,o169,o170,o171,o7,o8,o172,o7,E5,ED,o175,o7,o8,o176,o7,o177,o178,o179,o7,o8,o180,o7,o181,o182,Dr,o7,o8,o184,o7,o185,o186,o187,o188,DC P,o190,ER,Fc,⟨.type "super",Wq,.fields #[.ref 255,.ref 255,.ref 255],#[]⟩,BY "object.__init_subclass__" 255]
def S9 (w:Wv)(os:OsState):SharedT:=⟨Kp w.params,260,{},Array.mk [.finished,.finished,.finished],⟨0,0,0,0⟩,1348,os⟩
def o195 (P:Params):Obj:=⟨.type "dict",Wq,.dict #[kv P "__name__" 165<|sv "law_dm0168_03" 1348,kv P "__doc__" 166 .none,kv P "__package__" 167 .none,kv P "__loader__" 168<|.builtin "__main__.__loader__#opaque",kv P "__spec__" 169 .none,kv P "__annotations__" 170<|.ref 6,kv P "__builtins__" 171<|.ref 4,kv P "__file__" 173<|sv "/claim/cut.py" 172,kv P "__cached__" 174 .none,kv P "_sre" 275<|.ref 12,kv P "_wall" 288<|.ref 38,kv P "_twin_re_2" 334<|.ref 43,kv P "_twin_re_3" 609<|.ref 48,kv P "_twin_re_4" 643<|.ref 53,kv P "_twin_re_5" 740<|.ref 58,kv P "_twin_re_6" 770<|.ref 63,kv P "C_NONE" 779<|.int 0 774,kv P "C_BACKSLASH" 780<|.int 1 775,kv P "C_STRING_FIRST_LINE" 781<|.int 2 776,kv P "C_STRING_NEXT_LINES" 782<|.int 3 777,kv P "C_BRACKET" 783<|.int 4 778,kv P "_junkre" 785<|.ref 68,kv P "_match_stringre" 787<|.ref 69,kv P "_itemre" 789<|.ref 70,kv P "_closere" 791<|.ref 71,kv P "_chew_ordinaryre" 793<|.ref 72,kv P "ParseMap" 821<|.ref 89,kv P "trans" 1083<|.ref 97,kv P "Parser" 1347<|.ref 255,kv P "_law_draw" 1357<|.ref 266,kv P "_law_string" 1366<|.ref 273,kv P "_law_statement" 1380<|.ref 280,kv P "_law_past" 1388<|.ref 287,kv P "_law_column" 1398<|.ref 294,kv P "_law_indent" 1410<|.ref 301,kv P "_law_read" 1431<|.ref 308,kv P "_law_ask" 1439<|.ref 315,kv P "law" 1445<|.ref 320] 38,#[]⟩
def Fo:Obj:=u0 ["pool","bound"] 1353
def o198:Obj:=u5 "_law_draw"<|bA pw.main.body 21
def E6:Obj:=u8 "_law_draw" 1350 250 2 260 1355 1356
def o200:Obj:=u6 "_law_draw" (bA pw.main.body 21) "law_dm0168_03" 1348 265
def o201:Obj:=u0 ["text","k","mark"] 1361
def o202:Obj:=u5 "_law_string"<|bA pw.main.body 22
def o203:Obj:=u8 "_law_string" 1358 254 2 267 1364 1365
def Fw:Obj:=u6 "_law_string" (bA pw.main.body 22) "law_dm0168_03" 1348 272
def DV:Obj:=u0 ["text","k","rows","pile","last","sign","stop","ends"] 1370
def o206:Obj:=u5 "_law_statement"<|bA pw.main.body 23
def o207:Obj:=u8 "_law_statement" 1367 268 2 274 1378 1379
def o208:Obj:=u6 "_law_statement" (bA pw.main.body 23) "law_dm0168_03" 1348 279
def o209:Obj:=u0 ["text","k"] 1384
def Ez:Obj:=u5 "_law_past"<|bA pw.main.body 24
def FH:Obj:=u8 "_law_past" 1381 306 2 281 1386 1387
def DK:Obj:=u6 "_law_past" (bA pw.main.body 24) "law_dm0168_03" 1348 286
def Ee:Obj:=u0 ["text","tab","column","sign"] 1392
def D7:Obj:=u5 "_law_column"<|bA pw.main.body 25
def DE:Obj:=u8 "_law_column" 1389 310 2 288 1396 1397
def DS:Obj:=u6 "_law_column" (bA pw.main.body 25) "law_dm0168_03" 1348 293
def C8:Obj:=u0 ["text","place","step","tab","k","first"] 1402
def FN:Obj:=u5 "_law_indent"<|bA pw.main.body 26
def DH:Obj:=u8 "_law_indent" 1399 320 4 295 1408 1409
def FV:Obj:=u6 "_law_indent" (bA pw.main.body 26) "law_dm0168_03" 1348 300
def o221:Obj:=u0 ["text","step","tab","k","place","good","rows","pile","last","kind","stop","lines","first","word","told"] 1414
def o222:Obj:=u5 "_law_read"<|bA pw.main.body 27
def Dm:Obj:=u8 "_law_read" 1411 328 3 302 1429 1430
def o224:Obj:=u6 "_law_read" (bA pw.main.body 27) "law_dm0168_03" 1348 307
def Em:Obj:=u0 ["parser","way"] 1435
def o226:Obj:=u5 "_law_ask"<|bA pw.main.body 28
def Gh:Obj:=u8 "_law_ask" 1432 348 2 309 1437 1438
def Dy:Obj:=u6 "_law_ask" (bA pw.main.body 28) "law_dm0168_03" 1348 314
def EE:Obj:=u5 "law"<|bA pw.main.body 29
def FJ:Obj:=⟨.type "code",Wq,.fields #[sv "law" 1440,sv "law" 1441,sv "/claim/cut.py" 1442,.int 363 0,.int 1 0,.int 0 0,.int 0 0,.int 3 0,.ref 316,.bool true,.int 276 0,.ref 317,.none,.none,.none,.ref 318,.int 1443 0,.int 363 0,sv "/claim/cut.py" 1444],#[]⟩
def o231:Obj:=u6 "law" (bA pw.main.body 29) "law_dm0168_03" 1348 319
def Iu (P:Params):BT:=ap (up (Kp P) [(3,o195 P),(29,⟨.none,Wq,.fields #[.int 2 0,.int 0 0,.ref 37,.int 17 0,.int 0 0,.ref 78,.int 22 0,.int 13 0,.ref 104,.int 23 0,.int 13 0,.ref 119,.int 24 0,.int 13 0,.ref 134,.int 25 0,.int 0 0,.ref 153,.int 250 0,.int 0 0,.ref 265,.int 254 0,.int 0 0,.ref 272,.int 268 0,.int 0 0,.ref 279,.int 306 0,.int 0 0,.ref 286,.int 310 0,.int 0 0,.ref 293,.int 320 0,.int 0 0,.ref 300,.int 328 0,.int 0 0,.ref 307,.int 348 0,.int 0 0,.ref 314,.int 363 0,.int 0 0,.ref 319],#[]⟩)]) 260 [o7,o8,Fo,o7,o198,E6,o200,o7,o8,o201,o7,o202,o203,Fw,o7,o8,DV,o7,o206,o207,o208,o7,o8,o209,o7,Ez,FH,DK,o7,o8,Ee,o7,D7,DE,DS,o7,o8,C8,o7,FN,DH,FV,o7,o8,o221,o7,o222,Dm,o224,o7,o8,Em,o7,o226,Gh,Dy,o7,o8,EE,FJ,o231]
def KM (w:Wv)(os:OsState):SharedT:=⟨Iu w.params,321,{},Array.mk [.finished,.finished,.finished],⟨0,0,0,0⟩,1446,os⟩
def He (P:Params):Wu:=absHeap (Iu P) 321 {}
def Sf (w:Wv)(os:OsState):Wj:=⟨He w.params,Array.mk [.finished,.finished,.finished],⟨0,0,0,0⟩,1446,os⟩
def bE:List Stmt:=behindTheImports pw
def env:Env:={scope:=pw.main.scope,locals:=mainNs,globals:=mainNs,cells:=[],code:=(.ref 30),frame:=Kf 31}
def cE:Code:=.body bE env
noncomputable def B:List Frame:=[topFrame ⟨0,0,0,0⟩]
noncomputable def an:Option Wx:=(Kf<|.ref 6)
def Z (w:Wv)(os:OsState):Wj:=⟨Cw w.params,Array.mk [],⟨0,0,0,0⟩,276,os⟩
theorem J1 (w:Wv)(b:OsState):topGo treeTable pw w 28 an 12 (Z w b) (topStub pw)=Kf (Sa w b,⟨denote treeTable cE,cE,⟨0,0,0,0⟩,B⟩):=by rewrite[tH,tF,tD];kernel_rfl
theorem Lv (w:Wv)(b:OsState):segRun treeTable pw w 28 an 1 1 (Sa w b) (blockOf bE env cE ⟨0,0,0,0⟩ B)=Kf (.next,(S0 w b).abs,cE,⟨0,0,0,0⟩):=by rewrite[tG,tF];kernel_rfl
def st (l:List Nat):List Stmt:=l.map<|bA pw.main.body
def pc (l:List Nat)(a:Pos)(_:Wv)(_:OsState):Thread:=piecesOf (st l) env cE a B
def SQ (n:Nat)(S:Wv->OsState->SharedT)(t:Wv->OsState->Thread)(S1:Wv->OsState->SharedT)(b:Pos)(w:Wv):Prop:=∀os,segRunT treeTable pw w 28 an 1 n (S w os) (t w os)=Kf (.next,S1 w os,cE,b)
theorem t2 {P:Wv->Prop}(h:∀b w,P<|Xk w "special-get-raises" b):∀w,P w:=byRow2 "special-get-raises" (P:=P) (h false)<|h true
theorem t4 {P:Wv->Prop}(h:∀a b w,P<|Xk (Xk w "special-get-raises" a) "comprehension-iter-twice" b):∀w,P w:=byRow2 "comprehension-iter-twice" (P:=P) (t2 (P:=λ w=>P<|Xk w "comprehension-iter-twice" false) λ a w=>h a false w)<|t2 (P:=λ w=>P<|Xk w "comprehension-iter-twice" true) λ a w=>h a true w
theorem q1:∀w,SQ 126 S0 (pc [1,2,3] ⟨0,0,0,0⟩) S1 ⟨6,0,6,10⟩ w:=by intro w;unfold SQ;rewrite[tA,tF];intro b;kernel_rfl
theorem q2:∀w,SQ 396 S1 (pc [4,5] ⟨6,0,6,10⟩) S2 ⟨8,0,8,10⟩ w:=by intro w;unfold SQ;rewrite[tA,tF];intro b;kernel_rfl
theorem q3:∀w,SQ 392 S2 (pc [6,7,8,9] ⟨8,0,8,10⟩) S3 ⟨12,0,12,7⟩ w:=t2<|by intro a w;cases a<;>(unfold SQ;rewrite[tA,tF];intro b;kernel_rfl)
theorem q4:∀w,SQ 334 S3 (pc [10,11,12,13,14] ⟨12,0,12,7⟩) S4 ⟨17,0,20,18⟩ w:=by intro w;unfold SQ;rewrite[tA,tF];intro b;kernel_rfl
def B9 (w:Wv)(os:OsState):Thread:=match PySem.W.Fast.tw10295753902157049106 PySem.W.Fast.tw14364793385576792824 pw w 28 an 1 113 (S4 w os) (pc [15] ⟨17,0,20,18⟩ w os) with|some r=>r.2|none=>⟨doneF .next,cE,⟨17,0,20,18⟩,B⟩
def GQ (n:Nat)(S:Wv->OsState->SharedT)(t:Wv->OsState->Thread)(S1:Wv->OsState->SharedT)(w:Wv):Prop:=∀os,segGoT treeTable pw w 28 an 1 n (S w os) (t w os)=Kf (S1 w os,B9 w os)
theorem g0:∀w,GQ 113 S4 (pc [15] ⟨17,0,20,18⟩) HH w:=t2<|by intro a w;cases a<;>(unfold GQ;rewrite[tC,tF];intro b;kernel_rfl)
theorem g1:∀w,GQ 1000 HH B9 G7 w:=t2<|by intro a w;cases a<;>(unfold GQ;rewrite[tC,tF];intro b;kernel_rfl)
theorem g2:∀w,GQ 1000 G7 B9 GO w:=t2<|by intro a w;cases a<;>(unfold GQ;rewrite[tC,tF];intro b;kernel_rfl)
theorem g3:∀w,GQ 1000 GO B9 Ir w:=t2<|by intro a w;cases a<;>(unfold GQ;rewrite[tC,tF];intro b;kernel_rfl)
theorem g4:∀w,GQ 1000 Ir B9 y9 w:=t2<|by intro a w;cases a<;>(unfold GQ;rewrite[tC,tF];intro b;kernel_rfl)
theorem Lw (w:Wv):SQ 1143 y9 B9 S5 ⟨21,0,21,5⟩ (Xk w "special-get-raises" false):=by unfold SQ;rewrite[tA,tF];intro b;kernel_rfl
theorem La (w:Wv):SQ 1143 y9 B9 S5 ⟨21,0,21,5⟩ (Xk w "special-get-raises" true):=by unfold SQ;rewrite[tA,tF];intro b;kernel_rfl
theorem q5:∀w,SQ 1143 y9 B9 S5 ⟨21,0,21,5⟩ w:=byRow2 "special-get-raises" Lw La
theorem q6:∀w,SQ 367 S5 (pc [16] ⟨21,0,21,5⟩) S6 ⟨22,0,22,49⟩ w:=t4<|by intro a b w;cases a<;>cases b<;>(unfold SQ;rewrite[tA,tF];intro e;kernel_rfl)
theorem q7:∀w,SQ 367 S6 (pc [17] ⟨22,0,22,49⟩) S7 ⟨23,0,23,49⟩ w:=t4<|by intro a b w;cases a<;>cases b<;>(unfold SQ;rewrite[tA,tF];intro e;kernel_rfl)
theorem q8:∀w,SQ 522 S7 (pc [18] ⟨23,0,23,49⟩) S8 ⟨24,0,24,52⟩ w:=t4<|by intro a b w;cases a<;>cases b<;>(unfold SQ;rewrite[tA,tF];intro e;kernel_rfl)
theorem q9:∀w,SQ 673 S8 (pc [19] ⟨24,0,24,52⟩) S9 ⟨25,0,248,35⟩ w:=by intro w;unfold SQ;rewrite[tA,tF];intro b;kernel_rfl
theorem yt:∀w,SQ 302 S9 (pc [20,21,22,23,24,25,26,27,28,29] ⟨25,0,248,35⟩) KM ⟨363,0,380,30⟩ w:=by intro w;unfold SQ;rewrite[tA,tF];intro b;kernel_rfl
theorem fin (w:Wv)(b:OsState):topRun treeTable pw w 28 an 2 (KM w b).abs (restOf [] env cE ⟨363,0,380,30⟩ B)=Kf (Sf w b):=by rewrite[tE,tF];kernel_rfl
theorem all:st [1,2,3]++(st [4,5]++(st [6,7,8,9]++(st [10,11,12,13,14]++(st [15]++(st [16]++(st [17]++(st [18]++(st [19]++(st [20,21,22,23,24,25,26,27,28,29]++[])))))))))=bE:=by kernel_rfl
theorem run (w:Wv)(e:OsState):topRun treeTable pw w 28 an (12+(1+(126+(396+(392+(334+((113+(1000+(1000+(1000+(1000+1143)))))+(367+(367+(522+(673+(302+2)))))))))))) (Z w e) (topStub pw)=Kf (Sf w e):=go_top (J1 w e)<|piece_block (b:=bE) (env:=env) (Lv w e)<|by rw[<-all];exact piece_app (segRun_of<|q1 w e)<|piece_app (segRun_of<|q2 w e)<|piece_app (segRun_of<|q3 w e)<|piece_app (segRun_of<|q4 w e)<|piece_app (seg_go (segGo_of<|g0 w e)<|seg_go (segGo_of<|g1 w e)<|seg_go (segGo_of<|g2 w e)<|seg_go (segGo_of<|g3 w e)<|seg_go (segGo_of<|g4 w e)<|segRun_of<|q5 w e)<|piece_app (segRun_of<|q6 w e)<|piece_app (segRun_of<|q7 w e)<|piece_app (segRun_of<|q8 w e)<|piece_app (segRun_of<|q9 w e)<|piece_app (segRun_of<|yt w e)<|fin w e
theorem Lk (w:Wv):importEnds treeTable (opening pw) w 799 (start<|opening pw).1 (start<|opening pw).2=Kf ⟨KT w.params,Array.mk [],⟨0,0,0,0⟩,276,(start<|opening pw).1.os⟩:=by rewrite[tB,tF];kernel_rfl
theorem GC (w:Wv):(λ b=>(fenceModules? pw ⟨KT w.params,Array.mk [],⟨0,0,0,0⟩,276,b⟩).map<|λ s=>(s.heap,s.gens,s.drawn,s.toks))=λ _=>Kf (Cw w.params,Array.mk [],⟨0,0,0,0⟩,276):=by kernel_rfl
def view:Program:={pw with main:={pw.main with body:=st [0,1,3,4,5,6,7,8,9,10,11,12,13,14,15,19,21,22,23,24,25,26,27,28,29]}}
noncomputable def loose:List PySem.Str:=["_twin_re_2","_twin_re_3","_twin_re_4","_twin_re_5","_twin_re_6","C_NONE","C_BACKSLASH","C_STRING_FIRST_LINE","C_STRING_NEXT_LINES","C_BRACKET","_junkre","_match_stringre","_itemre","_closere","_chew_ordinaryre","trans"].map Qq
noncomputable def lv:List (PySem.Str×WData):=[(Qq "C_NONE",.int 0),(Qq "C_BACKSLASH",.int 1),(Qq "C_STRING_FIRST_LINE",.int 2),(Qq "C_STRING_NEXT_LINES",.int 3),(Qq "C_BRACKET",.int 4)]
def K (P:Params):Frag:=[(3,o195 P),(32,o7),(33,o8),(34,o32),(35,o7),(36,JH),(37,o34),(38,o35),(42,o38),(43,JS),(47,JL),(48,o43),(52,JO),(53,JY),(57,o49),(58,J2),(62,o52),(63,o53),(68,Jm),(69,Jg),(70,o61),(71,Km),(72,o63),(73,o64),(80,o7),(81,o8),(82,o70),(83,o7),(84,o71),(85,o72),(86,o73),(87,o7),(88,o74 P),(89,o75),(90,Jn),(91,o77),(96,o6),(97,o112),(155,o7),(156,o8),(157,D0),(158,o7),(159,o133),(160,ET),(161,Fk),(162,o7),(163,o8),(164,o136),(165,o7),(166,DX),(167,o138),(168,o139),(169,o7),(170,o8),(171,o140),(172,o7),(173,E2),(174,o142),(175,o143),(176,o7),(177,o8),(178,Dx),(179,o7),(180,o145),(181,o146),(182,o147),(183,o7),(184,o8),(185,o148),(186,o7),(187,EM),(188,o150),(189,o151),(190,o7),(191,o8),(192,o152),(193,o7),(194,o153),(195,Fa),(196,o155),(197,o7),(198,o8),(199,o156),(200,o7),(201,Dp),(202,FE),(203,DO),(204,o7),(205,o8),(206,E8),(207,o7),(208,FS),(209,De),(210,o163),(211,o7),(212,o8),(213,o164),(214,o7),(215,o165),(216,o166),(217,o167),(218,o7),(219,o8),(220,o168),(221,o7),(222,o169),(223,o170),(224,o171),(225,o7),(226,o8),(227,o172),(228,o7),(229,E5),(230,ED),(231,o175),(232,o7),(233,o8),(234,o176),(235,o7),(236,o177),(237,o178),(238,o179),(239,o7),(240,o8),(241,o180),(242,o7),(243,o181),(244,o182),(245,Dr),(246,o7),(247,o8),(248,o184),(249,o7),(250,o185),(251,o186),(252,o187),(253,o188),(254,DC P),(255,o190),(256,ER),(257,Fc),(260,o7),(261,o8),(262,Fo),(263,o7),(264,o198),(265,E6),(266,o200),(267,o7),(268,o8),(269,o201),(270,o7),(271,o202),(272,o203),(273,Fw),(274,o7),(275,o8),(276,DV),(277,o7),(278,o206),(279,o207),(280,o208),(281,o7),(282,o8),(283,o209),(284,o7),(285,Ez),(286,FH),(287,DK),(288,o7),(289,o8),(290,Ee),(291,o7),(292,D7),(293,DE),(294,DS),(295,o7),(296,o8),(297,C8),(298,o7),(299,FN),(300,DH),(301,FV),(302,o7),(303,o8),(304,o221),(305,o7),(306,o222),(307,Dm),(308,o224),(309,o7),(310,o8),(311,Em),(312,o7),(313,o226),(314,Gh),(315,Dy),(316,o7),(317,o8),(318,EE),(319,FJ),(320,o231)]
noncomputable def K9:List Ww:=[3,32,33,34,35,36,37,38,42,43,47,48,52,53,57,58,62,63,68,69,70,71,72,73,80,81,82,83,84,85,86,87,88,89,90,91,96,97,155,156,157,158,159,160,161,162,163,164,165,166,167,168,169,170,171,172,173,174,175,176,177,178,179,180,181,182,183,184,185,186,187,188,189,190,191,192,193,194,195,196,197,198,199,200,201,202,203,204,205,206,207,208,209,210,211,212,213,214,215,216,217,218,219,220,221,222,223,224,225,226,227,228,229,230,231,232,233,234,235,236,237,238,239,240,241,242,243,244,245,246,247,248,249,250,251,252,253,254,255,256,257,260,261,262,263,264,265,266,267,268,269,270,271,272,273,274,275,276,277,278,279,280,281,282,283,284,285,286,287,288,289,290,291,292,293,294,295,296,297,298,299,300,301,302,303,304,305,306,307,308,309,310,311,312,313,314,315,316,317,318,319,320]
def H:Hook:=kHook K K9<|λ _=>by kernel_rfl
def Xt (s:Wj):Bool:=xlAt view lv s&&recOk (RowW.records<|OpenRow.toRowW<|OpenLaw.row PySem.Challenge.rw_dm0168_03) s
end Mine.H3
end
section
namespace Mine.H3
open PySem PySem.W PySem.Calls PyProof.Rows
theorem size (w:Wv):((Cw w.params).isNs mainGlobals&&(Array.mk []:Array GenState).size==0,(Cw w.params).objs.size,(Cw w.params).nsMap mainGlobals "__annotations__")=(true,28,an):=by kernel_rfl
theorem K6 (w:Wv)(b:OsState):(staticsOk (importedModules pw.main.body) (Cw w.params) (He w.params)&&namesBound pw (He w.params)&&gensDone (Sf w b)&&laidKept (Cw w.params) (He w.params))=true:=by kernel_rfl
theorem Lh (w:Wv)(b:OsState):H.obs (Sf w b)=H.val w:=by kernel_rfl
theorem Lq (w:Wv)(b:OsState):openSeen view loose (importedModules pw.main.body) Xt false (Sf w b)=openGood view loose:=by unfold openSeen openGood;refine looks_pair ?_<|looks_pair ?_<|looks_pair ?_<|looks_pair ?_<|looks_pair ?_<|looks_pair ?_<|looks_pair ?_<|looks_pair ?_ ?_;all_goals kernel_rfl
theorem hl:LeftO pw view loose Xt H.obs H.val 17576 false:=
 LeftO.of_pieces (H₀:=Cw) (H₁:=He) (gs₀:=Array.mk []) (gs₁:=Array.mk [.finished,.finished,.finished]) (d₀:=⟨0,0,0,0⟩) (d₁:=⟨0,0,0,0⟩) (k₀:=276) (k₁:=1446)
  (open_cut Lk rfl GC) size run rfl (λ w=>funext λ b=>looks_pair (K6 w b)<|looks_pair (Lq w b)<|Lh w b)
end Mine.H3
end
section
namespace Mine
def Wy{c:Prop}{i:Decidable c}(h:c){α:Sort u}{t e:α}:@ite α c i t e=t:=if_pos h
def Wg{c:Prop}{i:Decidable c}(h:¬c){α:Sort u}{t e:α}:@ite α c i t e=e:=if_neg h
section
universe u1 u2 u3 u4 u5 u6 u7
@[elab_as_elim] theorem rwL{α:Sort u1}{P:α->Prop}{a b:α}(h:a=b)(k:P b):P a:=by cases h;exact k
@[elab_as_elim] theorem rwR{α:Sort u1}{P:α->Prop}{a b:α}(h:a=b)(k:P a):P b:=by cases h;exact k
def bj{α:Type u1}{P:List α->Prop}(nil:P [])(zero:∀c,P [c])(cons:∀c d r,P r->P (d::r)->P (c::d::r))(l:List α):P l:=by
 have:P l/\∀c,P (c::l):=by induction l with|nil=>exact⟨nil,zero⟩|cons c l h=>exact⟨h.2 c,λ d=>cons d c l h.1<|h.2 c⟩
 exact this.1
def x02{b e:Prop}{G:Prop}(h:b/\e)(k:b->e->G):G:=by obtain⟨f,i⟩:=h;exact k f i
def x03{b e f:Prop}{G:Prop}(h:b/\e/\f)(k:b->e->f->G):G:=by obtain⟨i,j,l⟩:=h;exact k i j l
def x04{b e f i:Prop}{G:Prop}(h:b/\e/\f/\i)(k:b->e->f->i->G):G:=by obtain⟨j,l,o,p⟩:=h;exact k j l o p
def x05{b e f i j:Prop}{G:Prop}(h:b/\e/\f/\i/\j)(k:b->e->f->i->j->G):G:=by obtain⟨l,o,p,q,r⟩:=h;exact k l o p q r
def x11{e:Sort u1}{b:e->Prop}{G:Prop}(h:∃a,b a)(k:∀a,b a->G):G:=by obtain⟨a,f⟩:=h;exact k a f
def x12{f:Sort u1}{b e:f->Prop}{G:Prop}(h:∃a,b a/\e a)(k:∀a,b a->e a->G):G:=by obtain⟨a,i,j⟩:=h;exact k a i j
def x13{i:Sort u1}{b e f:i->Prop}{G:Prop}(h:∃a,b a/\e a/\f a)(k:∀a,b a->e a->f a->G):G:=by obtain⟨a,j,l,o⟩:=h;exact k a j l o
def x14{j:Sort u1}{b e f i:j->Prop}{G:Prop}(h:∃a,b a/\e a/\f a/\i a)(k:∀a,b a->e a->f a->i a->G):G:=by obtain⟨a,l,o,p,q⟩:=h;exact k a l o p q
def x15{l:Sort u1}{b e f i j:l->Prop}{G:Prop}(h:∃a,b a/\e a/\f a/\i a/\j a)(k:∀a,b a->e a->f a->i a->j a->G):G:=by obtain⟨a,o,p,q,r,t⟩:=h;exact k a o p q r t
def x21{f:Sort u1}{i:Sort u2}{e:f->i->Prop}{G:Prop}(h:∃a b,e a b)(k:∀a b,e a b->G):G:=by obtain⟨a,b,j⟩:=h;exact k a b j
def x22{i:Sort u1}{j:Sort u2}{e f:i->j->Prop}{G:Prop}(h:∃a b,e a b/\f a b)(k:∀a b,e a b->f a b->G):G:=by obtain⟨a,b,l,o⟩:=h;exact k a b l o
def x23{j:Sort u1}{l:Sort u2}{e f i:j->l->Prop}{G:Prop}(h:∃a b,e a b/\f a b/\i a b)(k:∀a b,e a b->f a b->i a b->G):G:=by obtain⟨a,b,o,p,q⟩:=h;exact k a b o p q
def x24{l:Sort u1}{o:Sort u2}{e f i j:l->o->Prop}{G:Prop}(h:∃a b,e a b/\f a b/\i a b/\j a b)(k:∀a b,e a b->f a b->i a b->j a b->G):G:=by obtain⟨a,b,p,q,r,t⟩:=h;exact k a b p q r t
def x25{o:Sort u1}{p:Sort u2}{e f i j l:o->p->Prop}{G:Prop}(h:∃a b,e a b/\f a b/\i a b/\j a b/\l a b)(k:∀a b,e a b->f a b->i a b->j a b->l a b->G):G:=by obtain⟨a,b,q,r,t,u,w⟩:=h;exact k a b q r t u w
def x26{p:Sort u1}{q:Sort u2}{e f i j l o:p->q->Prop}{G:Prop}(h:∃a b,e a b/\f a b/\i a b/\j a b/\l a b/\o a b)(k:∀a b,e a b->f a b->i a b->j a b->l a b->o a b->G):G:=by obtain⟨a,b,r,t,u,w,x,y⟩:=h;exact k a b r t u w x y
def x31{f:Sort u1}{i:Sort u2}{j:Sort u3}{e:f->i->j->Prop}{G:Prop}(h:∃a b c,e a b c)(k:∀a b c,e a b c->G):G:=by obtain⟨a,b,c,l⟩:=h;exact k a b c l
def x32{i:Sort u1}{j:Sort u2}{l:Sort u3}{e f:i->j->l->Prop}{G:Prop}(h:∃a b c,e a b c/\f a b c)(k:∀a b c,e a b c->f a b c->G):G:=by obtain⟨a,b,c,o,p⟩:=h;exact k a b c o p
def x33{j:Sort u1}{l:Sort u2}{o:Sort u3}{e f i:j->l->o->Prop}{G:Prop}(h:∃a b c,e a b c/\f a b c/\i a b c)(k:∀a b c,e a b c->f a b c->i a b c->G):G:=by obtain⟨a,b,c,p,q,r⟩:=h;exact k a b c p q r
def x34{l:Sort u1}{o:Sort u2}{p:Sort u3}{e f i j:l->o->p->Prop}{G:Prop}(h:∃a b c,e a b c/\f a b c/\i a b c/\j a b c)(k:∀a b c,e a b c->f a b c->i a b c->j a b c->G):G:=by obtain⟨a,b,c,q,r,t,u⟩:=h;exact k a b c q r t u
def x35{o:Sort u1}{p:Sort u2}{q:Sort u3}{e f i j l:o->p->q->Prop}{G:Prop}(h:∃a b c,e a b c/\f a b c/\i a b c/\j a b c/\l a b c)(k:∀a b c,e a b c->f a b c->i a b c->j a b c->l a b c->G):G:=by obtain⟨a,b,c,r,t,u,w,x⟩:=h;exact k a b c r t u w x
def x36{p:Sort u1}{q:Sort u2}{r:Sort u3}{e f i j l o:p->q->r->Prop}{G:Prop}(h:∃a b c,e a b c/\f a b c/\i a b c/\j a b c/\l a b c/\o a b c)(k:∀a b c,e a b c->f a b c->i a b c->j a b c->l a b c->o a b c->G):G:=by obtain⟨a,b,c,t,u,w,x,y,z⟩:=h;exact k a b c t u w x y z
def x41{f:Sort u1}{i:Sort u2}{j:Sort u3}{l:Sort u4}{e:f->i->j->l->Prop}{G:Prop}(h:∃a b c d,e a b c d)(k:∀a b c d,e a b c d->G):G:=by obtain⟨a,b,c,d,o⟩:=h;exact k a b c d o
def x42{i:Sort u1}{j:Sort u2}{l:Sort u3}{o:Sort u4}{e f:i->j->l->o->Prop}{G:Prop}(h:∃a b c d,e a b c d/\f a b c d)(k:∀a b c d,e a b c d->f a b c d->G):G:=by obtain⟨a,b,c,d,p,q⟩:=h;exact k a b c d p q
def x43{j:Sort u1}{l:Sort u2}{o:Sort u3}{p:Sort u4}{e f i:j->l->o->p->Prop}{G:Prop}(h:∃a b c d,e a b c d/\f a b c d/\i a b c d)(k:∀a b c d,e a b c d->f a b c d->i a b c d->G):G:=by obtain⟨a,b,c,d,q,r,t⟩:=h;exact k a b c d q r t
def x44{l:Sort u1}{o:Sort u2}{p:Sort u3}{q:Sort u4}{e f i j:l->o->p->q->Prop}{G:Prop}(h:∃a b c d,e a b c d/\f a b c d/\i a b c d/\j a b c d)(k:∀a b c d,e a b c d->f a b c d->i a b c d->j a b c d->G):G:=by obtain⟨a,b,c,d,r,t,u,w⟩:=h;exact k a b c d r t u w
def x45{o:Sort u1}{p:Sort u2}{q:Sort u3}{r:Sort u4}{e f i j l:o->p->q->r->Prop}{G:Prop}(h:∃a b c d,e a b c d/\f a b c d/\i a b c d/\j a b c d/\l a b c d)(k:∀a b c d,e a b c d->f a b c d->i a b c d->j a b c d->l a b c d->G):G:=by obtain⟨a,b,c,d,t,u,w,x,y⟩:=h;exact k a b c d t u w x y
end
end Mine
end
set_option tactic.hygienic false
open Lean Parser.Tactic in
set_option compiler.extract_closed false in
local macro_rules
 | `(tactic| obtain $pat:rcasesPatMed := $e) => do
  let t := pat.raw[0][0]
  unless pat.raw[0].getNumArgs == 1 && t.isOfKind ``rcasesPat.tuple && t[1].getNumArgs > 1 do Macro.throwUnsupported
  let ps := t[1].getSepArgs
  let n := ps.size
  let xs := ((List.range n).filterMap fun M => if M < 6 && n - M < 6 then some (Syntax.mkApp (mkIdent (.str `Mine s!"x{n-M-1}{M+1}")) #[e]) else none).toArray
  let rs := ps.map fun p => (⟨mkNode ``rintroPat.one #[if p[1].isNone && p[0][0].getNumArgs == 1 then p[0][0][0] else mkNode ``rcasesPat.paren #[.missing, p]]⟩ : TSyntax `rintroPat)
  `(tactic| first | (first $[| refine $xs ?_]*); (try clear $(⟨e.raw⟩)); rintro $rs* | obtain $pat : _ := $e)
 | `(tactic| rw [$rs,*]) => do
  let ts ← rs.getElems.mapM fun r => `(tactic| first | refine $(mkIdent (if r.raw[0].isNone then `Mine.rwL else `Mine.rwR)) $(⟨r.raw[1]⟩) ?_ | rewrite [$r])
  `(tactic| ($[$ts]*; try with_reducible rfl))
 | `(tactic| show $t:term) => `(tactic| first | refine (?_ : $t) | change $t)
section
namespace Mine.Om
inductive E|n (k:Nat)|v (i:Nat)|a (x y:E)|s (x:E)|m (k:Nat)(x:E)
noncomputable def JT:List Nat->Nat->Nat
 | [],_=>0|x::_,0=>x|_::c,i+1=>JT c i
def E.d (c:List Nat):E->Nat
 | .n k=>k| .v i=>JT c i| .a x y=>x.d c+y.d c| .s x=>x.d c+1| .m k x=>k*x.d c
noncomputable def ev:List Nat->List Nat->Nat
 |k::p,x::c=>k*x+ev p c|_,_=>0
noncomputable def add:List Nat->List Nat->List Nat
 | [],q=>q|a::p,[]=>a::p|a::p,b::q=>(a+b)::add p q
noncomputable def Kk (k:Nat):List Nat->List Nat
 | []=>[]|a::p=>k*a::Kk k p
noncomputable def vr:Nat->List Nat
 |0=>[1]|i+1=>0::vr i
def E.f:E->List Nat
 | .n k=>[k]| .v i=>0::vr i| .a x y=>add x.f y.f| .s x=>add x.f [1]| .m k x=>Kk k x.f
noncomputable def le:List Nat->List Nat->Bool
 | [],_=>true|a::p,[]=>Nat.ble a 0&&le p []|a::p,b::q=>Nat.ble a b&&le p q
theorem eB:∀c,ev [] c=0
 | []=>rfl|_::_=>rfl
theorem qB:∀p q c,ev (add p q) c=ev p c+ev q c
 | [],q,c=>((congrArg (·+ev q c)<|eB c).trans<|Nat.zero_add _).symm|a::p,[],c=>(congrArg (ev (a::p) c+·)<|eB c).symm|a::p,b::q,[]=>rfl|a::p,b::q,x::c=>(congr (congrArg _<|Nat.add_mul a b x)<|qB p q c).trans<|Nat.add_add_add_comm ..
theorem vQ (k:Nat):∀p c,ev (Kk k p) c=k*ev p c
 | [],c=>(eB c).trans (congrArg (k*·)<|eB c).symm|a::p,[]=>rfl|a::p,x::c=>(congr (congrArg _<|Nat.mul_assoc k a x)<|vQ k p c).trans (Nat.mul_add ..).symm
theorem Ci:∀i c,ev (vr i) c=JT c i
 |0,[]=>rfl|_+1,[]=>rfl|0,x::c=>(congr (congrArg _<|Nat.one_mul x)<|eB c).trans<|Nat.add_zero x|i+1,x::c=>(congr (congrArg _<|Nat.zero_mul x)<|Ci i c).trans<|Nat.zero_add _
def yO (k:Nat)(c:List Nat):ev [k] (1::c)=k:=(congr (congrArg _<|Nat.mul_one k)<|eB c).trans<|Nat.add_zero k
theorem E.eq (c:List Nat):∀e:E,ev e.f (1::c)=e.d c
 | .n k=>yO k c| .v i=>(Ci (i+1)<|1::c)| .a x y=>(qB ..).trans<|congr (congrArg _<|E.eq c x)<|E.eq c y| .s x=>(qB ..).trans<|congr (congrArg _<|E.eq c x)<|yO 1 c| .m k x=>(vQ ..).trans<|congrArg _<|E.eq c x
theorem v8:∀p q c,le p q=true->ev p c<=ev q c
 | [],q,c,_=>(eB c).symm▸Zj _|a::p,[],[],_=>Zv _|a::p,b::q,[],_=>Zv _|a::p,[],x::c,h=>have h:=(Xv _ _).mp h;Zk (Nat.add_le_add (Nat.mul_le_mul_right x<|Nat.le_of_ble_eq_true h.1)<|v8 p [] c h.2) (Nat.le_of_eq<|(congr (congrArg _<|Nat.zero_mul x)<|eB c).trans rfl)|a::p,b::q,x::c,h=>have h:=(Xv _ _).mp h;Nat.add_le_add (Nat.mul_le_mul_right x<|Nat.le_of_ble_eq_true h.1) (v8 p q c h.2)
def Ai (L R:E):List (E×E)->Bool
 | []=>le (E.s R).f L.f| (l,r)::q=>Ai (.a L l) (.a R r) q
def Kn (c:List Nat)(e f:E):List (E×E)->Prop
 | []=>e.d c<=f.d c| (l,r)::q=>l.d c<=r.d c->Kn c e f q
theorem go (c:List Nat)(e f:E):∀q L R,(f.d c+1<=e.d c->L.d c<=R.d c)->Ai L R q=true->Kn c e f q
 | [],L,R,h,k=>Nat.le_of_not_lt λ g=>absurd (Zk (Zk (Nat.le_of_eq (E.eq c<|.s R).symm)<|v8 _ _ (1::c) k)<|Zk (Nat.le_of_eq<|E.eq c L)<|h g)<|Nat.not_succ_le_self _
 | (l,r)::q,L,R,h,k=>λ i=>go c e f q (.a L l) (.a R r) (λ g=>Nat.add_le_add (h g) i) k
def no (c:List Nat)(e f:E)(q:List<|E×E)(k:Ai (.s f) e q=true):Kn c e f q:=go c e f q _ _ id k
inductive Z|n (k:Int)|v (i:Nat)|a (x y:Z)|s (x y:Z)|g (x:Z)|m (k:Int)(x:Z)
noncomputable def zt:List Int->Nat->Int
 | [],_=>0|x::_,0=>x|_::c,i+1=>zt c i
def Z.d (c:List Int):Z->Int
 | .n k=>k| .v i=>zt c i| .a x y=>x.d c+y.d c| .s x y=>x.d c-y.d c| .g x=>-x.d c| .m k x=>k*x.d c
noncomputable def zv:List Int->List Int->Int
 |k::p,x::c=>k*x+zv p c|_,_=>0
noncomputable def Ad:List Int->List Int->List Int
 | [],q=>q|a::p,[]=>a::p|a::p,b::q=>(a+b)::Ad p q
noncomputable def uw (k:Int):List Int->List Int
 | []=>[]|a::p=>k*a::uw k p
noncomputable def zr:Nat->List Int
 |0=>[1]|i+1=>0::zr i
def Z.f:Z->List Int
 | .n k=>[k]| .v i=>0::zr i| .a x y=>Ad x.f y.f| .s x y=>Ad x.f<|uw (-1) y.f| .g x=>uw (-1) x.f| .m k x=>uw k x.f
theorem fM:∀c,zv [] c=0
 | []=>rfl|_::_=>rfl
theorem p6:∀p q c,zv (Ad p q) c=zv p c+zv q c
 | [],q,c=>((congrArg (·+zv q c)<|fM c).trans<|Int.zero_add _).symm|a::p,[],c=>((congrArg (zv (a::p) c+·)<|fM c).trans<|Int.add_zero _).symm|a::p,b::q,[]=>rfl|a::p,b::q,x::c=>(congr (congrArg _<|Int.add_mul a b x)<|p6 p q c).trans<|(Int.add_assoc ..).trans<|(congrArg _<|Int.add_left_comm ..).trans (Int.add_assoc ..).symm
theorem ql (k:Int):∀p c,zv (uw k p) c=k*zv p c
 | [],c=>(fM c).trans ((congrArg (k*·)<|fM c).trans<|Int.mul_zero k).symm|a::p,[]=>(Int.mul_zero k).symm|a::p,x::c=>(congr (congrArg _<|Int.mul_assoc k a x)<|ql k p c).trans (Int.mul_add ..).symm
theorem BM:∀i c,zv (zr i) c=zt c i
 |0,[]=>rfl|_+1,[]=>rfl|0,x::c=>(congr (congrArg _<|Int.one_mul x)<|fM c).trans<|Int.add_zero x|i+1,x::c=>(congr (congrArg _<|Int.zero_mul x)<|BM i c).trans<|Int.zero_add _
def Ga (k:Int)(c:List Int):zv [k] (1::c)=k:=(congr (congrArg _<|Int.mul_one k)<|fM c).trans<|Int.add_zero k
def vI (p c:List Int):zv (uw (-1) p) c=-zv p c:=(ql ..).trans<|Int.neg_one_mul _
theorem Z.eq (c:List Int):∀e:Z,zv e.f (1::c)=e.d c
 | .n k=>Ga k c| .v i=>(congr (congrArg _<|Int.zero_mul 1)<|BM i c).trans<|Int.zero_add _| .a x y=>(p6 ..).trans<|congr (congrArg _<|Z.eq c x)<|Z.eq c y| .s x y=>(p6 ..).trans ((congr (congrArg (·+·)<|Z.eq c x) ((vI ..).trans (congrArg (- ·)<|Z.eq c y))).trans Int.sub_eq_add_neg.symm)| .g x=>(vI ..).trans (congrArg (- ·)<|Z.eq c x)| .m k x=>(ql ..).trans<|congrArg _<|Z.eq c x
noncomputable def I3:List Int->Bool
 | []=>true| .ofNat 0::p=>I3 p|_=>false
theorem va:∀p c,I3 p=true->zv p c=0
 | [],c,_=>fM c| .ofNat 0::p,[],_=>rfl| .ofNat 0::p,x::c,h=>(congr (congrArg _<|Int.zero_mul x)<|va p c h).trans rfl
def Ib:List Int->Bool
 | .ofNat (_+1)::p=>I3 p|_=>false
theorem zz:∀p c,Ib p=true->0<zv p (1::c)
 | .ofNat (n+1)::p,c,h=>Int.lt_of_lt_of_le (Int.ofNat_succ_pos n)<|Int.le_of_eq ((congr (congrArg _<|Int.mul_one _)<|va p c h).trans<|Int.add_zero _).symm
def Fg (L R:Z):List (Z×Z)->Bool
 | []=>Ib (Z.s L R).f| (l,r)::q=>Fg (.a L l) (.a R r) q
def EQ (c:List Int)(e f:Z):List (Z×Z)->Prop
 | []=>e.d c<=f.d c| (l,r)::q=>l.d c<=r.d c->EQ c e f q
theorem KG (c:List Int)(e f:Z):∀q L R,(f.d c+1<=e.d c->L.d c<=R.d c)->Fg L R q=true->EQ c e f q
 | [],L,R,h,k=>Int.not_lt.mp λ g=>absurd (Int.sub_nonpos_of_le<|h g)<|Int.not_le.mpr<|Int.lt_of_lt_of_le (zz _ c k)<|Int.le_of_eq<|Z.eq c<|.s L R
 | (l,r)::q,L,R,h,k=>λ i=>KG c e f q (.a L l) (.a R r) (λ g=>Int.add_le_add (h g) i) k
def nz (c:List Int)(e f:Z)(q:List<|Z×Z)(k:Fg (.a f<|.n 1) e q=true):EQ c e f q:=KG c e f q _ _ id k
def zl {m n:Nat}(h:m<=n):(m:Int)<=n:=Int.ofNat_le.mpr h
def nl {a b:Nat}(h:¬b<a):a<=b:=Nat.le_of_not_lt h
def nt {a b:Nat}(h:¬b<=a):a<b:=Nat.lt_of_not_le h
def ah {a b:Nat}(h:a=b):a<=b:=Nat.le_of_eq h
def sl (a b:Nat):a-b<=a:=Nat.sub_le a b
def sb (a b:Nat):a<=(a-b)+b:=Nat.sub_le_iff_le_add.mp<|Zv<|a-b
def sc (a b:Nat)(h:b<=a):a-b+b<=a:=Nat.le_of_eq<|Nat.sub_add_cancel h
def ne {a b:Nat}(h:¬a=b):a<b\/b<a:=Nat.lt_or_gt_of_ne h
def to (a b:Nat):a<=b\/b<=a:=Nat.le_total a b
def sz {a b:Nat}(h:a<=b):a-b=0:=Nat.sub_eq_zero_of_le h
def an {a b:Nat}(h:a<=b)(k:b<=a):a=b:=Nat.le_antisymm h k
def il {a b:Int}(h:¬b<a):a<=b:=Int.not_lt.mp h
def it {a b:Int}(h:¬b<=a):a<b:=Int.not_le.mp h
def nn (a:Nat):0<=(a:Int):=Int.natCast_nonneg a
def tn {a:Int}(h:0<=a):(a.toNat:Int)<=a:=Int.le_of_eq<|Int.toNat_of_nonneg h
def tx (a:Int)(h:0<=a):(a.toNat:Int)<=a:=tn h
def st (a:Int):a<=(a.toNat:Int):=Int.self_le_toNat a
def ff (h:1<=0):False:=Nat.not_succ_le_zero _ h
def fz (h:(1:Int)<=0):False:=absurd h<|by decide
def lz {a b:Nat}(h:(a:Int)<=b):a<=b:=Int.ofNat_le.mp h
def GK {α:Type}(_:List α)(_:Nat)(_:α):Prop:=True
def Q (_:List Nat)(_:Nat)(_:E):Prop:=True
def QZ (_:List Int)(_:Int)(_:Z):Prop:=True
def S (_:List Nat)(_:List<|E×E):Prop:=True
def SZ (_:List Int)(_:List<|Z×Z):Prop:=True
def Pk (_:List Nat)(_:List<|E×E)(_ _:E)(_ _:Nat):Prop:=True
def PZ (_:List Int)(_:List<|Z×Z)(_ _:Z)(_ _:Int):Prop:=True
section
variable {α:Type}{d:List α}{u v:α}{c:List Nat}{L:List (E×E)}{x y i k:Nat}{e f:E}{z:List Int}{M:List (Z×Z)}{a b:Int}{g h:Z}
def n0:GK (u::d) 0 u:=trivial
def ns (_:GK d i u):GK (v::d) (Nat.succ i) u:=trivial
def qv (_:GK c i x):Q c x (.v i):=trivial
def qn:Q c (@OfNat.ofNat Nat k _) (.n<|@OfNat.ofNat Nat k _):=trivial
def qm (_:Q c y f):Q c (@OfNat.ofNat Nat k _*y) (.m (@OfNat.ofNat Nat k _) f):=trivial
def qa (_:Q c x e)(_:Q c y f):Q c (x+y) (.a e f):=trivial
def qt (_:Q c x e):Q c (Nat.succ x) (.s e):=trivial
def s0:S c []:=trivial
def sp (_:x<=y)(_:S c L)(_:Q c x e)(_:Q c y f):S c ((e,f)::L):=trivial
def pk (_:S c L)(_:Q c x e)(_:Q c y f):Pk c L e f x y:=trivial
def zv' (_:GK z i a):QZ z a (.v i):=trivial
def zn:QZ z (@OfNat.ofNat Int k _) (.n<|@OfNat.ofNat Int k _):=trivial
def zc:QZ z (Nat.cast<|@OfNat.ofNat Nat k _) (.n<|Nat.cast<|@OfNat.ofNat Nat k _):=trivial
def zm (_:QZ z a g):QZ z (@OfNat.ofNat Int k _*a) (.m (@OfNat.ofNat Int k _) g):=trivial
def za (_:QZ z a g)(_:QZ z b h):QZ z (a+b) (.a g h):=trivial
def zb (_:QZ z a g)(_:QZ z b h):QZ z (a-b) (.s g h):=trivial
def zg (_:QZ z a g):QZ z (-a) (.g g):=trivial
def zd (_:QZ z (Nat.cast x) g)(_:QZ z (Nat.cast y) h):QZ z (Nat.cast<|x+y) (.a g h):=trivial
def zk (_:QZ z (Nat.cast x) g):QZ z (Nat.cast<|@OfNat.ofNat Nat k _*x) (.m (Nat.cast<|@OfNat.ofNat Nat k _) g):=trivial
def zt' (_:QZ z (Nat.cast x) g):QZ z (Nat.cast<|Nat.succ x) (.a g<|.n 1):=trivial
def r0:SZ z []:=trivial
def rp (_:a<=b)(_:SZ z M)(_:QZ z a g)(_:QZ z b h):SZ z ((g,h)::M):=trivial
def pz (_:SZ z M)(_:QZ z a g)(_:QZ z b h):PZ z M g h a b:=trivial
end
end Mine.Om
end
section
end
open Lean in
set_option compiler.extract_closed false in
local macro_rules (kind := «term{_}»)
 | `({$ts,*}) => do
  match ts.getElems[0]!.raw.isNatLit? with
  | some 2 => `(by kernel_rfl)
  | some 3 => `(by decide +kernel)
  | some 4 => `(by decide)
  | _ =>
  let z := ts.getElems.any (·.raw.isNatLit? == some 0)
  let ts := ts.getElems.filter (·.raw.isNatLit?.isNone)
  let o s := mkIdent (.str `Mine.Om s)
  let i a b := o (if z then a else b)
  let T := i "Z" "E"
  let N := mkIdent (if z then `Int else `Nat)
  let r := i "rp" "sp"
  let p ← ts.mapM fun t => `(tactic| apply $r $t)
  let q := (if z then "zn zc zm za zb zg zd zk zt' zv' n0 ns" else "qn qm qa qt qv n0 ns").splitOn.toArray.map o
  `(let_mvar% ?c := (_ : List $N); let_mvar% ?L := (_ : List ($T × $T)); let_mvar% ?e := (_ : $T); let_mvar% ?f := (_ : $T); let_mvar% ?x := (_ : $N); let_mvar% ?y := (_ : $N);
     let_mvar% ?p := (by
      apply $(i "pz" "pk")
      ($[$p]*)
      apply $(i "r0" "s0")
      repeat' with_reducible first $[| apply $q]*
      all_goals exact [] : $(i "PZ" "Pk") ?c ?L ?e ?f ?x ?y);
     ensure_expected_type% "" ((by exact $(i "nz" "no") ?c ?e ?f ?L (Eq.refl true) $ts*) : ?x ≤ ?y))
namespace Mine
variable {pr w r gd gl U Fs T:List Nat}{n k i m q dep j dk ep z tab ln place kk handed way:Nat}{Ts alts:List (List Nat)}{code text:Array Nat}{br:List (Nat×Nat)}{inner bg:Option Nat}{rest:List Int}{om:Bool}{cnt:Int}
section
open Om
section
variable {a b c d e f g l:Nat}
def U0:a<=b->c<=d->e+(a+c)<=e+(b+d):=λ p q=>{p,q}
def U1:a<=1048576->a<=16777216:=λ p=>{p}
def U2 {a:Int}:¬a<0->0<=a:=λ p=>{0,(il p)}
def U3:a+b<c->a<c:=λ p=>{p}
def U4:a+10*b+200<c->a+64<c:=λ p=>{p}
def U5:a<=b->c+10*b+200<d->c+10*a+200<d:=λ p q=>{(Xx 10 p),q}
def U6:a<=b->c+b<d->c+a<d:=λ p q=>{p,q}
def U7:a+10*(b+1)+200<c->a+3+10*b+200<c:=λ p=>{p}
def U8:a+(b+1)<c->a+1+b<c:=λ p=>{p}
def U9:a<=b->¬a<b->a=b:=λ p q=>an {p} {(nl q)}
def U10:a<b->b+1-(a+1)<b+1-a:=λ p=>{(sb (b+1) a),(sc (b+1) (a+1) {p})}
def yS:a<=b->a+1<=b+1:=λ p=>{p}
def mJ:a<=b->c<=d->d<a->c<=b:=λ p q r=>{p,q,r}
def U13:a<=b->a<=b+1:=λ p=>{p}
def U14:a=b->a<=b:=λ p=>{(ah p)}
def U15:a=b+c->b<=a:=λ p=>{(ah p.symm)}
def U16:a<128->¬1114111<(↑a:Int):=λ p=>λ h=>fz {0,(zl p),h}
def U17:¬(↑a:Int)<0:=λ h=>fz {0,h,(nn a)}
def U18 {a:Int}{b:Nat}:a<=(↑b:Int)->Min.min (Int.toNat a) b=Int.toNat a:=λ h=>Nat.min_eq_left<|Int.toNat_le.mpr h
def U19 {a:Int}:0<=a->Max.max 0 a=a:=Int.max_eq_right
def U20 {a:Int}:0<=a->¬a<0:=λ p=>λ h=>fz {0,p,h}
def Gv:1<=a+1+1:={1}
def Gp:a+10*(b+1)+200<c->a+1+10*b+200<c:=λ p=>{p}
def U23:a+1+b=a+(b+1):=an {1} {1}
def U24:0<a->¬a-1=a:=λ p=>λ h=>ff {(ah h.symm),(sc a 1 {p})}
def U25:0<a->a-1<a:=λ p=>{(sc a 1 {p})}
def U26:Int.toNat (-1+(↑a:Int))=a-1:=by rw[Int.add_comm];exact Int.toNat_sub a 1
def U27:-1+(↑a:Int)<(↑a:Int):={0}
def U28:0<a->0<=-1+(↑a:Int):=λ p=>{0,(zl p)}
def Jl:a<b->b<a->False:=λ p q=>ff {p,q}
def U31:a<=b->b<c->a<=c/\c<a+(d+1-a)->a<=b/\b<a+(d+1-a):=λ p q r=>⟨{p},{q,r.2}⟩
def U32:a<=b->b<c->a<=b/\b<a+(c+1-a):=λ p q=>⟨{p},{q,(sb (c+1) a)}⟩
def JH:a<=b/\b<a+(c+1-a)->a<=b:=λ p=>{p.1}
def U34:Int.toNat (max 0 (↑a:Int))=a:=congrArg Int.toNat<|Int.max_eq_right<|Int.natCast_nonneg a
def U35:¬a<=b->b-c<=a-c:=λ p=>(to a c).elim (λ u=>(to b c).elim (λ h=>{(ah<|sz h)})<|λ h=>(ff {(nt p),u,h}).elim)<|λ u=>(to b c).elim (λ h=>{(ah<|sz h)})<|λ h=>{(nt p),(sb a c),(sc b c {h})}
def U36:a-b<=a-b:={1}
def U37:¬a<=b->max 0 (min (↑a:Int) (↑b:Int))=max 0 (min (↑b:Int) (↑b:Int)):=λ h=>congrArg (max 0)<|(Int.min_eq_right<|Int.ofNat_le.mpr<|Nat.le_of_not_le h).trans (Int.min_self _).symm
def U38:0<a->0<=-1+(↑a:Int)/\-1+(↑a:Int)<(↑a:Int):=λ p=>⟨{0,(zl p)},{0}⟩
def JS:a<b->a<b:=λ p=>{p}
def U40:a=b+1->¬(↑a:Int)-1=(↑b:Int)->False:=λ p q=>(Int.lt_or_gt_of_ne q).elim (λ u=>fz {0,(zl<|ah p.symm),u})<|λ u=>fz {0,(zl<|ah p),u}
def JL:¬(↑a:Int)<(↑b:Int)->a<=b->a=b:=λ p q=>Nat.le_antisymm (lz {0,(zl q)})<|lz {0,(il p)}
def U43:a<a+1:={1}
def U44:a<a+2:={1}
def JO:a+1<b->(↑a:Int)+1<(↑b:Int):=λ p=>{0,(zl p)}
def JY:-(↑a:Int)<=(↑b:Int)+1:={0,(nn b),(nn a)}
def U48:¬(↑a:Int)=0->¬a=0:=λ p=>λ h=>(Int.lt_or_gt_of_ne p).elim (λ u=>fz {0,(zl<|ah h.symm),u})<|λ u=>fz {0,(zl<|ah h),u}
def U49:(↑a:Int)=0->a=0:=λ p=>Nat.le_antisymm (lz {0,(Int.le_of_eq p)})<|lz {0,(Int.le_of_eq p.symm)}
def J2:a<=b->a<=b+3:=λ p=>{p}
def U51:a=120->¬a=92:=λ p=>λ h=>ff {(ah p.symm),(ah h)}
def U52:a=120->¬a=10:=λ p=>λ h=>ff {(ah p.symm),(ah h)}
def U53:a<b->(↑a:Int)<(↑b:Int):=λ p=>{0,(zl p)}
def U54:-(↑a:Int)<=(↑b:Int):={0,(nn b),(nn a)}
def U55:a+1+b-a=b+1:=an {(sc ((a+1)+b) a {1})} {(sb ((a+1)+b) a)}
def Jm:(↑a:Int)+1-1=(↑a:Int):=Int.le_antisymm {0} {0}
def U58:a<b->a<=b:=λ p=>{p}
def Jg:a<=b->b<c->a<=c:=λ p q=>{p,q}
def U61:a<b->b<=c->c-b<c-a:=λ p q=>{p,(sb c a),(sc c b {q})}
def Km:(↑a:Int)<(↑b:Int)->a<b:=λ p=>lz {0,p}
def U63:a+5<=b->a<=b:=λ p=>{p}
def U64:a+5<=b->c<=d+e->e<=a->d=1->c<=b:=λ p q r s=>{p,q,r,(ah s)}
def U65:a<=b+c->b<=d+1->a<=d+(c+1):=λ p q=>{p,q}
def U70:a+1<b->(↑(a+1):Int)<(↑b:Int):=λ p=>{0,(zl p)}
def U71:-(↑a:Int)<=(↑(b+1):Int):={0,(nn b),(nn a)}
def U72:0<=(↑a:Int):={0,(nn a)}
def U73:a+1<=b->a<=b:=λ p=>{p}
def U74:a+1<=b->a<b:=λ p=>{p}
def U75:a+1<=b->a=b->False:=λ p q=>ff {p,(ah q.symm)}
def Jn:a+1<=a+1+b:={1}
def U77:a+1+b<min c d->a+1+b<c:=λ h=>Nat.lt_of_lt_of_le h<|Nat.min_le_left ..
def U78:a+1<b->a+1<=b-1:=λ p=>{p,(sb b 1)}
def U81:a=0->a=a-1:=λ p=>an {(ah p)} {(sl a 1)}
def U82:a<b->a+1<=b:=λ p=>{p}
def U83:¬a=0->(↑(a-1):Int)=(↑a:Int)-1:=λ p=>Int.le_antisymm {0,zl (sc a 1<|Nat.pos_of_ne_zero p)} {0,zl (sb a 1)}
def U87:a<b->a=b->False:=λ p q=>ff {p,(ah q.symm)}
def U88:(↑(a+1):Int)-1=(↑a:Int):=Int.le_antisymm {0} {0}
def U89:a<=b->a=b+1->False:=λ p q=>ff {p,(ah q.symm)}
def U92:¬0<a->¬0<(↑a:Int):=λ p=>λ h=>fz {0,(zl<|nl p),h}
def U93:0<a->0<(↑a:Int):=λ p=>{0,(zl p)}
def U96:a+5<=b->c<=d+a->d=1->c<=b:=λ p q r=>{p,q,(ah r)}
def U97:a<=b->b=c->c+5<=d->a+5<=d:=λ p q r=>{p,(ah q),r}
def U99:-1<(↑a:Int):={0,(nn a)}
def U102:a=b->c=d->a<c->b<=d:=λ p q r=>{(ah p.symm),(ah q),r}
def U103:a+1<b->¬a+1=b-1->a+1<b-1:=λ p q=>(ne q).elim (λ u=>{u})<|λ u=>(ff {p,u,(sb b 1)}).elim
def U104:a=b->a<c->c<=b->False:=λ p q r=>ff {(ah p.symm),q,r}
def U105:a<b->b-1<b:=λ p=>{(sc b 1 {p})}
def U106:a<b->¬a=b-1->a<b-1:=λ p q=>(ne q).elim (λ u=>{u})<|λ u=>(ff {p,u,(sb b 1)}).elim
def U108:¬120=10:=λ h=>ff {(ah h)}
def U109:¬a=10->¬a=10:=λ p=>λ h=>(ne p).elim (λ u=>ff {(ah h.symm),u})<|λ u=>ff {(ah h),u}
def U110:¬41=10:=λ h=>ff {(ah h)}
def U111:¬40=10:=λ h=>ff {(ah h)}
def U112:a=0->a<=b:=λ p=>{(ah p)}
def U113:a=b+1->c=b+1->c<=a:=λ p q=>{(ah p.symm),(ah q)}
def U114:a=b+1->c<=b->c<=a:=λ p q=>{(ah p.symm),q}
def U115:a<=b->c=b+1->a<c:=λ p q=>{p,(ah q.symm)}
def U116:a=b+c->d<=b->d<=a:=λ p q=>{(ah p.symm),q}
def U118:¬a<=b->¬b<a-1->(↑b:Int)+1=(↑a:Int):=λ p q=>Int.le_antisymm {0,(zl<|nt p)} {0,(zl<|nl q),(zl<|sb a 1)}
def U119:a<b->c<a->a-1<b-1:=λ p q=>{p,(sb b 1),(sc a 1 {q})}
def U120:a+1<b->a<b:=λ p=>{p}
def U121:a<=b->a-1<=b:=λ p=>{p,(sl a 1)}
def U122:a-1+1<=b->a<=b:=λ p=>{p,(sb a 1)}
def U123:a<b->c<a->c<b:=λ p q=>{p,q}
def U124:a<b+1->¬a=b->a<b:=λ p q=>(ne q).elim (λ u=>{u})<|λ u=>(ff {p,u}).elim
def U128:1+a<=b->b<1+c-1->b-1<c-1:=λ p q=>{q,(sb c 1),(sc (1+c) 1 {1}),(sc b 1 {p})}
def U129:1+a<=b->a<=b-1:=λ p=>{p,(sb b 1)}
def U130:1+a<=b->b=b-1+1:=λ p=>an {(sb b 1)} {(sc b 1 {p})}
def U131:0<a->1+a-1=a-1+1:=λ p=>an {(sb a 1),(sc (1+a) 1 {1})} {(sb (1+a) 1),(sc a 1 {p})}
def D0:a<b->1+a<1+b:=λ p=>{p}
def U133:a+1<1+b-1->a<b-1:=λ p=>{p,(sb b 1),(sc (1+b) 1 {1})}
def ET:0<1+a:={1}
def Fk:a<b->0<b:=λ p=>{p}
def U136:a<b->1+b-1=b-1+1:=λ p=>an {(sb b 1),(sc (1+b) 1 {1})} {(sb (1+b) 1),(sc b 1 {p})}
def DX:a+1<1+b->a<b:=λ p=>{p}
def U138:a<1-1->False:=λ p=>Nat.not_lt_zero _ p
def U139:0<1:={4}
def U140:a<b->c<=d->d<a->c<=d/\d<c+(b+1-c):=λ p q r=>⟨{q},{p,r,(sb (b+1) c)}⟩
def E2:a<b->a<b+1:=λ p=>{p}
def U142:1<=1:={4}
def U143:a<16777216->¬16777216<a+1+0:=λ p=>λ h=>ff {p,h}
def Dx:¬a<b->b<=a:=λ p=>{(nl p)}
def U145:a<b->¬b<=a:=λ p=>λ h=>ff {p,h}
def U146:¬a<0:=λ h=>ff {h}
def U147:a<=b->(↑a:Int)-1<(↑b:Int):=λ p=>{0,(zl p)}
def U148:a<=b->¬(↑(b+1):Int)-1<(↑a:Int):=λ p=>λ h=>fz {0,(zl p),h}
def EM:a<b->0+a<b:=λ p=>{p}
def U150:min a b=c->c<=b:=λ h=>h▸Nat.min_le_right ..
def U151:a+b=c->Int.toNat ((↑c:Int)-(↑a:Int))=b:=λ p=>Nat.le_antisymm (lz {0,zl<|ah p.symm,tx (↑c-↑a) {0,zl<|ah p,nn b}})<|lz {0,zl<|ah p,st ((↑c:Int)-(↑a:Int))}
def U152:a=b->c<=b->¬0+a<c:=λ p q=>λ h=>ff {(ah p.symm),q,h}
def U153:a<=b->c+b=d->¬(↑d:Int)-(↑c:Int)<(↑a:Int):=λ p q=>λ h=>fz {0,(zl p),(zl<|ah q),h}
def Fa:a+(b+1)=a+1+b:=an {1} {1}
def U155:a+(b+1)=c->a+1+b=c:=λ p=>an {(ah p)} {(ah p.symm)}
def U156:a+(b+1)=c->a<c:=λ p=>{(ah p)}
def Dp:14+1<=9*a+20:={1}
def FE:a<=4294967295->b+1+1<=a->b<=4294967295:=λ p q=>{p,q}
def DO:10+1<=9*a+20:={1}
def E8:a<=b->9*a+2+8+1<=9*b+20:=λ p=>{(Xx 9 p)}
def FS:9*a+2+8+1<=9*(a+1)+2:={1}
def De:a+4+1<=a+6:={1}
def U163:a<=4294967295->min 4294967295 a=a:=Nat.min_eq_right
def U164:a<4*(b+1)->¬a<=4->a-4<4*b:=λ p q=>{p,(sc a 4 {(nt q)})}
def U165:¬a<=4->a=4+(a-4):=λ p=>an {(sb a 4)} {(sc a 4 {(nt p)})}
def U166:a<=4->4=a+(4-a):=λ p=>an {(sb 4 a)} {(sc 4 a {p})}
def U167:¬a<4*0:=λ h=>ff {h}
def U168:a<=b->b-a<c->(¬c=0/\a<=b)/\b-a<c:=λ p q=>⟨⟨λ h=>ff {q,(ah h)},{p}⟩,{q}⟩
def U169:a<=b-c->b-c<a->False:=λ p q=>ff {p,q}
def U170:a<=1048576->Min.min 9223372036854775807 a=a:=λ h=>Nat.min_eq_right<|Zk h<|{4}
def U171:a<=b->Min.min (Int.toNat (↑a:Int)) b=a:=λ h=>Nat.min_eq_left h
def U172:a<=b->b<=c->Min.min (Int.toNat (↑a:Int)) c=a:=λ h k=>Nat.min_eq_left<|Zk h k
def E5:a<=b->b<=1048576->(↑a:Int)<=1048576:=λ p q=>{0,(zl p),(zl q)}
def ED:a<=b->b<=c->c<=1048576->(↑a:Int)<=1048576:=λ p q r=>{0,(zl p),(zl q),(zl r)}
def U175:a<=1048576->a<=1048576:=λ p=>{p}
def U176:a<=1048576->b<=a->(↑b:Int)<=1048576:=λ p q=>{0,(zl p),(zl q)}
def U177:¬a+1<a:=λ h=>ff {h}
def U178:a<b->b-(b-a)=a:=λ p=>an {(sb b a),(sc b (b-a) {(sl b a)})} {(sb b<|b-a),(sc b a {p})}
def U179:a+b<c->b+1<=c-a:=λ p=>{p,(sb c a)}
def U180:a-b-1=a-(b+1):=Nat.sub_sub a b 1
def U181:Int.toNat ((↑a:Int)-1)=a-1:=Int.toNat_sub a 1
def U182:a<=b->(↑a:Int)-1<=(↑b:Int):=λ p=>{0,(zl p)}
def Dr:0<a->0<=(↑a:Int)-1:=λ p=>{0,(zl p)}
def U184:6<14:={4}
def U185:a<=b->a-c<=b:=λ p=>{p,(sl a c)}
def U186:a+b<c->0<c-b:=λ p=>{p,(sb c b)}
def U187:a+b<c->c-b-1+1=c-b:=λ p=>an {(sc (c-b) 1 {p,(sb c b)})} {(sb (c-b) 1)}
def U188:a<=b->c+d<a->a-d-1<b:=λ p q=>{p,(sl a d),(sc (a-d) 1 {q,(sb a d)})}
def DC:a<=1048576->(↑a:Int)<=1048576:=λ p=>{0,(zl p)}
def U190:-1048576<=(↑a:Int):={0,(nn a)}
def ER:a<b->b<=1048576->(↑a:Int)<=1048576:=λ p q=>{0,(zl p),(zl q)}
def Fc:a<=b->b<=c->c+5<=d->a<=d:=λ p q r=>{p,q,r}
def U193:a<b->c<=a->c+1<=b:=λ p q=>{p,q}
def U194:a<b-c->c+a<b:=λ p=>(to b c).elim (λ u=>(ff {p,(ah<|sz u)}).elim)<|λ u=>{p,(sc b c {u})}
def U195:a<b->b<=c->a<c:=λ p q=>{p,q}
def U196:a<b->¬(↑b:Int)=0:=λ p=>λ h=>fz {0,(zl p),(Int.le_of_eq h),(nn a)}
def Fo:1<=9*a+20:={1}
def U198:a<b->1<=b-a:=λ p=>{p,(sb b a)}
def E6:a<=1048576->a<=4294967295:=λ p=>{p}
def U200:a+5<=1048576->a-b<=1048576:=λ p=>{p,(sl a b)}
def U201:a<b->a+(b-1-a)=b-1:=λ p=>an {(sc (b-1) a {p,(sb b 1)})} {(sb (b-1) a)}
def U202:a<b->0=b->False:=λ p q=>ff {p,(ah q.symm)}
def U203:a<=b->b<=c->a+(min b c-a)=b:=λ h k=>(congrArg (λ t=>a+(t-a))<|Nat.min_eq_left k).trans<|Nat.add_sub_cancel' h
def Fw:20*a+b+36<=20*a+b+40:={1}
def DV:a+3*b+20<16777216->a+1+0<16777216:=λ p=>{p}
def U206:a=b-c->20*a+(d+1+1)+30+1<=20*b+d+34:=λ p=>{(Xx 20<|ah p),(Xx 20<|sl b c)}
def U207:a+3*b+20<16777216->c=b-d->a+1+1+3*c+12<16777216:=λ p q=>{p,(Xx 3<|ah q),(Xx 3<|sl b d)}
def U208:a+3*b+20<16777216->c=b-d->-1+(↑c:Int)<4294967290:=λ p q=>{0,zl p,zl<|ah q,zl<|sl b d,zl (Nat.le_mul_of_pos_left b (by decide:0<3)),nn a}
def U209:-1<=-1:={4}
def Ez:a+1+(b+c)=a+1+b+c:=an {1} {1}
def FH:a+3*b+20<16777216->a+0<16777216:=λ p=>{p}
def DK:a+3*b+20<16777216->b<=4294967295:=λ p=>{p}
def Ee:20*a+b+38<=20*a+b+40:={1}
def D7:a+1+1+1+(b+c)=a+1+1+1+b+c:=an {1} {1}
def DE:a+8<=a+9:={1}
def DS:a+9+1<=20*b+a+30:={1}
def C8:a+1+5<=a+6:={1}
def FN:a+3*b+12<16777216->a+1+1<16777216:=λ p=>{p}
def DH:a+3*b+12<16777216->a+12<16777216:=λ p=>{p}
def FV:20*a+b+35+1<=20*(a+1+1)+b+30:={1}
def U221:a=b-c->20*a+(d+1+1)+30<=20*b+d+32:=λ p=>{(Xx 20<|ah p),(Xx 20<|sl b c)}
def U222:a+3*(b+1+1)+12<16777216->c=b-d->a+1+1+3*c+12<16777216:=λ p q=>{p,(Xx 3<|ah q),(Xx 3<|sl b d)}
def Dm:a<a+1+1+b:={1}
def U224 {a:Int}{b c d:Nat}:a+(↑(b+1+1):Int)<4294967290->c=b-d->a+1+(↑c:Int)<4294967290:=λ p q=>{0,p,(zl<|ah q),(zl<|sl b d)}
def Em {a:Int}:-1<=a->-1<=a+1:=λ p=>{0,p}
def U226:a+1+1<b+1->c=a-d->c<b:=λ p q=>{p,(ah q),(sl a d)}
def Gh:a+1+1+(b+c)=a+1+1+b+c:=an {1} {1}
def Dy:a+3*(b+1+1)+12<16777216->a+1+0<16777216:=λ p=>{p}
def EE {a:Int}{b:Nat}:-1<=a->a+(↑(b+1+1):Int)<4294967290->b<=4294967295:=λ p q=>lz {0,p,q}
def FJ:a+(2+b)=a+1+1+b:=an {1} {1}
def U231 {a:Int}{b:Nat}:a+(↑b:Int)<4294967290->a+1<(↑4294967295:Int):=λ p=>{0,p,(nn b)}
def U232 {a:Int}:-1<=a->¬a+1<(↑0:Int):=λ p=>λ h=>fz {0,p,h}
def U233:min 1 (a+1)=1:=Nat.min_eq_left<|Nat.le_add_left 1 a
def U234:a=b+1->20*b+c+42+2<=20*a+c+30:=λ p=>{(Xx 20<|ah p.symm)}
def U235:a+3*b+12<16777216->a+2<16777216:=λ p=>{p}
def U236 {a:Int}{b:Nat}:a+(↑b:Int)<4294967290->a<4294967290:=λ p=>{0,p,(nn b)}
def U237:a+3*b+12<16777216->a+1+1+0<16777216:=λ p=>{p}
def U240:a+3*b+12<16777216->a+7<16777216:=λ p=>{p}
def U242 {a:Int}{b:Nat}:a+(↑(b+1+1):Int)<4294967290->a<4294967290:=λ p=>{0,p,(nn b)}
def U246:a=b-c->20*a+(d+1+1+1)+30<=20*b+d+33:=λ p=>{(Xx 20<|ah p),(Xx 20<|sl b c)}
def U247:a+3*b+12<16777216->c<b->d=c-e->a+1+1+1+3*d+12<16777216:=λ p q r=>{p,(Xx 3 q),(Xx 3<|ah r),(Xx 3<|sl c e)}
def U249 {a:Int}{b c d e:Nat}:a+(↑b:Int)<4294967290->c<b->d=c-e->a+1+(↑d:Int)<4294967290:=λ p q r=>{0,p,(zl q),(zl<|ah r),(zl<|sl c e)}
def U250:a<b+1->c<a->d=c-e->d<b:=λ p q r=>{p,q,(ah r),(sl c e)}
def U273:a<=b->b+5<=1048576->c+1=a-d->3*c+30<16777216:=λ p q r=>{(Xx 3 p),(Xx 3 q),(Xx 3<|ah r),(Xx 3<|sl a d)}
def U274:a<=b->b+5<=1048576->a-c<=4294967295:=λ p q=>{p,q,(sl a c)}
def U275:a<=b->min a b-c=a-c:=λ h=>congrArg (·-c)<|Nat.min_eq_left h
def U276:a<b->0<=a/\a<0+(b+1-0):=λ p=>⟨{1},{p,(sb (b+1) 0)}⟩
def U277:a+(b+1)-1=a+b:=an {(sc (a+(b+1)) 1 {1})} {(sb (a+(b+1)) 1)}
def U278:a+b<c->(↑(a+(b+1)):Int)-1<(↑c:Int):=λ p=>{0,(zl p)}
def U279:-(↑a:Int)<=(↑(b+(c+1)):Int)-1:={0,(nn b),(nn c),(nn a)}
def U281:(↑a:Int)<=(↑(a+b):Int)-1->b=b-1+1:=λ p=>(Nat.sub_add_cancel<|lz {0,p}).symm
def U282:¬(↑a:Int)<=(↑(a+b):Int)-1->b=0:=λ p=>Nat.le_antisymm (lz {0,(it p)})<|lz {0,(nn b)}
def U283:a+b-1<c->(↑(a+b):Int)-1<(↑c:Int):=λ p=>{0,(zl p),(zl<|sb (a+b) 1)}
def U284:(↑(a+b):Int)-1=(↑(a+b-1):Int)->-(↑c:Int)<=(↑(a+b):Int)-1:=λ p=>{0,(Int.le_of_eq p.symm),(nn<|(a+b)-1),(nn c)}
def U285:0<a->(↑(b+a):Int)-1=(↑(b+a-1):Int):=λ p=>Int.le_antisymm {0,zl (sb (b+a) 1)} {0,zl (sc (b+a) 1 {p})}
def U287:¬(↑a:Int)<=(↑(a+0):Int)-1:=λ h=>fz {0,h}
def U288:a+b=c-d->0<b->¬(↑c:Int)<=(↑(d+a):Int):=λ p q r=>ff {ah p,q,Nat.sub_le_of_le_add (Nat.add_comm d a▸lz r)}
def U289:a=b-c->(↑b:Int)<=(↑(c+a):Int):=λ p=>{0,(zl<|ah p.symm),(zl<|sb b c)}
def U290:a<b->0=b-a->False:=λ p q=>ff {p,(ah q.symm),(sb b a)}
def U293:a+2<=b->a<=b:=λ p=>{p}
def U295:0<(↑(a+b+2):Int):={0,(nn a),(nn b)}
def U299:a<b+(c+1)->a=b+(d+1)->d<c:=λ p q=>{p,(ah q.symm)}
def U300:a<=b->¬b=a->b=a+(b-a-1+1):=λ p q=>an {(sb (b-a) 1),(sb b a)}<|(ne q).elim (λ u=>(ff {p,u}).elim)<|λ u=>{(sc (b-a) 1 {u,(sb b a)}),(sc b a {p})}
def U302:a+2<=b->a-1<=b:=λ p=>{p,(sl a 1)}
def U304:2*a+10<=b->c<=a->d<=2*e+1->e+f+g=c->d+2<=b:=λ p q r s=>{p,q,q,r,(ah s),(ah s)}
def U305:2*a+10<=b->c<=a->d<=e->e+f+g=c->d+2<=b:=λ p q r s=>{p,q,q,r,(ah s),(ah s)}
def U309:a+b+c=d->0<c->a+b<d:=λ p q=>{(ah p),q}
def U310:a<b->c+d=b-a->a+c+d=b:=λ p q=>an {(ah q),(sc b a {p})} {(ah q.symm),(sb b a)}
def U311:a+b=c->a+b<=c:=λ p=>{(ah p)}
def U312:a<b->c=b-a->a+c=b:=λ p q=>an {(ah q),(sc b a {p})} {(ah q.symm),(sb b a)}
def U313:a<b->a+(b-a-1)=b-1:=λ p=>an {(sb b 1),(sc (b-a) 1 {p,(sb b a)}),(sc b a {p})} {(sb (b-a) 1),(sb b a),(sc b 1 {p})}
def U314:a<b->a+(b-a-1)<b:=λ p=>{(sc (b-a) 1 {p,(sb b a)}),(sc b a {p})}
def U317:a+(b+1+1)=c->a+2<=c:=λ p=>{(ah p)}
def U319:a+(0+1)=b->a+1<=b:=λ p=>{(ah p)}
def U320:a<=b->1<=1+a/\1+a<=b+1:=λ p=>⟨{1},{p}⟩
def U321:a<=b->1<=3+a/\3+a<=b+1+1+1:=λ p=>⟨{1},{p}⟩
def U326:950+1+1<=1000:={4}
def U327:950+1<=1000:={4}
def U330:2*a+10<=b->c<=a->d=c->e<=2*d+1->e<=b:=λ p q r s=>{p,q,q,(ah r),(ah r),s}
def U331:2*a+10<=b->c<=a->d=c->e<=d->e<=b:=λ p q r s=>{p,q,q,(ah r),(ah r),s,s}
def U333:940+1+1<=950:={4}
def U335:990+1<=1000:={4}
def U337:¬(↑(a+1):Int)=0:=λ h=>fz {0,(Int.le_of_eq h),(nn a)}
def U338:1<=a->(↑(a-1):Int)=(↑a:Int)-1:=λ p=>Int.le_antisymm {0,zl (sc a 1 p)} {0,zl (sb a 1)}
def U342:1<=a->a-1+1<=a:=λ p=>{(sc a 1 {p})}
def U344:a<=b->a<=b:=λ p=>{p}
def U345:a<b->b=b-1+1:=λ p=>an {(sb b 1)} {(sc b 1 {p})}
def U349:a-1<a->a-1<=b->b<=c->1<=a/\a<=c+1:=λ p q r=>⟨{p},{q,r,(sb a 1)}⟩
def U350:a=b->c<=d->d<a->c+1<=b:=λ p q r=>{(ah p),q,r}
def U355:a+1<=b->b-a=0->False:=λ p q=>ff {p,(ah q),(sb b a)}
def U356:1+1<=60*0+4:={4}
def U362:0<a->¬b+(a+c)=0:=λ p=>λ h=>ff {p,(ah h)}
def U364:a+(b+1+1)-1=a+1+(b+1)-1:=an {(sb ((a+1)+(b+1)) 1),(sc (a+((b+1)+1)) 1 {1})} {(sb (a+((b+1)+1)) 1),(sc ((a+1)+(b+1)) 1 {1})}
def U370:a<=1048576->b=a-c->b<=4294967295:=λ p q=>{p,(ah q),(sl a c)}
def U371:a=b-c->b-c<4->a<4:=λ p q=>{(ah p),q}
def U372:a-b=a-b:=an {1} {1}
def U381:a+b=c+1->0+a+b=c+1:=λ p=>an {(ah p)} {(ah p.symm)}
def U382:0<a->a+b=a+b-1+1:=λ p=>an {(sb (a+b) 1)} {(sc (a+b) 1 {p})}
def K2:a+1+b-(a+1)=b:=an {(sc ((a+1)+b) (a+1) {1})} {(sb ((a+1)+b)<|a+1)}
def Lp:a=b+1->a<=b+1+c:=λ p=>{(ah p)}
def Lf:a=b+1->b<a:=λ p=>{(ah p.symm)}
def Lx:a+1+(b+1)-1=a+1+b:=an {(sc ((a+1)+(b+1)) 1 {1})} {(sb ((a+1)+(b+1)) 1)}
end
end
section
open Om
section
variable {a b c d e f g l:Nat}
def U459:a<=1->max (max 0 (max 0 0)+1) a<=1:=λ p=>Nat.max_le.mpr ⟨{4},p⟩
def U506:¬a=0->¬(↑a:Int)+1=1:=λ p=>λ h=>(Nat.lt_or_gt_of_ne p).elim (λ u=>fz {0,(Int.le_of_eq h.symm),(zl u)})<|λ u=>fz {0,(Int.le_of_eq h),(zl u)}
def U507:¬(↑(a+1):Int)<1:=λ h=>fz {0,h,(nn a)}
def U508:(↑(a+1):Int)<=9->¬16777216<1*Int.toNat (↑(a+1):Int):=λ p h=>fz {0,p,zl h,tx (↑(a+1)) {0,nn a}}
def U509:0<(↑(a+1):Int):={0,(nn a)}
def U512 {a:Int}:0<a->a=(↑(Int.toNat (a-1)+1):Int):=λ p=>Int.le_antisymm {0,st (a-1)} {0,tx (a-1) {0,p}}
end
end
section
open Om
section
variable {a b c d e f g l:Nat}
def U513 {a:Int}{b c:Nat}:0<=a->a<(↑b:Int)->Int.toNat a=c->-(↑b:Int)<=a/\a<(↑b:Int)/\c<b:=λ h o p=>⟨{0,h,nn b},{0,o},lz {0,o,zl<|ah p.symm,tx a h}⟩
def U515:a<=1048576->a+b*0<=16777216:=λ p=>{p,ah (Nat.mul_zero b)}
def U518:a+8*(b+1)<=16777216->a+(c-d % c)<=a+8->¬16777216<a+(c-d % c):=λ p q=>Nat.not_lt.mpr {p,q}
def U521:a<=b+8*c->b<=d+8->a<=d+8*(c+1):=λ h o=>{h,o}
def U523:1<=a/\a<=8->b+(a-c % a)<=b+8:=λ p=>{p.2,sl a (c % a)}
def U524:a<=b->a<=b:=λ h=>{h}
def U525:a<b->(↑a:Int)<(↑b:Int):=λ h=>{0,(zl h)}
def U526:-(↑a:Int)<=(↑b:Int):={0,(nn b),(nn a)}
def U527:a-b<=a-b:={1}
def U528:(↑a:Int)=max 0 (min (↑a:Int) (↑a:Int)):=((Int.max_eq_right<|Int.le_min.mpr ⟨nn a,nn a⟩).trans<|Int.min_eq_left<|Int.le_refl _).symm
def U530:a+(b+1)=c+1->a+1+b=c+1:=λ h=>an {(ah h)} {(ah h.symm)}
def U535:a<b->a+1<=b:=λ h=>{h}
def U536:a+(b+1)<=c->a<c:=λ h=>{h}
def U537:¬a<b->b<=a:=λ h=>{(nl h)}
def U539:a+0=b+1->b<=a:=λ h=>{(ah h.symm)}
def U540:a<=1->¬2<=(↑a:Int):=λ o=>λ h=>fz {0,(zl o),h}
def U541:¬a=2->a<=2->a<=1:=λ h o=>(ne h).elim (λ u=>{u})<|λ u=>(ff {o,u}).elim
def U542:¬a=92/\¬a=10->¬(a=92\/a=10):=λ p=>λ h=>(ne p.1).elim (λ u=>(ne p.2).elim (λ o=>h.elim (λ uvv=>ff {u,(ah uvv.symm)})<|λ uvv=>ff {o,(ah uvv.symm)})<|λ o=>h.elim (λ uvv=>ff {u,(ah uvv.symm)})<|λ uvv=>ff {o,(ah uvv)})<|λ u=>(ne p.2).elim (λ o=>ff {u,o})<|λ o=>h.elim (λ uvv=>ff {u,(ah uvv)})<|λ uvv=>ff {u,(ah uvv)}
def U543:a+1+b<3->¬a=2:=λ o=>λ h=>ff {o,(ah h.symm)}
def U545:a=0->0+1+(1+a)<3:=λ h=>{(ah h)}
def U546:a+(1+b)<3->b=1+(1+c)->False:=λ h o=>ff {h,(ah o.symm)}
def U547:a=2->a+b<3->b=1->False:=λ h o p=>ff {(ah h.symm),o,(ah p.symm)}
def U548:a=2->a=0->False:=λ h o=>ff {(ah h.symm),(ah o)}
def U549:a=92\/a=10->a=b->¬b=92/\¬b=10->False:=λ q o p=>q.elim (λ u=>(ne p.1).elim (λ h=>ff {(ah o),(ah u.symm),h})<|λ h=>ff {(ah o.symm),(ah u),h})<|λ u=>(ne p.1).elim (λ h=>(ne p.2).elim (λ uvv=>ff {(ah o),(ah u.symm),uvv})<|λ uvv=>ff {(ah o.symm),(ah u),uvv})<|λ h=>ff {(ah o.symm),(ah u),h}
def U550:a=34\/a=39\/a=92\/a=10->a=34\/a=39\/a=92\/a=10\/a=35:=λ h=>h.imp_right<|Or.imp_right<|Or.imp_right .inl
def U551:a=34\/a=39\/a=92\/a=10->¬(a=41\/a=125\/a=93):=by rintro (rfl|rfl|rfl|rfl)<;>decide
def U552:a=34\/a=39\/a=92\/a=10->¬(a=40\/a=123\/a=91):=by rintro (rfl|rfl|rfl|rfl)<;>decide
def U553:a=34\/a=39\/a=92\/a=10->120=a->False:=λ p h=>p.elim (λ u=>ff {(ah h),(ah u)})<|λ u=>u.elim (λ o=>ff {(ah h),(ah o)})<|λ o=>o.elim (λ uvv=>ff {(ah h),(ah uvv)})<|λ uvv=>ff {(ah h),(ah uvv)}
def U554:a=34\/a=39\/a=92\/a=10->41=a->False:=λ p h=>p.elim (λ u=>ff {(ah h),(ah u)})<|λ u=>u.elim (λ o=>ff {(ah h),(ah o)})<|λ o=>o.elim (λ uvv=>ff {(ah h.symm),(ah uvv.symm)})<|λ uvv=>ff {(ah h),(ah uvv)}
def U555:a=34\/a=39\/a=92\/a=10->40=a->False:=λ p h=>p.elim (λ u=>ff {(ah h),(ah u)})<|λ u=>u.elim (λ o=>ff {(ah h),(ah o)})<|λ o=>o.elim (λ uvv=>ff {(ah h.symm),(ah uvv.symm)})<|λ uvv=>ff {(ah h),(ah uvv)}
def U556:a+1=b-c->0<a->c+1<b:=λ h o=>(to b c).elim (λ u=>(ff {(ah h),(ah<|sz u)}).elim)<|λ u=>{(ah h),o,(sc b c {u})}
def U557:a=b->c+1=b-a->False:=λ h o=>ff {(ah h.symm),(ah o),(sc b a {(ah h)})}
def U558:a<=b+1->c=d+a->b+1=e-d->c<=e:=λ o p h=>(to e d).elim (λ u=>(ff {(ah h),(ah<|sz u)}).elim)<|λ u=>{o,(ah p),(ah h),(sc e d {u})}
def U559:a<b->0=b-a->False:=λ h o=>ff {h,(ah o.symm),(sb b a)}
def U560:a % b<=a->(↑(a+b):Int)-(↑(a % b):Int)=(↑(a+b-a % b):Int):=λ p=>(Int.ofNat_sub<|Zk p<|Nat.le_add_right a b).symm
def U561:0<a->¬(↑a:Int)=0:=λ o=>λ h=>fz {0,(zl o),(Int.le_of_eq h)}
def U563:a+b=c->b<c->a-1+(b+1)=c:=λ h o=>an {(ah h),(sc a 1 {(ah h.symm),o})} {(ah h.symm),(sb a 1)}
def U564:a+b=c->b<c->a-1<a:=λ h o=>{(sc a 1 {(ah h.symm),o})}
def U565:a<=b->b-a+a=b:=λ h=>an {(sc b a {h})} {(sb b a)}
def U566:a-b=c+1->b<a:=λ p=>Nat.lt_of_sub_pos {ah p.symm}
def U567:a=b+1->a<=b+c+1:=λ h=>{(ah h)}
def U568:a<=b+1->a=c+1->min c b=c:=λ p q=>Nat.min_eq_left {p,ah q.symm}
def U569:a<=b+1->min a (b+1)=a:=Nat.min_eq_left
def U570:0<a->a=a-1+1:=λ h=>an {(sb a 1)} {(sc a 1 {h})}
def U572:a<=b-2->2<=b->3+a<=b+1:=λ h o=>{h,(sc b 2 {o})}
def U576:a=b+2->a<=1->False:=λ h o=>ff {(ah h.symm),o}
def U577:3<=a->a=a-2+2:=λ h=>an {(sb a 2)} {(sc a 2 {h})}
def U580:¬a=92->¬a=10->¬(a=92\/a=10):=λ q p=>λ h=>(ne q).elim (λ u=>(ne p).elim (λ o=>h.elim (λ uvv=>ff {u,(ah uvv.symm)})<|λ uvv=>ff {o,(ah uvv.symm)})<|λ o=>h.elim (λ uvv=>ff {u,(ah uvv.symm)})<|λ uvv=>ff {o,(ah uvv)})<|λ u=>(ne p).elim (λ o=>ff {u,o})<|λ o=>h.elim (λ uvv=>ff {u,(ah uvv)})<|λ uvv=>ff {u,(ah uvv)}
def U581:a-b=c+3->b+3<=a:=λ h=>(to a b).elim (λ u=>(ff {(ah h.symm),(ah<|sz u)}).elim)<|λ u=>{(ah h.symm),(sc a b {u})}
def U582:a<b->a<=b:=λ h=>{h}
def U584:a<=a:={1}
def U585:a+b=c->¬b<c->b=c:=λ h o=>an {(ah h)} {(nl o)}
def U586:a+(1+b)=c->a+1+b=c:=λ h=>an {(ah h)} {(ah h.symm)}
def U587:a+(2+b)=c->a+1+1+b=c:=λ h=>an {(ah h)} {(ah h.symm)}
def U588:a+b=c->b+1<c->a-2+(b+1+1)=c:=λ h o=>an {(ah h),(sc a 2 {(ah h.symm),o})} {(ah h.symm),(sb a 2)}
def U589:a+b=c->b+1<c->a-2<a:=λ h o=>{(sc a 2 {(ah h.symm),o})}
def U590:a+1<b->b-(a+1)=0->False:=λ h o=>ff {h,(ah o),(sb b<|a+1)}
def U591:a<b->b-a=0->False:=λ h o=>ff {h,(ah o),(sb b a)}
def U592:(↑a:Int)=(↑b:Int)↔a=b:=Int.ofNat_inj
def U593:a<=b+1->b+1-a=0->a=b+1:=λ h o=>an {h} {(ah o),(sb (b+1) a)}
def U594:0<a->b=a+b->False:=λ h o=>ff {h,(ah o.symm)}
def U597:a+1<=b->a<=b:=λ h=>{h}
def U599:¬a=b+1->¬a+c=b+c+1:=λ o=>λ h=>(ne o).elim (λ u=>ff {(ah h.symm),u})<|λ u=>ff {(ah h),u}
def U600:a=b+1->a+c=b+c+1:=λ h=>an {(ah h)} {(ah h.symm)}
def U603:a<b->b<=c->d+a=c->d-(b-a)+b=c:=λ o p h=>an ((to d<|b-a).elim (λ u=>{p,(ah<|sz u)})<|λ u=>{(ah h),(sb b a),(sc d (b-a) {u})}) {(ah h.symm),(sb d<|b-a),(sc b a {o})}
def U604:a<b->b<=c->d+a=c->d-(b-a)<d:=λ h o p=>(to d<|b-a).elim (λ u=>{h,o,(ah p.symm),(ah<|sz u)})<|λ u=>{h,(sb b a),(sc d (b-a) {u})}
def U605:a<=2*b+1->c+b=d->d<=1000->a+2<=5000:=λ p h o=>{p,(ah h),(ah h),o,o}
def U606:a<=b->c+b=d->d<=1000->a<=5000:=λ h o p=>{h,(ah o),p}
def U607:a+1<b->a<=b:=λ h=>{h}
def U608:a+1<b->a+2<=b:=λ h=>{h}
def U609:a<a+2:={1}
def U610:a-1<=a+1:={(sl a 1)}
def U611:a=41\/a=93\/a=125->¬a=10:=λ p=>λ h=>p.elim (λ u=>ff {(ah h),(ah u.symm)})<|λ u=>u.elim (λ o=>ff {(ah h),(ah o.symm)})<|λ o=>ff {(ah h),(ah o.symm)}
def U612:a=40\/a=91\/a=123->a=10->False:=λ p h=>p.elim (λ u=>ff {(ah h),(ah u.symm)})<|λ u=>u.elim (λ o=>ff {(ah h),(ah o.symm)})<|λ o=>ff {(ah h),(ah o.symm)}
def U613:a<=b->c+b=d->d<=1000->a+1<=5000:=λ h o p=>{h,(ah o),p}
def U614:a=40\/a=91\/a=123->¬a=10:=λ p=>λ h=>p.elim (λ u=>ff {(ah h),(ah u.symm)})<|λ u=>u.elim (λ o=>ff {(ah h),(ah o.symm)})<|λ o=>ff {(ah h),(ah o.symm)}
def U615:a<=2*b+1->c+b=d->d<=1000->a+1<=5000:=λ p h o=>{p,(ah h),(ah h),o,o}
def U616:a<=b+1->b<=c->d+c=e->e<=1000->a<=5000:=λ h o p q=>{h,o,(ah p),q}
def U617:a-b=c+1->d=c+1->b+d=a:=λ h o=>an ((to a b).elim (λ u=>(ff {(ah h.symm),(ah<|sz u)}).elim)<|λ u=>{(ah h.symm),(ah o),(sc a b {u})}) {(ah h),(ah o.symm),(sb a b)}
def U618:a=2\/a=3->¬a=0:=λ o=>λ h=>o.elim (λ u=>ff {(ah h),(ah u.symm)})<|λ u=>ff {(ah h),(ah u.symm)}
def U619:a-b=c+1->d=c+1->b+d<=a:=λ h o=>(to a b).elim (λ u=>(ff {(ah h.symm),(ah<|sz u)}).elim)<|λ u=>{(ah h.symm),(ah o),(sc a b {u})}
def U621:¬a=1->¬b+a=b+1:=λ o=>λ h=>(ne o).elim (λ u=>ff {(ah h.symm),u})<|λ u=>ff {(ah h),u}
def U622:a=1->b+a=b+1:=λ h=>an {(ah h)} {(ah h.symm)}
def U624:a-b=c+1->d<=c+1->b+d<=a:=λ h o=>(to a b).elim (λ u=>(ff {(ah h.symm),(ah<|sz u)}).elim)<|λ u=>{(ah h.symm),o,(sc a b {u})}
def U626:a+b+1<c->a+b+1<=c:=λ h=>{h}
def U627:a<a+b+1:={1}
def U628:a-b=c+(d+1)+1->b+c+1<a:=λ h=>(to a b).elim (λ u=>(ff {(ah h.symm),(ah<|sz u)}).elim)<|λ u=>{(ah h.symm),(sc a b {u})}
def U629:a<b->a+(b-1-a)=b-1:=λ h=>an {(sc (b-1) a {h,(sb b 1)})} {(sb (b-1) a)}
def U631:a<=b->b<a+c->b-a<c:=λ h o=>{o,(sc b a {h})}
def U632:a<=b->a+(b-a)=b:=λ h=>an {(sc b a {h})} {(sb b a)}
def U633:a<b->a<b:=λ h=>{h}
def U634:a=b->b<=a:=λ h=>{(ah h.symm)}
def U635:a-b=c+(d+(e+1)+1)->b+c+d+1<a:=λ h=>(to a b).elim (λ u=>(ff {(ah h.symm),(ah<|sz u)}).elim)<|λ u=>{(ah h.symm),(sc a b {u})}
def U639:a+b=c->d<=b->e<=2*b+1->c<=1000->e<=5000/\d<=5000:=λ h p q o=>⟨{(ah h),(ah h),q,o,o},{(ah h),p,o}⟩
def U641:a<b->b-a+a=b:=λ h=>an {(sc b a {h})} {(sb b a)}
def U642:a<b->a+(b-a-1)=b-1:=λ h=>an {(sb b 1),(sc (b-a) 1 {h,(sb b a)}),(sc b a {h})} {(sb (b-a) 1),(sb b a),(sc b 1 {h})}
def U646:a<b->c<=a->c<b:=λ h o=>{h,o}
def U647:a+b+1<=c->c-(a+b+1)+(a+b+1)=c:=λ h=>an {(sc c ((a+b)+1) {h})} {(sb c<|(a+b)+1)}
def U649:a+b=c->b+d+1<=c->c-(b+d+1)<a:=λ h o=>{(ah h.symm),(sc c ((b+d)+1) {o})}
def U650:a<b->¬b<=a:=λ o=>λ h=>ff {o,h}
def U651:a+b=c->c<0+b->False:=λ h o=>ff {(ah h),o}
def U652:a<b->b-(a+1)+(a+1)=b:=λ h=>an {(sc b (a+1) {h})} {(sb b<|a+1)}
def U654:¬a=32/\¬a=9->¬a=10->(a=32\/a=9)\/a=10->False:=λ p q r=>r.elim (Or.elim · p.1 p.2) q
def U655:a-b=c+(d+1)->b+c+1<=a:=λ h=>(to a b).elim (λ u=>(ff {(ah h.symm),(ah<|sz u)}).elim)<|λ u=>{(ah h.symm),(sc a b {u})}
def U656:Int.toNat ((↑a:Int)+1)=a+1:=rfl
def U657:2<=a->a-2<a:=λ h=>{(sc a 2 {h})}
def U659:2<=a->a-1<a:=λ h=>{(sc a 1 {h})}
def U661:a=b-c->Int.toNat (-(↑c:Int)+(↑b:Int))=a:=λ p=>p▸(congrArg Int.toNat<|Int.add_comm ..).trans (Int.toNat_sub b c)
def U662:0<a->a<=b->0<=-(↑a:Int)+(↑b:Int)/\-(↑a:Int)+(↑b:Int)<(↑b:Int):=λ h o=>⟨{0,(zl o)},{0,(zl h)}⟩
def U665:a=0->0<a->False:=λ h o=>ff {(ah h),o}
def U668:0+(0+(1+a))=1->a=0:=λ h=>an {(ah h)} {1}
def U669:a=32\/a=9->¬a=10:=λ o=>λ h=>o.elim (λ u=>ff {(ah h),(ah u.symm)})<|λ u=>ff {(ah h.symm),(ah u)}
def U670:a=35->¬a=10:=λ o=>λ h=>ff {(ah o.symm),(ah h)}
def U671:a+b=c->b<d->d<=c->c-d<a:=λ h o p=>{(ah h.symm),o,(sc c d {p})}
def U672:a<b->b<=c->a<c:=λ h o=>{h,o}
def U673:a<b->b=a+(b-a):=λ h=>an {(sb b a)} {(sc b a {h})}
def U674:a<b->a+(b-a)=b:=λ h=>an {(sc b a {h})} {(sb b a)}
def U675:a<=b->min a b=a:=Nat.min_eq_left
def U676:a<b->b=c->a<c:=λ h o=>{h,(ah o)}
def U677:a<=b->min (a-c) (b-c)=a-c:=λ p=>Nat.min_eq_left<|Nat.sub_le_sub_right p c
def U678:a=4->a=0->False:=λ h o=>ff {(ah h.symm),(ah o)}
def U680:0<a->a-1+1=a:=λ h=>an {(sc a 1 {h})} {(sb a 1)}
def U681:a+1-2=a-1:=Nat.add_sub_add_right a 1 1
def U682:a+1-1=a:=an {(sc (a+1) 1 {1})} {(sb (a+1) 1)}
def U683:a-1<=a:={(sl a 1)}
def U686:0<a->min a a=0->False:=λ p q=>absurd ((Nat.min_self a).symm.trans q)<|Nat.ne_of_gt p
def U687:a<b->a=b->False:=λ h o=>ff {h,(ah o.symm)}
def U688:¬a=4->¬(↑a:Int)=4:=λ o=>λ h=>(Nat.lt_or_gt_of_ne o).elim (λ u=>fz {0,(Int.le_of_eq h.symm),(zl u)})<|λ u=>fz {0,(Int.le_of_eq h),(zl u)}
def U689:Int.toNat (-1+(↑a:Int))=a-1:=by rw[Int.add_comm];exact Int.toNat_sub a 1
def U690:0<a->0<=-1+(↑a:Int)/\-1+(↑a:Int)<(↑a:Int):=λ h=>⟨{0,(zl h)},{0}⟩
def U691:0<a->a-1<a:=λ h=>{(sc a 1 {h})}
def U692:(↑a:Int)=4↔a=4:=Int.ofNat_inj (n:=4)
def U693:a+1<b->a+1<b:=λ h=>{h}
def U694:a+b=c->b+1<c->a-1+(b+1)=c:=λ h o=>an {(ah h),(sc a 1 {(ah h.symm),o})} {(ah h.symm),(sb a 1)}
def U695:a+b=c->b+1<c->a-1<a:=λ h o=>{(sc a 1 {(ah h.symm),o})}
def U697:a+b=c->c<=d-e->a<=d:=λ h o=>{(ah h),o,(sl d e)}
def U698:a<=b->b<c->c-a+a=c:=λ h o=>an {(sc c a {h,o})} {(sb c a)}
def U699:a<=b->b<c->a<c:=λ h o=>{h,o}
def U700:a+b+1<=c->c<a+b+1->False:=λ h o=>ff {h,o}
def U701:a<b+(c+1)->a<b+d+1+c:=λ h=>{h}
def U704:a+b=c->c<b+0->False:=λ h o=>ff {(ah h),o}
def U705:a<b+1->¬a=b->a<b:=λ h o=>(ne o).elim (λ u=>{u})<|λ u=>(ff {h,u}).elim
def U707:min (a-b) (c-b)<=c:=Zk (Nat.min_le_right ..)<|sl c b
def U708:a<=0+8*min (b-c) (d-c)->d<=1000->a<=8000:=λ p q=>{p,Xx 8 (Zk (Zk (Nat.min_le_right (b-c)<|d-c)<|sl d c) q)}
def U710:a<min (b-c) (d-c)->c+a<b:=λ p=>Nat.add_comm c a▸Nat.add_lt_of_lt_sub (Nat.lt_of_lt_of_le p<|Nat.min_le_left ..)
def U712:a<min (b-c) (d-c)->a<b-c:=λ p=>Nat.lt_of_lt_of_le p<|Nat.min_le_left ..
def U714:a % b<b->a+b-a % b=a+(b-a % b):=λ p=>Nat.add_sub_assoc (Nat.le_of_lt p) a
def U717:a<=5->¬a=0->¬a=1->¬a=2->¬a=3->¬a=4->a=5:=λ o p q r t w=>an {o}<|(ne p).elim (λ u=>(ff {u}).elim)<|λ u=>(ne q).elim (λ h=>(ff {u,h}).elim)<|λ h=>(ne r).elim (λ uvv=>(ff {h,uvv}).elim)<|λ uvv=>(ne t).elim (λ uvvv=>(ff {uvv,uvvv}).elim)<|λ uvvv=>(ne w).elim (λ uvvvv=>(ff {uvvv,uvvvv}).elim)<|λ uvvvv=>{uvvvv}
def U718 {a:Nat}{b:Int}:0<a->b<(↑a:Int)->Int.toNat b<a:=λ p q=>(Int.toNat_lt' p).mpr q
def U720:a<=63->a<=5000:=λ h=>{h}
def U721:¬(↑a:Int)<0:=λ h=>fz {0,h,(nn a)}
def U723:a<=1000->2*a+10<=5000:=λ h=>{h,h}
def U724:a<=1000->a+5<=5000:=λ h=>{h}
def U725:a<=6*min 40 b->c<=9->c+a+1<=1000:=λ p q=>{p,q,Xx 6 (Nat.min_le_left 40 b)}
def U726:a<=b*c->d<=b->d+a<=b*c+b*1:=λ p q=>{p,q,ah (Nat.mul_one b).symm}
def U727:a<=6*min 40 b->a<=5000:=λ p=>{p,Xx 6 (Nat.min_le_left 40 b)}
def U728 {a:Int}:a<24->Int.toNat a<24:=(Int.toNat_lt'<|{4}).mpr
def U729:min 40 a<=5000:=Zk (Nat.min_le_left ..)<|{4}
def U731:8-a<=8:={(sl 8 a)}
def U732:a<8->1<=8-a:=λ h=>{h,(sb 8 a)}
def U736:a<8->8-(↑a:Int)=(↑(8-a):Int):=λ h=>Int.le_antisymm {0,zl (sb 8 a)} {0,zl (sc 8 a {h})}
def U737:min 6 a+6<=5000:={Nat.min_le_left 6 a}
def U738:min 6 a<=5000:={Nat.min_le_left 6 a}
def U739 {a:Int}:0<=a/\a<6->Int.toNat a<=5:=λ h=>lz {0,h.2,tx a h.1}
end
end
namespace Re
open PySem PySem.Sre
structure Z where
 code:Array Nat
 text:Array Nat
 lim:Nat
 start:Nat
structure Fr where
 wait:Wait
 pc:Nat
 pos:Nat
 om:Bool
 count:Int:=0
 whole:Bool:=false
 loop:Nat:=0
 began:Option Nat:=Wq
noncomputable def Fr.f (x:Fr):Sre.Frame:={wait:=x.wait,pc:=x.pc,pos:=x.pos,outermost:=x.om,count:=x.count,kept:={whole:=x.whole},loop:=x.loop,began:=x.began}
structure A where
 pc:Nat
 pos:Nat
 handed:Nat
 om:Bool
 loops:Array Loop
 inner:Option Nat
 frames:List Fr
 answer:Option Bool
def mk (z:Z)(a:A)(se:Sre.Seen):M:=
 {code:=z.code,text:=z.text,lim:=z.lim,start:=z.start,pc:=a.pc,pos:=a.pos,handed:=a.handed,outermost:=a.om,marks:=#[],loops:=a.loops,inner:=a.inner,frames:=a.frames.map Fr.f,weight:=a.frames.length,answer:=a.answer,seen:=se}
noncomputable def it:Nat->M->M
 |0,m=>m|n+1,m=>it n m.step
def KA (z:Z)(r:Option Nat)(m:M):Prop:=
 m.start=z.start/\m.lastindex=-1/\match r with|some e=>m.outcome=Kf .matched/\m.handed=e|none=>m.outcome=Kf .failed
def Ends (z:Z)(r:Option Nat)(N:Nat)(a:A):Prop:=∀se,∃n,n<=N/\KA z r (it n<|mk z a se)
def bq {z:Z}{r:Option Nat}{N:Nat}{a a':A}(h:∀f,∃b,(mk z a f).step=mk z a' b)(k:Ends z r N a'):Ends z r (N+1) a:=by intro f;obtain⟨b,e⟩:=h f;obtain⟨n,i,q⟩:=k b;exact⟨n+1,by exact {i},by show KA z r (it n (mk z a f).step);rw[e];exact q⟩
def Ends.mono {z:Z}{r:Option Nat}{N b:Nat}{a:A}(h:Ends z r N a)(l:N<=b):Ends z r b a:=by intro e;obtain⟨n,f,q⟩:=h e;exact⟨n,by exact {l,f},q⟩
section
variable {z:Z}{r:Option Nat}{N pc pos:Nat}{loops:Array Loop}{fs:List Fr}
def zY:Ends z (Kf handed) 1 ⟨pc,pos,handed,om,loops,inner,[],Kf true⟩:=λ b=>⟨1,by exact U142,rfl,rfl,rfl,rfl⟩
def fin_no:Ends z Wq 1 ⟨pc,pos,handed,om,loops,inner,[],Kf false⟩:=λ b=>⟨1,by exact U142,rfl,rfl,rfl⟩
noncomputable def Fr.passes (f:Fr):Bool:=match f.wait with| .nextBranch | .giveBack | .closeLoop | .maxMore | .maxTail=>true|_=>false
def dv {fs:List Fr}:∀(h:∀f∈fs,f.passes=true) {pc pos:Nat} {om:Bool} {loops:Array Loop} {inner:Option Nat},Ends z (Kf handed) (fs.length+1) ⟨pc,pos,handed,om,loops,inner,fs,Kf true⟩:=by induction fs with|nil=>intro _ _ _ _ _ _;exact zY|cons f fs rH=>intro h pc pos om loops inner;obtain⟨wait,fpc,fpos,fom,count,whole,loop,began⟩:=f;have e:=λ {pc pos om loops inner}=>rH (λ f i=>h f<|.tail _ i) (pc:=pc) (pos:=pos) (om:=om) (loops:=loops) (inner:=inner);have j:=h _<|.head _;cases wait with|nextBranch=>exact bq (a':=⟨fpc,fpos,handed,fom,loops,inner,fs,Kf true⟩) (λ b=>⟨b,rfl⟩) e|giveBack=>exact bq (a':=⟨fpc,fpos,handed,fom,loops,inner,fs,Kf true⟩) (λ b=>⟨b,rfl⟩) e|closeLoop=>exact bq (a':=⟨fpc,fpos,handed,fom,loops.pop,(loops.getD loop {pc:=0,outer:=Wq}).outer,fs,Kf true⟩) (λ b=>⟨b,rfl⟩) e|maxMore=>exact bq (a':=⟨fpc,fpos,handed,fom,loops.modify loop λ l=>{l with began:=began},inner,fs,Kf true⟩) (λ b=>⟨b,rfl⟩) e|maxTail=>exact bq (a':=⟨fpc,fpos,handed,fom,loops,Kf loop,fs,Kf true⟩) (λ b=>⟨b,rfl⟩) e|_=>exact Bool.noConfusion j
def bV {a:A}{b:Sre.Seen}(e:a.answer=Wq)(f:a.pc<z.code.size):(mk z a b).step=(mk z a b).exec:=by obtain⟨pc,pos,handed,om,loops,inner,fs,ans⟩:=a;subst e;show (if pc<z.code.size then (mk z ⟨pc,pos,handed,om,loops,inner,fs,Wq⟩ b).exec else _)=_;rw[Wy f]
noncomputable def mB:Except String (Bool×Sre.Seen)->Option Bool
 | .ok p=>Kf p.1| .error _=>Wq
def EH {x:Except String (Bool×Sre.Seen)}{b:Bool}(h:mB x=Kf b):∃f,x=.ok (b,f):=by cases x with|error e=>contradiction|ok p=>obtain⟨c,f⟩:=p;injection h with h;subst h;exact⟨f,rfl⟩
def wm {α β:Type}{f:α->β}{p:Prop}{i:Decidable p}{a b a' e:α}(j:f a=f a')(k:f b=f e):f (@ite α p i a b)=f (@ite α p i a' e):=by by_cases h:p;rw[Wy h,Wy h];exact j;rw[Wg h,Wg h];exact k
def pQ (code:Array Nat)(c:Nat)(fuel:Nat):∀(i:Nat) (mI:Bool) (j h:Sre.Seen),mB (inSet code c fuel i mI j)=mB (inSet code c fuel i mI h):=by
 induction fuel with|zero=>intro _ _ _ _;exact rfl|succ fuel rH=>
  intro i mI j h;have f:=rH;conv=>lhs;arg 1;whnf
  conv=>rhs;arg 1;whnf
  cases ops[code.getD (i+0) 0]? with|none=>rfl|some k=>
   cases k with
   |NEGATE=>exact f _ _ _ _|LITERAL=>exact wm rfl<|f _ _ _ _|RANGE=>exact wm rfl<|f _ _ _ _|RANGE_UNI_IGNORE=>exact wm rfl<|f _ _ _ _|CHARSET=>exact wm rfl<|f _ _ _ _|BIGCHARSET=>exact wm rfl<|f _ _ _ _|CATEGORY=>dsimp only;cases category (code.getD (i+1) 0) c with|error e=>rfl|ok b=>cases b<;>first|rfl|exact f _ _ _ _
   |_=>rfl
end
end Re
namespace Re
open PySem PySem.Sre
section
variable {z:Z}{r:Option Nat}{N pc pos:Nat}{loops:Array Loop}{fs:List Fr}
def acc (code:Array Nat)(pc c:Nat):Option Bool:=mB<|accepts code pc c {}
def pT {pc c:Nat}{b:Bool}(h:acc code pc c=Kf b)(f:Sre.Seen):∃e,accepts code pc c f=.ok (b,e):=by refine EH<|h▸?_;unfold acc accepts;dsimp only;cases ops[code.getD pc 0]? with|none=>rfl|some i=>cases i<;>first|rfl|exact pQ ..
noncomputable def kO (o:Op):Bool:=o.ctorIdx==2||o.ctorIdx==3||o.ctorIdx==13||o.ctorIdx==16
def bX {a:A}{b:Sre.Seen}{op:Op}(h:ops[z.code.getD a.pc 0]?=Kf op):ops[(mk z a b).word 0]?=Kf op:=h
@[elab_as_elim] theorem one_ind {G:Op->Prop} {op:Op} (b:kO op=true) (l:G .LITERAL) (h:∀o,kO o=true->G .LITERAL->G o):G op:=h op b l
def mj {op:Op}(i:ops[z.code.getD pc 0]?=Kf op)(j:kO op=true)(l:pc<z.code.size)(hl:pos<z.lim)(p:acc z.code pc (z.text.getD pos 0)=Kf true)(k:Ends z r N ⟨pc+itemWidth z.code pc,pos+1,handed,om,loops,inner,fs,Wq⟩):Ends z r (N+1) ⟨pc,pos,handed,om,loops,inner,fs,Wq⟩:=by
 refine bq (λ f=>?_) k;rw[bV rfl l];unfold M.exec;rw[bX i];refine one_ind j ?_ ?_;rotate_left;intro o h g;cases o<;>first|exact Bool.noConfusion h|exact g
 obtain⟨b,e⟩:=pT p<|f.add<|z.code.getD pc 0;refine⟨b,?_⟩;show (if pos ≥ z.lim then _ else match accepts z.code pc (z.text.getD pos 0) (f.add<|z.code.getD pc 0) with | .error why=>_ | .ok (false,seen)=>_ | .ok (true,seen)=>_)=_;rw[Wg<|U145 hl,e];rfl
def qe {op:Op}(i:ops[z.code.getD pc 0]?=Kf op)(j:kO op=true)(l:pc<z.code.size)(p:pos<z.lim->acc z.code pc (z.text.getD pos 0)=Kf false)(k:Ends z r N ⟨pc,pos,handed,om,loops,inner,fs,Kf false⟩):Ends z r (N+1) ⟨pc,pos,handed,om,loops,inner,fs,Wq⟩:=by
 refine bq (λ b=>?_) k;rw[bV rfl l];unfold M.exec;rw[bX i];refine one_ind j ?_ ?_;rotate_left;intro o h g;cases o<;>first|exact Bool.noConfusion h|exact g
 by_cases hl:pos<z.lim;obtain⟨f,e⟩:=pT (p hl) (b.add<|z.code.getD pc 0);refine⟨f,?_⟩;show (if pos ≥ z.lim then _ else match accepts z.code pc (z.text.getD pos 0) (b.add<|z.code.getD pc 0) with | .error why=>_ | .ok (false,seen)=>_ | .ok (true,seen)=>_)=_;rw[Wg<|U145 hl,e];rfl;exact⟨b.add<|z.code.getD pc 0,Wy<|Nat.le_of_not_lt hl⟩
def cS (b:ops[z.code.getD pc 0]?=Kf .SUCCESS)(e:pc<z.code.size)(k:Ends z r N ⟨pc,pos,pos,om,loops,inner,fs,Kf true⟩):Ends z r (N+1) ⟨pc,pos,handed,om,loops,inner,fs,Wq⟩:=by refine bq (λ f=>⟨f.add<|z.code.getD pc 0,?_⟩) k;rw[bV rfl e];unfold M.exec;rw[bX b];cases om<;>rfl
def s5 (b:ops[z.code.getD pc 0]?=Kf .JUMP)(e:pc<z.code.size)(k:Ends z r N ⟨pc+1+z.code.getD (pc+1) 0,pos,handed,om,loops,inner,fs,Wq⟩):Ends z r (N+1) ⟨pc,pos,handed,om,loops,inner,fs,Wq⟩:=by refine bq (λ f=>⟨f.add<|z.code.getD pc 0,?_⟩) k;rw[bV rfl e];unfold M.exec;rw[bX b];rfl
def room (fs:List Fr):Prop:=fs.length<16777216
def bv {a:A}{b:Sre.Seen}{x:Fr}{t p:Nat}(e:room a.frames):(mk z a b).attempt x.f t p om=mk z ⟨t,p,p,om,a.loops,a.inner,x::a.frames,a.answer⟩ b:=by
 unfold M.attempt;have:¬(mk z a b).weight+1+x.f.kept.marks.size > 16777216:=by unfold room at e;exact U143 e
 rw[Wg this];rfl
def lQ (b:ops[z.code.getD pc 0]?=Kf .BRANCH)(e:pc<z.code.size)(f:room fs)(h:(z.code.getD (pc+1) 0==0)=false)(k:Ends z r N ⟨pc+1+1,pos,pos,om,loops,inner,{wait:=.nextBranch,pc:=pc+1,pos,om,whole:=inner.isSome}::fs,Wq⟩):Ends z r (N+1) ⟨pc,pos,handed,om,loops,inner,fs,Wq⟩:=by refine bq (λ i=>⟨i.add<|z.code.getD pc 0,?_⟩) k;rw[bV rfl e];unfold M.exec;rw[bX b];show (if (z.code.getD (pc+1) 0==0)=true then _ else _)=_;rw[Wg<|by rw[h];exact Bool.false_ne_true];cases inner<;>exact bv (a:=⟨pc,pos,handed,om,loops,_,fs,Wq⟩) (x:={wait:=.nextBranch,pc:=pc+1,pos,om,whole:=_}) f
end
end Re
namespace Re
open PySem PySem.Sre
def At (z:Z)(pos:Nat)(w:List Nat):Prop:=pos+w.length=z.lim/\∀i c,w[i]?=Kf c->z.text.getD (pos+i) 0=c
def At.lt {z:Z}{pos c:Nat}(h:At z pos<|c::w):pos<z.lim:=by have:=h.1;simp only[Qz] at this;exact U156 this
def At.sign {z:Z}{pos c:Nat}(h:At z pos<|c::w):z.text.getD pos 0=c:=h.2 0 c rfl
def At.next {z:Z}{pos c:Nat}(h:At z pos<|c::w):At z (pos+1) w:=
 ⟨by have:=h.1;simp only[Qz] at this;exact U155 this,λ i d e=>by have:=h.2 (i+1) d e;rw[show pos+1+i=pos+(i+1) by exact U23];exact this⟩
theorem At.drop {z:Z}:∀{n pos:Nat} {w:List Nat},At z pos w->n<=w.length->At z (pos+n) (w.drop n)
 |0,_,_,h,_=>h|n+1,pos,[],h,l=>absurd l<|by simp
 |n+1,pos,c::w,h,l=>by
  have:=h.next.drop (n:=n)<|by simpa using l
  simp only[show pos+(n+1)=pos+1+n by exact Om.an {1} {1}];exact this
def At.nil {z:Z}{pos:Nat}(h:At z pos []):pos=z.lim:=by have:=h.1;simpa using this
section
variable {z:Z}{r:Option Nat}{N pc pos:Nat}{loops:Array Loop}{fs:List Fr}
noncomputable abbrev lk:Loop:={pc:=0,outer:=Wq}
def ek {alt p e b:Nat}{f h:Bool}(i:room fs)(j:(z.code.getD (alt+z.code.getD alt 0) 0==0)=false)(k:Ends z r N ⟨alt+z.code.getD alt 0+1,p,p,om,loops,inner,{wait:=.nextBranch,pc:=alt+z.code.getD alt 0,pos:=p,om,whole:=h}::fs,Wq⟩) :Ends z r (N+1) ⟨e,b,handed,f,loops,inner,{wait:=.nextBranch,pc:=alt,pos:=p,om,whole:=h}::fs,Kf false⟩:=by
 refine bq (λ l=>⟨l,?_⟩) k;cases h <;>
 ·show (if (z.code.getD (alt+z.code.getD alt 0) 0==0)=true then _ else _)=_;rw[Wg<|by rw[j];exact Bool.false_ne_true];exact bv (a:=⟨alt,p,handed,om,loops,inner,fs,Wq⟩) (x:={wait:=.nextBranch,pc:=alt+z.code.getD alt 0,pos:=p,om,whole:=_}) i
def xk {alt p e b:Nat}{f h:Bool}(i:(z.code.getD (alt+z.code.getD alt 0) 0==0)=true)(k:Ends z r N ⟨alt,p,handed,om,loops,inner,fs,Kf false⟩):Ends z r (N+1) ⟨e,b,handed,f,loops,inner,{wait:=.nextBranch,pc:=alt,pos:=p,om,whole:=h}::fs,Kf false⟩:=by
 refine bq (λ j=>⟨j,?_⟩) k;cases h <;>
 ·show (if (z.code.getD (alt+z.code.getD alt 0) 0==0)=true then _ else _)=_;rw[Wy i];rfl
theorem pu {f:Nat->Bool}:∀{n:Nat} {w:List Nat} {pos:Nat},At z pos w->(∀c∈w,acc z.code i c=Kf (f c))->n<=w.length->∀found j,∃k,Sre.run z.code z.text i n pos found j=.ok (found+((w.take n).takeWhile f).length,k)
 |0,w,pos,h,ha,l,found,j=>⟨j,rfl⟩|n+1,[],pos,h,ha,l,found,j=>absurd l<|by simp|n+1,c::w,pos,h,ha,l,found,j=>by obtain⟨b,e⟩:=pT (ha c<|.head _) j;obtain⟨o,p⟩:=pu h.next (λ d t=>ha d<|.tail _ t) (n:=n) (by simpa using l) (found+1) b;unfold Sre.run;simp only[h.sign,e];show ∃k,(if f c=true then Sre.run z.code z.text i n (pos+1) (found+1) b else pure (found,b))=_;simp only[List.take_succ_cons,Xw];by_cases q:f c=true;rw[Wy q,Wy q,p];exact⟨o,by simp only[Qz];congr 2;exact U23⟩;rw[Wg q,Wg q];exact⟨b,rfl⟩
def cz (q:ops[z.code.getD pc 0]?=Kf .REPEAT_ONE)(t:pc<z.code.size)(u:room fs){f:Nat->Bool}(h:At z pos w)(y:∀c∈w,acc z.code (pc+4) c=Kf (f c))(l:min (z.code.getD (pc+3) 0) w.length=m) (o:((w.take m).takeWhile f).length=n) (hl:z.code.getD (pc+2) 0<=n) (i:z.code.getD (pc+2) 0<=w.length)(k:Ends z r N ⟨pc+1+z.code.getD (pc+1) 0,pos+n,pos+n,om,loops,inner,{wait:=.giveBack,pc,pos:=pos+n,om,count:=n,whole:=inner.isSome}::fs,Wq⟩):Ends z r (N+1) ⟨pc,pos,handed,om,loops,inner,fs,Wq⟩:=by
 refine bq (λ p=>?_) k;rw[bV rfl t];unfold M.exec;rw[bX q];have b:((z.lim:Int)-(pos:Int)).toNat=w.length:=by have:=h.1;exact U151 this
 obtain⟨j,e⟩:=pu (n:=m) h y (U150 l) 0<|(p.add<|z.code.getD pc 0).add<|z.code.getD (pc+4) 0;refine⟨j,?_⟩;show (if ((z.code.getD (pc+2) 0:Nat):Int) > (z.lim:Int)-(pos:Int) then _ else match Sre.run z.code z.text (pc+4) (min (z.code.getD (pc+3) 0) ((z.lim:Int)-(pos:Int)).toNat) pos 0 ((p.add<|z.code.getD pc 0).add<|z.code.getD (pc+4) 0) with | .error why=>_ | .ok (n,seen)=>_)=_;simp only[Wg (by have:=h.1;exact U153 i this),b,l,e];rw[Wg (by exact U152 o hl),o,Nat.zero_add];cases inner<;>exact bv (a:=⟨pc,pos+n,handed,om,loops,_,fs,Wq⟩) (x:={wait:=.giveBack,pc,pos:=pos+n,om,count:=n,whole:=_}) u
def uP (o:ops[z.code.getD pc 0]?=Kf .REPEAT_ONE)(t:pc<z.code.size){f:Nat->Bool}(j:At z pos w)(u:∀c∈w,acc z.code (pc+4) c=Kf (f c))(l:min (z.code.getD (pc+3) 0) w.length=m) (hl:((w.take m).takeWhile f).length<z.code.getD (pc+2) 0)(k:∀p,Ends z r N ⟨pc,p,handed,om,loops,inner,fs,Kf false⟩):Ends z r (N+1) ⟨pc,pos,handed,om,loops,inner,fs,Wq⟩:=by
 refine bq (λ h=>?_)<|k pos;rw[bV rfl t];unfold M.exec;rw[bX o];have b:((z.lim:Int)-(pos:Int)).toNat=w.length:=by have:=j.1;exact U151 this
 obtain⟨i,e⟩:=pu (n:=m) j u (U150 l) 0<|(h.add<|z.code.getD pc 0).add<|z.code.getD (pc+4) 0;by_cases q:((z.code.getD (pc+2) 0:Nat):Int) > (z.lim:Int)-(pos:Int);refine⟨h.add<|z.code.getD pc 0,?_⟩;show (if ((z.code.getD (pc+2) 0:Nat):Int) > (z.lim:Int)-(pos:Int) then _ else match Sre.run z.code z.text (pc+4) (min (z.code.getD (pc+3) 0) ((z.lim:Int)-(pos:Int)).toNat) pos 0 ((h.add<|z.code.getD pc 0).add<|z.code.getD (pc+4) 0) with | .error why=>_ | .ok (n,seen)=>_)=_;rw[Wy q];rfl;refine⟨i,?_⟩;show (if ((z.code.getD (pc+2) 0:Nat):Int) > (z.lim:Int)-(pos:Int) then _ else match Sre.run z.code z.text (pc+4) (min (z.code.getD (pc+3) 0) ((z.lim:Int)-(pos:Int)).toNat) pos 0 ((h.add<|z.code.getD pc 0).add<|z.code.getD (pc+4) 0) with | .error why=>_ | .ok (n,seen)=>_)=_;rw[Wg q,b,l,e];show (if 0+((w.take m).takeWhile f).length<z.code.getD (pc+2) 0 then _ else _)=_;rw[Wy {hl}];rfl
def gJ {f b p:Nat}{h i:Bool}(j:room fs)(hl:z.code.getD (pc+2) 0<=n)(k:Ends z r N ⟨pc+1+z.code.getD (pc+1) 0,p,p,om,loops,inner,{wait:=.giveBack,pc,pos:=p,om,count:=n,whole:=i}::fs,Wq⟩) :Ends z r (N+1) ⟨f,b,handed,h,loops,inner,{wait:=.giveBack,pc,pos:=p+1,om,count:=(n+1:Nat),whole:=i}::fs,Kf false⟩:=by
 refine bq (λ l=>⟨l,?_⟩) k;have e:(((n+1:Nat):Int)-1)=(n:Int):=U88;cases i <;>
 ·show (if ((n+1:Nat):Int)-1<((z.code.getD (pc+2) 0:Nat):Int) then _ else _)=_;rw[Wg<|U148 hl];exact (bv (a:=⟨pc,p,handed,om,loops,inner,fs,Wq⟩) (x:={wait:=.giveBack,pc,pos:=p,om,count:=((n+1:Nat):Int)-1,whole:=_}) j).trans<|by simp only[e];rfl
def gF {e b p:Nat}{f h:Bool}(hl:n<=z.code.getD (pc+2) 0)(k:Ends z r N ⟨pc,p,handed,om,loops,inner,fs,Kf false⟩) :Ends z r (N+1) ⟨e,b,handed,f,loops,inner,{wait:=.giveBack,pc,pos:=p,om,count:=(n:Nat),whole:=h}::fs,Kf false⟩:=by
 refine bq (λ i=>⟨i,?_⟩) k;cases h <;>
 ·show (if ((n:Nat):Int)-1<((z.code.getD (pc+2) 0:Nat):Int) then _ else _)=_;rw[Wy<|U147 hl];rfl
def EL (b:ops[z.code.getD pc 0]?=Kf .REPEAT)(e:pc<z.code.size)(f:room fs)(k:Ends z r N ⟨pc+1+z.code.getD (pc+1) 0,pos,pos,om,loops.push {pc,outer:=inner},Kf loops.size,{wait:=.closeLoop,pc,pos,om,loop:=loops.size}::fs,Wq⟩):Ends z r (N+1) ⟨pc,pos,handed,om,loops,inner,fs,Wq⟩:=by refine bq (λ h=>⟨h.add<|z.code.getD pc 0,?_⟩) k;rw[bV rfl e];unfold M.exec;rw[bX b];exact bv (a:=⟨pc,pos,handed,om,loops.push {pc,outer:=inner},Kf loops.size,fs,Wq⟩) (x:={wait:=.closeLoop,pc,pos,om,loop:=loops.size}) f
def bZ (f:ops[z.code.getD pc 0]?=Kf .MAX_UNTIL)(h:pc<z.code.size)(o:room fs){l:Loop}(hl:loops.getD i lk=l)(p:decide (l.count+1<((z.code.getD (l.pc+2) 0:Nat):Int))=false)(q:decide (l.count+1<((z.code.getD (l.pc+3) 0:Nat):Int))=true) (hb:l.began≠Kf pos)(k:Ends z r N ⟨l.pc+4,pos,pos,om,loops.modify i (λ l=>{l with count:=l.count+1,began:=Kf pos}),Kf i,{wait:=.maxMore,pc:=pc+1,pos,om,loop:=i,count:=l.count+1,whole:=true,began:=l.began}::fs,Wq⟩) :Ends z r (N+1) ⟨pc,pos,handed,om,loops,Kf i,fs,Wq⟩:=by
 refine bq (λ t=>⟨t.add<|z.code.getD pc 0,?_⟩) k;rw[bV rfl h];unfold M.exec;rw[bX f];have b:(loops.modify i λ u=>{u with count:=l.count+1,began:=Kf pos})=loops.modify i (λ l=>{l with count:=l.count+1,began:=Kf pos}):=by
  subst hl;apply Array.ext;simp;intro j w y;simp only[Array.getElem_modify,Array.getElem_modify];by_cases e:i=j;subst e;rw[Wy rfl,Wy rfl];have:i<loops.size:=by simpa using w
  simp[Array.getD,this];simp only[Wg e,Wg e]
 subst hl;show (if (loops.getD i lk).count+1<((z.code.getD ((loops.getD i lk).pc+2) 0:Nat):Int) then _ else if (!true)=true then _ else if ((decide ((loops.getD i lk).count+1<((z.code.getD ((loops.getD i lk).pc+3) 0:Nat):Int))||z.code.getD ((loops.getD i lk).pc+3) 0==maxRepeat)&&(loops.getD i lk).began != Kf pos)=true then _ else _)=_;rw[Wg<|of_decide_eq_false p,Wg {4},Wy<|by simp only[q,Bool.true_or,Bool.true_and];exact bne_iff_ne.mpr hb];simp only[<-b];exact bv (a:=⟨pc+1,pos,handed,om,_,Kf i,fs,Wq⟩) (x:={wait:=.maxMore,pc:=pc+1,pos,om,loop:=i,count:=(loops.getD i lk).count+1,whole:=true,began:=(loops.getD i lk).began}) o
def j8 (b:ops[z.code.getD pc 0]?=Kf .MAX_UNTIL)(e:pc<z.code.size)(f:room fs){l:Loop}(hl:loops.getD i lk=l)(h:decide (l.count+1<((z.code.getD (l.pc+2) 0:Nat):Int))=false)(j:decide (l.count+1<((z.code.getD (l.pc+3) 0:Nat):Int))=false) (o:(z.code.getD (l.pc+3) 0==maxRepeat)=false)(k:Ends z r N ⟨pc+1,pos,pos,om,loops,l.outer,{wait:=.maxTail,pc:=pc+1,pos,om,loop:=i,count:=l.count+1}::fs,Wq⟩) :Ends z r (N+1) ⟨pc,pos,handed,om,loops,Kf i,fs,Wq⟩:=by refine bq (λ p=>⟨p.add<|z.code.getD pc 0,?_⟩) k;rw[bV rfl e];unfold M.exec;rw[bX b];subst hl;show (if (loops.getD i lk).count+1<((z.code.getD ((loops.getD i lk).pc+2) 0:Nat):Int) then _ else if (!true)=true then _ else if ((decide ((loops.getD i lk).count+1<((z.code.getD ((loops.getD i lk).pc+3) 0:Nat):Int))||z.code.getD ((loops.getD i lk).pc+3) 0==maxRepeat)&&(loops.getD i lk).began != Kf pos)=true then _ else _)=_;rw[Wg<|of_decide_eq_false h,Wg {4},Wg<|by simp only[j,o];exact Bool.false_ne_true];exact bv (a:=⟨pc+1,pos,handed,om,loops,(loops.getD i lk).outer,fs,Wq⟩) (x:={wait:=.maxTail,pc:=pc+1,pos,om,loop:=i,count:=(loops.getD i lk).count+1}) f
def gj {f e:Nat}{h:Bool}{n:Int}{b:Option Nat}(o:room fs){ls:Array Loop}(j:(loops.modify i λ l=>{l with began:=b}).modify i (λ l=>{l with count:=n-1})=ls)(k:Ends z r N ⟨pc,pos,pos,om,ls,(ls.getD i lk).outer,{wait:=.maxTail,pc,pos,om,loop:=i,count:=n}::fs,Wq⟩) :Ends z r (N+1) ⟨f,e,handed,h,loops,inner,{wait:=.maxMore,pc,pos,om,loop:=i,count:=n,whole:=true,began:=b}::fs,Kf false⟩:=by refine bq (λ p=>⟨p,?_⟩) k;subst j;exact bv (a:=⟨pc,pos,handed,om,_,_,fs,Wq⟩) (x:={wait:=.maxTail,pc,pos,om,loop:=i,count:=n}) o
def z7 {f e:Nat}{h j:Bool}{n:Int}{b:Option Nat}(k:Ends z r N ⟨pc,pos,handed,om,loops,Kf i,fs,Kf false⟩) :Ends z r (N+1) ⟨f,e,handed,h,loops,inner,{wait:=.maxTail,pc,pos,om,loop:=i,count:=n,whole:=j,began:=b}::fs,Kf false⟩:=bq (λ l=>⟨l,rfl⟩) k
def wt {f e:Nat}{h j:Bool}{n:Int}{b:Option Nat}(k:Ends z r N ⟨pc,pos,handed,om,loops.pop,(loops.getD i lk).outer,fs,Kf false⟩) :Ends z r (N+1) ⟨f,e,handed,h,loops,inner,{wait:=.closeLoop,pc,pos,om,loop:=i,count:=n,whole:=j,began:=b}::fs,Kf false⟩:=bq (λ l=>⟨l,rfl⟩) k
def iY (b:ops[z.code.getD pc 0]?=Kf .ASSERT_NOT)(e:pc<z.code.size)(f:room fs)(h:z.code.getD (pc+2) 0=0)(k:Ends z r N ⟨pc+3,pos,pos,false,loops,inner,{wait:=.lookNot,pc,pos,om,whole:=inner.isSome}::fs,Wq⟩):Ends z r (N+1) ⟨pc,pos,handed,om,loops,inner,fs,Wq⟩:=by refine bq (λ i=>⟨i.add<|z.code.getD pc 0,?_⟩) k;rw[bV rfl e];unfold M.exec;rw[bX b];show (if pos<z.code.getD (pc+2) 0 then _ else M.attempt _ _ (pc+3) (pos-z.code.getD (pc+2) 0) false)=_;rw[h,Wg<|U146];cases inner<;>exact bv (a:=⟨pc,pos,handed,om,loops,_,fs,Wq⟩) (x:={wait:=.lookNot,pc,pos,om,whole:=_}) f
def w9 {f e:Nat}{h j:Bool}{n:Int}{b:Option Nat}(k:Ends z r N ⟨pc,pos,handed,om,loops,inner,fs,Kf false⟩) :Ends z r (N+1) ⟨f,e,handed,h,loops,inner,{wait:=.lookNot,pc,pos,om,loop:=i,count:=n,whole:=j,began:=b}::fs,Kf true⟩:=bq (λ l=>⟨l,rfl⟩) k
def mx {f e:Nat}{h j:Bool}{n:Int}{b:Option Nat}(k:Ends z r N ⟨pc+1+z.code.getD (pc+1) 0,pos,handed,om,loops,inner,fs,Wq⟩) :Ends z r (N+1) ⟨f,e,handed,h,loops,inner,{wait:=.lookNot,pc,pos,om,loop:=i,count:=n,whole:=j,began:=b}::fs,Kf false⟩:=by cases j<;>exact bq (λ l=>⟨l,rfl⟩) k
def Ef (f:ops[z.code.getD pc 0]?=Kf .AT)(h:pc<z.code.size)(i:z.code.getD (pc+1) 0=10){b:Bool}(hb:(z.lim != 0&&((decide (pos > 0)&&isWordUni (z.text.getD (pos-1) 0)) != (decide (pos<z.lim)&&isWordUni (z.text.getD pos 0)))==true)=b)(k:Ends z r N<|if b=true then ⟨pc+2,pos,handed,om,loops,inner,fs,Wq⟩ else ⟨pc,pos,handed,om,loops,inner,fs,Kf false⟩):Ends z r (N+1) ⟨pc,pos,handed,om,loops,inner,fs,Wq⟩:=by
 refine bq (λ j=>⟨(j.add<|z.code.getD pc 0).add<|43+z.code.getD (pc+1) 0,?_⟩) k;rw[bV rfl h];unfold M.exec;rw[bX f];subst hb;show (match M.isAt _ (z.code.getD (pc+1) 0) with | .error why=>_ | .ok mI=>_)=_;have e:∀m:M,m.isAt (z.code.getD (pc+1) 0)=m.isAt 10:=λ m=>by rw[i]
 rw[e];show (if (z.lim != 0&&((decide (pos > 0)&&isWordUni (z.text.getD (pos-1) 0)) != (decide (pos<z.lim)&&isWordUni (z.text.getD pos 0)))==true)=true then _ else _)=_;by_cases q:(z.lim != 0&&((decide (pos > 0)&&isWordUni (z.text.getD (pos-1) 0)) != (decide (pos<z.lim)&&isWordUni (z.text.getD pos 0)))==true)=true;rw[Wy q,Wy q];rfl;rw[Wg q,Wg q];rfl
end
end Re
namespace Re
open PySem PySem.Sre
noncomputable def chewC:Array Nat:=#[14,4,0,1,4294967295,24,17,1,4294967295,13,12,21,9,0,908,939524096,671088640,0,0,0,0,0,1,1]
noncomputable def junkC:Array Nat:=#[14,4,0,1,4294967295,24,11,0,4294967295,13,6,16,32,16,9,0,1,23,16,0,1,16,35,13,4,8,13,0,24,5,0,4294967295,2,1,18,16,10,1]
noncomputable def special (c:Nat):Bool:=c==91||c==93||c==40||c==41||c==123||c==125||c==35||c==39||c==34||c==92
def ord_ (c:Nat):Bool:=!special c
noncomputable def blank (c:Nat):Bool:=c==32||c==9
noncomputable def space (c:Nat):Bool:=(9<=c&&c<=13)||(28<=c&&c<=31)||c==32
noncomputable def wordC (c:Nat):Bool:=(48<=c&&c<=57)||(65<=c&&c<=90)||(97<=c&&c<=122)||c==95
def xY {p:Nat->Bool}(h:(List.range 128).all p=true){c:Nat}(b:c<128):p c=true:=Xu.mp h c<|List.mem_range.mpr b
def dg {pc:Nat}{f:Nat->Bool}(h:((List.range 128).all λ c=>acc code pc c==Kf (f c))=true){c:Nat}(b:c<128):acc code pc c=Kf (f c):=by simpa using xY h b
def vM:((List.range 128).all λ c=>acc chewC 9 c==Kf (ord_ c))=true:={3}
def qo:((List.range 128).all λ c=>acc junkC 9 c==Kf (blank c))=true:={3}
def fb:((List.range 128).all λ c=>acc junkC 21 c==Kf (c==35))=true:={3}
def oy:((List.range 128).all λ c=>acc junkC 23 c==Kf (!space c))=true:={3}
def wZ:((List.range 128).all λ c=>acc junkC 32 c==Kf (c != 10))=true:={3}
def mf:((List.range 128).all λ c=>acc junkC 35 c==Kf (c==10))=true:={3}
def Low (w:List Nat):Prop:=∀c∈w,c<128
noncomputable def start (pc pos:Nat):A:=⟨pc,pos,pos,true,#[],Wq,[],Wq⟩
def ac {a b:Nat}(h:Nat.ble (a+1) b=true):a<b:=Nat.le_of_ble_eq_true h
def oc {a b:Nat}(h:Nat.ble a b=true):a<=b:=Nat.le_of_ble_eq_true h
def cs (h:n<=4294967295):min 4294967295 n=n:=U163 h
def af {f:Fr}{fs:List Fr}(h:f.passes=true)(k:∀f∈fs,f.passes=true):∀g∈f::fs,g.passes=true:=by intro g b;cases b with|head=>exact h|tail _ h=>exact k g h
def bY:∀f∈([]:List Fr),f.passes=true:=λ _ h=>by contradiction
def chew_ok {lim st pos:Nat}(e:At ⟨chewC,text,lim,st⟩ pos w)(hl:Low w)(f:w.length<=4294967295) :Ends ⟨chewC,text,lim,st⟩ (if (w.takeWhile ord_).length=0 then Wq else Kf (pos+(w.takeWhile ord_).length)) 4 (start 5 pos):=by
 have h:∀c∈w,acc chewC 9 c=Kf (ord_ c):=λ c j=>dg vM<|hl c j;have i:w.take w.length=w:=List.take_length;by_cases q:(w.takeWhile ord_).length=0;rw[Wy q];refine (uP (N:=1) rfl (ac rfl) e h (m:=w.length) (cs f) (by rw[i,q];exact ac rfl) λ p=>fin_no).mono<|{4}
 rw[Wg q];have b:(w.takeWhile ord_).length<=w.length:=(List.takeWhile_sublist _).length_le;refine (cz (N:=3) rfl (ac rfl) (ac rfl) e h (m:=w.length) (cs f) (n:=(w.takeWhile ord_).length) (by rw[i]) (Nat.pos_of_ne_zero q) (Zk (Nat.pos_of_ne_zero q) b) ?_).mono<|{4}
 refine cS (pc:=23) rfl (ac rfl)<|(dv<|af rfl bY).mono<|oc rfl
noncomputable def hdB (f:Nat->Bool):List Nat->Bool
 | []=>false|c::_=>f c
def junkB (w:List Nat):Bool:=hdB (λ a=>a==10||(a==35&&hdB (λ c=>!space c) (w.dropWhile blank).tail))<|w.dropWhile blank
section
variable {lim st:Nat}
variable {p N h:Nat}{r:Option Nat}
noncomputable abbrev jG (p n:Nat):Fr:={wait:=.giveBack,pc:=5,pos:=p,om:=true,count:=n}
noncomputable abbrev jC (p:Nat):Fr:={wait:=.closeLoop,pc:=17,pos:=p,om:=true,loop:=0}
noncomputable abbrev jM (p:Nat):Fr:={wait:=.maxMore,pc:=35,pos:=p,om:=true,loop:=0,count:=0,whole:=true}
abbrev jZ (text:Array Nat) (lim st:Nat):Z:=⟨junkC,text,lim,st⟩
abbrev No (z:Z) (r:Option Nat) (N:Nat) (loops:Array Loop) (inner:Option Nat) (fs:List Fr):Prop:=∀h pc pos om,Ends z r N ⟨pc,pos,h,om,loops,inner,fs,Kf false⟩
def jN {z:Z}{pc pos N h:Nat}{loops:Array Loop}{fs:List Fr}{op:Op}(i:ops[z.code.getD pc 0]?=Kf op)(j:kO op=true)(l:pc<z.code.size){f:Nat->Bool}(o:((List.range 128).all λ c=>acc z.code pc c==Kf (f c))=true) {w:List Nat} (e:At z pos w) (hl:Low w) (b:∀c s,w=c::s->f c=false) (k:No z r N loops inner fs):Ends z r (N+1) ⟨pc,pos,h,om,loops,inner,fs,Wq⟩:=by refine qe i j l (λ q=>?_)<|k _ _ _ _;cases w with|nil=>have:=e.nil;exact (U87 q this).elim|cons c s=>rw[e.sign,dg o<|hl c<|.head _,b c s rfl]
def e6 {z:Z}{pc pos N h c:Nat}{loops:Array Loop}{fs:List Fr}{op:Op}(e:ops[z.code.getD pc 0]?=Kf op)(i:kO op=true)(j:pc<z.code.size){f:Nat->Bool}(l:((List.range 128).all λ c=>acc z.code pc c==Kf (f c))=true) {w:List Nat} (b:At z pos<|c::w) (hl:Low<|c::w) (o:f c=true) (k:Ends z r N ⟨pc+itemWidth z.code pc,pos+1,h,om,loops,inner,fs,Wq⟩):Ends z r (N+1) ⟨pc,pos,h,om,loops,inner,fs,Wq⟩:=
 mj e i j b.lt (by rw[b.sign,dg l<|hl c<|.head _,o]) k
def l7 (f:At (jZ text lim st) p w)(hl:Low w)(b:∀c s,w=c::s->c≠10)(k:No (jZ text lim st) r N #[] Wq [jG p n]) :No (jZ text lim st) r (N+4) #[⟨17,0,Kf p,Wq⟩] (Kf 0) [jM p,jC p,jG p n]:=by intro h pc pos i;refine gj (ls:=#[⟨17,-1,Wq,Wq⟩]) (ac rfl) rfl ?_;refine jN (op:=.LITERAL) rfl rfl (ac rfl) mf f hl (λ c s e=>by simpa using b c s e) λ h pc pos i=>?_;exact z7<|wt<|k _ _ _ _
def qF (f:At (jZ text lim st) p w)(hl:Low w)(b:∀c s,w=c::s->c≠10/\(c=35->∀d t,s=d::t->space d=true))(k:No (jZ text lim st) r N #[] Wq [jG p n]) :Ends (jZ text lim st) r (N+8) ⟨17,p,h,true,#[],Wq,[jG p n],Wq⟩:=by
 have o:=l7 f hl (λ c s e=>(b c s e).1) k;refine EL rfl (ac rfl) (ac rfl) ?_;refine bZ (pc:=34) (i:=0) (l:=⟨17,-1,Wq,Wq⟩) rfl (ac rfl) (ac rfl) rfl rfl rfl (λ e=>by contradiction) ?_;by_cases q:∃s,w=35::s;·obtain⟨s,rfl⟩:=q;refine e6 (pc:=21) (op:=.LITERAL) rfl rfl (ac rfl) fb f hl rfl ?_;exact jN (pc:=23) (op:=.IN) rfl rfl (ac rfl) oy f.next (λ c j=>hl c<|.tail _ j) (λ d t e=>by rw[(b 35 s rfl).2 rfl d t e];rfl) o
 refine (jN (pc:=21) (op:=.LITERAL) rfl rfl (ac rfl) fb f hl (λ c s e=>?_) o).mono {1};cases j:(c==35) with|false=>rfl|true=>exact absurd ⟨s,by rw[e,eq_of_beq j]⟩ q
def ox (b:At (jZ text lim st) p<|10::w)(hl:Low<|10::w):Ends (jZ text lim st) (Kf<|p+1) 10 ⟨17,p,h,true,#[],Wq,[jG p n],Wq⟩:=by refine (EL (N:=9) rfl (ac rfl) (ac rfl) ?_);refine bZ (pc:=34) (i:=0) (l:=⟨17,-1,Wq,Wq⟩) rfl (ac rfl) (ac rfl) rfl rfl rfl (λ e=>by contradiction) ?_;refine jN (pc:=21) (op:=.LITERAL) rfl rfl (ac rfl) fb b hl (λ c s e=>by injection e with e;subst e;rfl) λ h pc pos f=>?_;refine gj (ls:=#[⟨17,-1,Wq,Wq⟩]) (ac rfl) rfl ?_;refine e6 (pc:=35) (op:=.LITERAL) rfl rfl (ac rfl) mf b hl rfl ?_;exact cS (pc:=37) rfl (ac rfl)<|(dv<|af rfl<|af rfl<|af rfl bY).mono<|oc rfl
def lG {d:Nat}{u v:List Nat}(k:At (jZ text lim st) p<|35::d::(u++10::v))(hl:Low<|35::d::(u++10::v))(o:space d=false)(q:∀c∈u,(c != 10)=true)(t:(u++10::v).length<=4294967295) :Ends (jZ text lim st) (Kf<|p+2+u.length+1) 14 ⟨17,p,h,true,#[],Wq,[jG p n],Wq⟩:=by
 refine (EL (N:=13) rfl (ac rfl) (ac rfl) ?_);refine bZ (pc:=34) (i:=0) (l:=⟨17,-1,Wq,Wq⟩) rfl (ac rfl) (ac rfl) rfl rfl rfl (λ e=>by contradiction) ?_;have l1:Low (d::(u++10::v)):=λ c b=>hl c<|.tail _ b;have l2:Low (u++10::v):=λ c b=>l1 c<|.tail _ b;refine e6 (pc:=21) (op:=.LITERAL) rfl rfl (ac rfl) fb k hl rfl ?_;refine e6 (pc:=23) (op:=.IN) rfl rfl (ac rfl) oy k.next l1 (by rw[o];rfl) ?_;have x:(u++10::v).takeWhile (λ c=>c != 10)=u:=by rw[List.takeWhile_append_of_pos q];simp
 refine cz (pc:=28) (f:=λ c=>c != 10) rfl (ac rfl) (ac rfl) k.next.next (λ c b=>dg wZ<|l2 c b) (cs t) (n:=u.length) (by rw[List.take_length,x]) (oc rfl) (Zj _) ?_;refine j8 (pc:=34) (i:=0) (l:=⟨17,0,Kf p,Wq⟩) rfl (ac rfl) (ac rfl) rfl rfl rfl rfl ?_;have j:=k.next.next.drop (n:=u.length)<|by simp
 rw[List.drop_left] at j;refine e6 (pc:=35) (op:=.LITERAL) rfl rfl (ac rfl) mf j (λ c b=>l2 c<|List.mem_append_right _ b) rfl ?_;exact cS (pc:=37) rfl (ac rfl)<|(dv<|af rfl<|af rfl<|af rfl<|af rfl<|af rfl bY).mono<|oc rfl
def tw_drop (f:Nat->Bool)(w:List Nat):w.drop (w.takeWhile f).length=w.dropWhile f:=by induction w with|nil=>exact rfl|cons c w rH=>rw[Xw,List.dropWhile_cons];cases f c with|true=>exact rH|false=>rfl
def tw_take (f:Nat->Bool)(w:List Nat):w.take (w.takeWhile f).length=w.takeWhile f:=by induction w with|nil=>exact rfl|cons c w rH=>rw[Xw];cases f c with|true=>exact congrArg _<|rH|false=>rfl
def tw_all (f:Nat->Bool)(w:List Nat):∀(c:Nat),c∈w.takeWhile f->f c=true:=by
 induction w with|nil=>intro c h;contradiction|cons d w rH=>
  intro c h;rw[Xw] at h
  cases q:f d with
  |true=>
   rw[q] at h;rcases Qy.mp h with h|h
   rw[h];exact q;exact rH c h
  |false=>rw[q] at h;contradiction
def sA :At (jZ text lim st) p w->Low w->n<=w.length->(∀c∈w.take n,blank c=true)->No (jZ text lim st) Wq (9*n+2) #[] Wq [jG (p+n) n]:=by
 induction n with
 |zero=>intro f hl i j;exact λ h pc pos l=>gF (Zj _) fin_no
 |succ n rH=>
  intro f hl i j h pc pos l;have o:=rH f hl (U73 i)<|λ c b=>j c<|by rw[List.take_add_one];exact List.mem_append_left _ b
  refine (gJ (N:=9*n+2+8) (p:=p+n) (ac rfl) (Zj _) ?_).mono {1};have k:=f.drop (n:=n)<|U73 i;refine qF k (λ c b=>hl c<|List.mem_of_mem_drop b) (λ c s e=>?_) o;have b:blank c=true:=by
   refine j c ?_;have:w[n]?=Kf c:=by rw[<-List.head?_drop,e];rfl
   rw[List.take_add_one,this];exact List.mem_append_right _<|.head _
  constructor;rintro rfl;contradiction;rintro rfl;contradiction
def junk_ok (U:At (jZ text lim st) p w)(hl:Low w)(hn:w.length<=4294967295)(I:10∈w) :∃r,r.isSome=junkB w/\Ends (jZ text lim st) r (9*w.length+20) (start 5 p):=by
 have e:w=w.takeWhile blank++w.dropWhile blank:=(List.takeWhile_append_dropWhile ..).symm;have o:(w.takeWhile blank).length<=w.length:=(List.takeWhile_sublist _).length_le;have hd:=tw_drop blank w;have W:=tw_take blank w;have y:=tw_all blank w;have j:=U.drop (n:=(w.takeWhile blank).length) o;rw[hd] at j;have l:Low (w.dropWhile blank):=λ c Y=>hl c<|(List.dropWhile_sublist _).mem Y
 have first:∀{r N},Ends (jZ text lim st) r N ⟨17,p+(w.takeWhile blank).length,p+(w.takeWhile blank).length,true,#[],Wq,[jG (p+(w.takeWhile blank).length) (w.takeWhile blank).length],Wq⟩->Ends (jZ text lim st) r (N+1) (start 5 p):=λ k=>
  cz (pc:=5) (f:=blank) rfl (ac rfl) (ac rfl) U (λ c Y=>dg qo<|hl c Y) (cs hn) (n:=(w.takeWhile blank).length) (by rw[List.take_length]) (Zj _) (Zj _) k
 have noC:(∀c s,w.dropWhile blank=c::s->c≠10/\(c=35->∀d t,s=d::t->space d=true))->Ends (jZ text lim st) Wq (9*w.length+20) (start 5 p):=λ hno=>(first<|qF j l hno<|sA (n:=(w.takeWhile blank).length) U hl o<|by rw[W];exact y).mono {(Xx 9 o)};unfold junkB;cases J:w.dropWhile blank with|nil=>exact⟨Wq,rfl,noC λ c s i=>by rw[J] at i;contradiction⟩|cons a t0=>
 by_cases z:a=10;subst z;rw[J] at j l;exact⟨_,rfl,(first<|ox j l).mono {1}⟩;have L:(a==10)=false:=beq_eq_false_iff_ne.mpr z;by_cases G:a=35
 rotate_left
 refine⟨Wq,?_,noC λ c s i=>?_⟩;show false=(a==10||(a==35&&_));rw[L,beq_eq_false_iff_ne.mpr G];rfl;rw[J] at i;injection i with i e1_;subst i e1_;exact⟨z,λ q=>absurd q G⟩;subst G;cases t0 with|nil=>exact⟨Wq,rfl,noC λ c s i=>by rw[J] at i;injection i with i e1_;subst i e1_;exact⟨{4},λ _ d t q=>by contradiction⟩⟩|cons c s=>
 have i:=J;show ∃r:Option Nat,r.isSome=(!space c)/\_
 cases R:space c with|true=>refine⟨Wq,rfl,noC λ a b T=>?_⟩;rw[i] at T;injection T with T e2_;subst T e2_;exact⟨{4},λ _ d t e3=>by injection e3 with e3;subst e3;exact R⟩|false=>
  have M:10∈s:=by
   have h1:10∈w.dropWhile blank:=by
    rw[e] at I;rcases Qu.mp I with h|h
    exact absurd (y 10 h)<|{4}
    exact h
   rw[i] at h1;rcases Qy.mp h1 with h|h
   exact absurd h<|{4}
   rcases Qy.mp h with h|h
   rw[<-h] at R;exact absurd R<|{4}
   exact h
  have x:s=s.takeWhile (λ c=>c != 10)++s.dropWhile (λ c=>c != 10):=(List.takeWhile_append_dropWhile ..).symm;obtain⟨v,hv⟩:∃v,s.dropWhile (λ c=>c != 10)=10::v:=by
   cases P:s.dropWhile (λ c=>c != 10) with|nil=>rw[P,Zg] at x;rw[x] at M;exact absurd (tw_all _ _ _ M)<|by decide|cons a v=>
    have:=List.head?_dropWhile_not (λ c=>c != 10) s;rw[P] at this;have:a=10:=by simpa using this
    rw[this];exact⟨v,rfl⟩
  rw[hv] at x;rw[i] at j l;have u:s.length<=4294967295:=by have:(w.dropWhile blank).length<=w.length:=(List.dropWhile_sublist _).length_le;rw[i] at this;simp only[Qz] at this;exact {hn,this}
  rw[x] at j l u;exact⟨_,rfl,(first<|lG j l R (tw_all _ _) u).mono {1}⟩
end
end Re
namespace Re
open PySem PySem.Sre
noncomputable def strC:Array Nat:=#[14,9,4,1,4294967295,16,34,16,39,0,7,72,16,34,16,34,16,34,24,12,0,4294967295,13,7,21,16,34,16,92,0,1,23,37,0,4294967295,7,6,16,92,3,15,15,13,16,34,5,7,0,16,34,16,34,1,15,2,0,24,12,0,4294967295,13,7,21,16,34,16,92,0,1,18,23,9,0,1,16,34,16,34,16,34,18,15,186,56,16,34,24,17,0,4294967295,13,12,21,9,1024,4,268435456,0,0,0,0,0,0,1,23,24,0,4294967295,16,92,3,24,17,0,4294967295,13,12,21,9,1024,4,268435456,0,0,0,0,0,0,1,18,24,6,0,1,16,34,1,15,130,72,16,39,16,39,16,39,24,12,0,4294967295,13,7,21,16,39,16,92,0,1,23,37,0,4294967295,7,6,16,92,3,15,15,13,16,39,5,7,0,16,39,16,39,1,15,2,0,24,12,0,4294967295,13,7,21,16,39,16,92,0,1,18,23,9,0,1,16,39,16,39,16,39,18,15,58,56,16,39,24,17,0,4294967295,13,12,21,9,1024,128,268435456,0,0,0,0,0,0,1,23,24,0,4294967295,16,92,3,24,17,0,4294967295,13,12,21,9,1024,128,268435456,0,0,0,0,0,0,1,18,24,6,0,1,16,39,1,15,2,0,1]
noncomputable def qt (b:Bool):Nat:=if b then 39 else 34
noncomputable def of (b:Bool):Nat:=if b then 128 else 0
noncomputable def f3 (q c:Nat):Bool:=c != q&&c != 92
noncomputable def f1 (q c:Nat):Bool:=c != q&&c != 92&&c != 10
noncomputable def sEnd3 (q:Nat):List Nat->Nat
 | []=>0| [c]=>if c=92 then 0 else 1
 |c::d::r=>if c=92 then 2+sEnd3 q r else if c=q/\d=q/\r.head?=Kf q then 3 else 1+sEnd3 q (d::r)
noncomputable def sEnd1 (q:Nat):List Nat->Nat
 | []=>0| [c]=>if c=92\/c=10 then 0 else 1
 |c::d::r=>if c=92 then 2+sEnd1 q r else if c=10 then 0 else if c=q then 1 else 1+sEnd1 q (d::r)
def e3c {c d:Nat}:sEnd3 q (c::d::r)=if c=92 then 2+sEnd3 q r else if c=q/\d=q/\r.head?=Kf q then 3 else 1+sEnd3 q (d::r):=rfl
def KP {c:Nat}:sEnd3 q [c]=if c=92 then 0 else 1:=rfl
def e1c {c d:Nat}:sEnd1 q (c::d::r)=if c=92 then 2+sEnd1 q r else if c=10 then 0 else if c=q then 1 else 1+sEnd1 q (d::r):=rfl
def IL {c:Nat}:sEnd1 q [c]=if c=92\/c=10 then 0 else 1:=rfl
def Kz :sEnd3 q []=0:=rfl
def Gl :sEnd1 q []=0:=rfl
theorem gI (q:Nat):∀w:List Nat,sEnd3 q w=(w.takeWhile<|f3 q).length+sEnd3 q (w.dropWhile<|f3 q)
 | []=>rfl
 | [c]=>by
  rw[Xw,List.dropWhile_cons]
  cases h:f3 q c with|false=>simp|true=>
   have:c≠92:=by rintro rfl;simp[f3] at h
   simp[Kz,KP,this]
 |c::d::r=>by
  rw[Xw,List.dropWhile_cons]
  cases h:f3 q c with|false=>simp|true=>
   have b:c≠92:=by rintro rfl;simp[f3] at h
   have f:c≠q:=by rintro rfl;simp[f3] at h
   rw[Wy rfl,Wy rfl,e3c,Wg b,Wg (λ e=>f e.1),gI q<|d::r,Qz];exact Om.an {1} {1}
def kG (q:Nat)(w:List Nat):sEnd1 q w=(w.takeWhile<|f1 q).length+sEnd1 q (w.dropWhile<|f1 q):=by
 induction w using bj with
 |nil=>exact rfl|zero c=>
  rw[Xw,List.dropWhile_cons]
  cases h:f1 q c with|false=>simp|true=>
   have b:c≠92:=by rintro rfl;simp[f1] at h
   have e:c≠10:=by rintro rfl;simp[f1] at h
   simp[Gl,IL,b,e]
 |cons c d r rH1 rH2=>
  rw[Xw,List.dropWhile_cons]
  cases h:f1 q c with|false=>simp|true=>
   have b:c≠92:=by rintro rfl;simp[f1] at h
   have e:c≠q:=by rintro rfl;simp[f1] at h
   have f:c≠10:=by rintro rfl;simp[f1] at h
   rw[Wy rfl,Wy rfl,e1c,Wg b,Wg f,Wg e,rH2,Qz];exact Om.an {1} {1}
def lK {pc x:Nat}(b:ops[code.getD pc 0]?=Kf .LITERAL)(e:code.getD (pc+1) 0=x)(c:Nat):acc code pc c=Kf (c==x):=by unfold acc accepts;rw[b,e];rfl
def Au {pc:Nat}(b:ops[code.getD pc 0]?=Kf .ANY_ALL)(c:Nat):acc code pc c=Kf true:=by unfold acc accepts;simp only[b];rfl
section
variable {z:Z}{r:Option Nat}{N pc pos h x:Nat}{loops:Array Loop}{fs:List Fr}
def lw (b:ops[z.code.getD pc 0]?=Kf .LITERAL):itemWidth z.code pc=2:=by unfold itemWidth;rw[b]
def cU (b:ops[z.code.getD pc 0]?=Kf .LITERAL)(f:pc<z.code.size)(i:z.code.getD (pc+1) 0=x)(e:At z pos<|x::w)(k:Ends z r N ⟨pc+2,pos+1,h,om,loops,inner,fs,Wq⟩):Ends z r (N+1) ⟨pc,pos,h,om,loops,inner,fs,Wq⟩:=
 mj b rfl f e.lt (by simp only[e.sign,lK b i,beq_self_eq_true]) (by rw[lw b];exact k)
def eM (e:ops[z.code.getD pc 0]?=Kf .LITERAL)(i:pc<z.code.size)(j:z.code.getD (pc+1) 0=x)(f:At z pos w)(b:∀s,w≠x::s)(k:No z r N loops inner fs):Ends z r (N+1) ⟨pc,pos,h,om,loops,inner,fs,Wq⟩:=by refine qe e rfl i (λ l=>?_)<|k _ _ _ _;cases w with|nil=>have:=f.nil;exact (U87 l this).elim|cons c s=>rw[f.sign,lK e j];cases q:(c==x) with|false=>rfl|true=>exact absurd (by rw[eq_of_beq q])<|b s
def HP {c:Nat}(b:ops[z.code.getD pc 0]?=Kf .ANY_ALL)(e:pc<z.code.size)(f:At z pos<|c::w)(k:Ends z r N ⟨pc+1,pos+1,h,om,loops,inner,fs,Wq⟩):Ends z r (N+1) ⟨pc,pos,h,om,loops,inner,fs,Wq⟩:=
 mj b rfl e f.lt (Au b _) (by rw[show itemWidth z.code pc=1 by unfold itemWidth;rw[b]];exact k)
def HU (b:ops[z.code.getD pc 0]?=Kf .ANY_ALL)(e:pc<z.code.size)(f:At z pos [])(k:No z r N loops inner fs):Ends z r (N+1) ⟨pc,pos,h,om,loops,inner,fs,Wq⟩:=
 qe b rfl e (λ i=>by have:=f.nil;exact (U87 i this).elim) (k _ _ _ _)
end
def K4 (b:Bool):((List.range 128).all λ c=>acc strC (of b+22) c==Kf (f3 (qt b) c))=true:=by cases b<;>decide +kernel
def J3 (b:Bool):((List.range 128).all λ c=>acc strC (of b+60) c==Kf (f3 (qt b) c))=true:=by cases b<;>decide +kernel
def in1 (b:Bool):((List.range 128).all λ c=>acc strC (of b+90) c==Kf (f1 (qt b) c))=true:=by cases b<;>decide +kernel
def JN (b:Bool):((List.range 128).all λ c=>acc strC (of b+115) c==Kf (f1 (qt b) c))=true:=by cases b<;>decide +kernel
section
variable {lim st:Nat}
abbrev sZ (text:Array Nat) (lim st:Nat):Z:=⟨strC,text,lim,st⟩
def ip {f:Fr}{fs:List Fr}(h:fs.length+(n+1)<16777216):(f::fs).length+n<16777216:=by simp only[Qz];exact {h}
def bT {fs:List Fr}(h:fs.length+n<16777216):room fs:=by unfold room;exact {h}
def sS (b:Bool){pos h:Nat}{fs:List Fr}{loops:Array Loop}(J:loops.size=1)(j:At (sZ text lim st) pos w)(G:∀f∈fs,f.passes=true)(q:fs.length+6<16777216){e:Nat}(r:(∃s,w=qt b::qt b::qt b::s)/\e=pos+3\/(¬ ∃s,w=qt b::qt b::qt b::s)/\e=pos) :Ends (sZ text lim st) (Kf e) (fs.length+16) ⟨of b+70,pos,h,true,loops,Wq,fs,Wq⟩:=by
 obtain⟨t,rfl⟩:=Array.size_eq_one_iff.mp J;rcases r with ⟨⟨s,rfl⟩,r⟩|⟨u,r⟩<;>rw[r]
 ·cases b <;>
  ·refine EL rfl (ac rfl) (bT q) ?_;refine bZ (i:=1) (l:=⟨_,-1,Wq,Wq⟩) rfl (ac rfl) (bT (n:=4)<|ip {q}) rfl rfl rfl (λ e=>by contradiction) ?_;refine cU rfl (ac rfl) rfl j<|cU rfl (ac rfl) rfl j.next<|cU rfl (ac rfl) rfl j.next.next ?_;refine j8 (i:=1) (l:=⟨_,0,Kf pos,Wq⟩) rfl (ac rfl) (bT (n:=3)<|ip<|ip {q}) rfl rfl rfl rfl ?_;refine s5 rfl (ac rfl)<|cS rfl (ac rfl) ?_;exact (dv<|af rfl<|af rfl<|af rfl G).mono<|by dsimp only[Qz];exact {1}
 ·have x:∀N o,No (sZ text lim st) (Kf pos) N #[t,⟨of b+70,0,Kf pos,Wq⟩] (Kf 1) o->Ends (sZ text lim st) (Kf pos) (N+3) ⟨of b+74,pos,pos,true,#[t,⟨of b+70,0,Kf pos,Wq⟩],Kf 1,o,Wq⟩:=by
   intro N o k;by_cases q1:∃s,w=qt b::s
   ·obtain⟨I,rfl⟩:=q1
    by_cases q2:∃s,I=qt b::s;·obtain⟨L,rfl⟩:=q2;have q3:∀s,L≠qt b::s:=λ s e=>u ⟨s,by rw[e]⟩;cases b<;>exact cU rfl (ac rfl) rfl j<|cU rfl (ac rfl) rfl j.next<|eM rfl (ac rfl) rfl j.next.next q3 k
    ·have y:∀s,I≠qt b::s:=λ s e=>q2 ⟨s,e⟩;refine Ends.mono (N:=N+2) ?_ {1};cases b<;>exact cU rfl (ac rfl) rfl j<|eM rfl (ac rfl) rfl j.next y k
   have z:∀s,w≠qt b::s:=λ s e=>q1 ⟨s,e⟩;refine Ends.mono (N:=N+1) ?_ {1};cases b<;>exact eM rfl (ac rfl) rfl j z k
  cases b <;>
  ·refine EL rfl (ac rfl) (bT q) ?_;refine bZ (i:=1) (l:=⟨_,-1,Wq,Wq⟩) rfl (ac rfl) (bT (n:=4)<|ip {q}) rfl rfl rfl (λ e=>by contradiction) ?_;refine (x (fs.length+6) _ λ h pc p M=>?_).mono {1};refine gj (ls:=#[t,⟨_,-1,Wq,Wq⟩]) (bT (n:=4)<|ip {q}) rfl ?_;refine s5 rfl (ac rfl)<|cS rfl (ac rfl) ?_;exact (dv<|af rfl<|af rfl G).mono<|by dsimp only[Qz];exact {1}
def ez (hl:Low w)(n:Nat):Low (w.drop n):=λ c b=>hl c<|List.mem_of_mem_drop b
def low_next {c:Nat}(hl:Low<|c::w):Low w:=λ d b=>hl d<|.tail _ b
def rF (b:Bool){pos h pc N:Nat}{fs:List Fr}{loops:Array Loop}{r:Option Nat}(p:pc=18\/pc=56)(i:At (sZ text lim st) pos w)(hl:Low w)(j:w.length<=4294967295)(l:room fs)(k:∀n,n=(w.takeWhile<|f3<|qt b).length->Ends (sZ text lim st) r N ⟨of b+(pc+13),pos+n,pos+n,true,loops,inner,{wait:=.giveBack,pc:=of b+pc,pos:=pos+n,om:=true,count:=n,whole:=inner.isSome}::fs,Wq⟩) :Ends (sZ text lim st) r (N+1) ⟨of b+pc,pos,h,true,loops,inner,fs,Wq⟩:=by
 have o:=k _ rfl;rcases p with rfl|rfl
 have e:∀c∈w,acc strC (of b+22) c=Kf (f3 (qt b) c):=λ c f=>dg (K4 b) (hl c f);cases b<;>exact cz rfl (ac rfl) l i e (cs j) (by rw[List.take_length]) (Zj _) (Zj _) o;have e:∀c∈w,acc strC (of b+60) c=Kf (f3 (qt b) c):=λ c f=>dg (J3 b) (hl c f);cases b<;>exact cz rfl (ac rfl) l i e (cs j) (by rw[List.take_length]) (Zj _) (Zj _) o
def nQ (b:Bool){pos h pc N:Nat}{fs:List Fr}{loops:Array Loop}{r:Option Nat}(p:pc=86\/pc=111)(i:At (sZ text lim st) pos w)(hl:Low w)(j:w.length<=4294967295)(l:room fs)(k:∀n,n=(w.takeWhile<|f1<|qt b).length->Ends (sZ text lim st) r N ⟨of b+(pc+18),pos+n,pos+n,true,loops,inner,{wait:=.giveBack,pc:=of b+pc,pos:=pos+n,om:=true,count:=n,whole:=inner.isSome}::fs,Wq⟩) :Ends (sZ text lim st) r (N+1) ⟨of b+pc,pos,h,true,loops,inner,fs,Wq⟩:=by
 have o:=k _ rfl;rcases p with rfl|rfl
 have e:∀c∈w,acc strC (of b+90) c=Kf (f1 (qt b) c):=λ c f=>dg (in1 b) (hl c f);cases b<;>exact cz rfl (ac rfl) l i e (cs j) (by rw[List.take_length]) (Zj _) (Zj _) o;have e:∀c∈w,acc strC (of b+115) c=Kf (f1 (qt b) c):=λ c f=>dg (JN b) (hl c f);cases b<;>exact cz rfl (ac rfl) l i e (cs j) (by rw[List.take_length]) (Zj _) (Zj _) o
def i6 (b:Bool){pos:Nat}{fs:List Fr}(j:At (sZ text lim st) pos w)(k:∀f∈fs,f.passes=true)(i:fs.length+7<16777216){e:Nat}(l:(∃s,w=qt b::qt b::qt b::s)/\e=pos+3\/(¬ ∃s,w=qt b::qt b::qt b::s)/\e=pos) :No (sZ text lim st) (Kf e) (fs.length+18) #[⟨of b+31,cnt+1,Kf pos,Wq⟩] (Kf 0) ({wait:=.maxMore,pc:=of b+70,pos,om:=true,loop:=0,count:=cnt+1,whole:=true,began:=bg}::fs):=by intro h pc p om;refine gj (ls:=#[⟨of b+31,cnt+1-1,bg,Wq⟩]) (bT (n:=7) i) rfl ?_;exact (sS b rfl j (af rfl k) (ip (n:=6) i) l).mono<|by dsimp only[Qz];exact {1}
def oe (b:q≠92)(h:¬ ∃s,w=q::q::s):sEnd3 q (q::w)=1+sEnd3 q w:=by cases w with|nil=>simp[Kz,KP,b]|cons d r=>rw[e3c,Wg b,Wg];intro e_;obtain⟨-,rfl,e⟩:=e_;cases r with|nil=>contradiction|cons a s=>injection e with e;subst e;exact h ⟨s,rfl⟩
def BR (b:Bool):qt b≠92:=by cases b<;>decide
def dw_head {f:Nat->Bool}{c:Nat}{s:List Nat}(e:w.dropWhile f=c::s):f c=false:=by have:=List.head?_dropWhile_not f w;rw[e] at this;simpa using this
section
variable {pos h N:Nat}{r:Option Nat}{fs:List Fr}
abbrev tM (b:Bool) (pos:Nat) (cnt:Int) (bg:Option Nat):Fr:={wait:=.maxMore,pc:=of b+70,pos,om:=true,loop:=0,count:=cnt+1,whole:=true,began:=bg}
abbrev tB (b:Bool) (pos:Nat):Fr:={wait:=.nextBranch,pc:=of b+36,pos,om:=true,whole:=true}
abbrev A8 (b:Bool) (pos:Nat):Fr:={wait:=.nextBranch,pc:=of b+42,pos,om:=true,whole:=true}
abbrev tL (b:Bool) (pos:Nat) (cnt:Int):Array Loop:=#[⟨of b+31,cnt+1,Kf pos,Wq⟩]
def uX (b:Bool)(l:-1<=cnt)(e:cnt<4294967290)(f:bg≠Kf pos)(j:fs.length+2<16777216)(k:Ends (sZ text lim st) r N ⟨of b+37,pos,pos,true,tL b pos cnt,Kf 0,tB b pos::tM b pos cnt bg::fs,Wq⟩) :Ends (sZ text lim st) r (N+2) ⟨of b+69,pos,h,true,#[⟨of b+31,cnt,bg,Wq⟩],Kf 0,fs,Wq⟩:=by
 have o:decide (cnt+1<((strC.getD (of b+31+2) 0:Nat):Int))=false:=by rw[show strC.getD (of b+31+2) 0=0 by cases b<;>rfl];exact decide_eq_false<|U232 l
 have p:decide (cnt+1<((strC.getD (of b+31+3) 0:Nat):Int))=true:=by rw[show strC.getD (of b+31+3) 0=4294967295 by cases b<;>rfl];exact decide_eq_true {0,e}
 cases b<;>exact bZ (i:=0) rfl (ac rfl) (bT j) rfl o p f<|lQ rfl (ac rfl) (bT (n:=1)<|ip j) rfl k
def sf (b:Bool)(e:fs.length+2<16777216)(k:Ends (sZ text lim st) r N ⟨of b+43,pos,pos,true,tL b pos cnt,Kf 0,A8 b pos::tM b pos cnt bg::fs,Wq⟩) :No (sZ text lim st) r (N+1) (tL b pos cnt) (Kf 0) (tB b pos::tM b pos cnt bg::fs):=by intro h pc p f;cases b<;>exact ek (bT (n:=1)<|ip e) rfl k
def qi (b:Bool)(k:No (sZ text lim st) r N (tL b pos cnt) (Kf 0)<|tM b pos cnt bg::fs):No (sZ text lim st) r (N+1) (tL b pos cnt) (Kf 0) (A8 b pos::tM b pos cnt bg::fs):=by intro h pc p e;cases b<;>exact xk rfl<|k _ _ _ _
end
def sL (b:Bool):∀(k:Nat) {pos h:Nat} {w:List Nat} {fs:List Fr} {cnt:Int} {bg:Option Nat},w.length<k->At (sZ text lim st) pos w->Low w->(∀c s,w=c::s->f3 (qt b) c=false)->-1<=cnt->cnt+w.length<4294967290->(∀p,bg=Kf p->p<pos)->(∀f∈fs,f.passes=true)->fs.length+3*w.length+12<16777216->Ends (sZ text lim st) (Kf<|pos+sEnd3 (qt b) w) (20*w.length+fs.length+30) ⟨of b+69,pos,h,true,#[⟨of b+31,cnt,bg,Wq⟩],Kf 0,fs,Wq⟩:=by
 intro k
 induction k with|zero=>intro _ _ w _ _ _ Y;exact absurd Y<|Nat.not_lt_zero _|succ k ih=>
  intro pos h w fs cnt bg Y i hl J I j hbg T U;have l:bg≠Kf pos:=λ e=>Nat.lt_irrefl _<|hbg pos e;have qn:=BR b
  have again:∀(p:Nat) (v:List Nat) (F1 F2:Fr),At (sZ text lim st) p v->Low v->v.length<w.length->pos<p->F1.passes=true->F2.passes=true->
    ∀h,Ends (sZ text lim st) (Kf<|p+sEnd3 (qt b) v) (20*v.length+fs.length+34) ⟨of b+56,p,h,true,tL b pos cnt,Kf 0,F1::F2::fs,Wq⟩:=by
   intro p v F1 F2 hv lv u hpp h1 h2 h;have L:v.length<=4294967295:={U,u};refine rF b (pc:=56) (.inr rfl) hv lv L (bT (n:=0)<|by dsimp only[Qz];exact {U}) λ n L=>?_;have hd:=tw_drop (f3<|qt b) v;rw[<-L] at hd;have hln:n<=v.length:=by rw[L];exact (List.takeWhile_sublist _).length_le
   have M:=hv.drop (n:=n) hln;have o:(v.drop n).length=v.length-n:=Xp;rw[hd] at M o;have e:p+sEnd3 (qt b) v=p+n+sEnd3 (qt b) (v.dropWhile<|f3<|qt b):=by rw[gI (qt b) v,<-L];exact Om.an {1} {1}
   simp only[e];refine Ends.mono (ih (w:=v.dropWhile<|f3<|qt b) (cnt:=cnt+1) (bg:=Kf pos) (U250 Y u o) M (by simp only[<-hd];exact ez lv n) (λ c s e=>dw_head e) {0,I} (U249 j u o) (λ q P=>by injection P with P;subst P;exact {hpp}) (af rfl<|af h1<|af h2 T)<|by simp only[Qz];exact U247 U u o) ?_;dsimp only[Qz];exact U246 o
  clear ih
  cases w with
  |nil=>
   clear again J;have out:=qi b<|i6 b (cnt:=cnt) (bg:=bg) i T (U240 ‹_›) (e:=pos)<|.inr ⟨(λ ⟨s,e⟩=>by contradiction),rfl⟩;refine Ends.mono (uX b (N:=fs.length+22) I (U236 j) l (U235 ‹_›) ?_) {1};have x:∀s,([]:List Nat)≠92::s:=λ s e=>by contradiction
   have W:∀s,([]:List Nat)≠qt b::s:=λ s e=>by contradiction
   have z:Ends (sZ text lim st) (Kf pos) (fs.length+20) ⟨of b+43,pos,pos,true,tL b pos cnt,Kf 0,A8 b pos::tM b pos cnt bg::fs,Wq⟩:=by cases b<;>exact eM rfl (ac rfl) rfl i W out
   have G:=sf b (U235 ‹_›) z;cases b<;>exact eM rfl (ac rfl) rfl i x G
  |cons c r=>
   have y:(c::r).length=r.length+1:=rfl;by_cases R:c=92
   ·subst R
    have W:∀s,92::r≠qt b::s:=λ s e=>qn (List.cons.inj e).1.symm
    cases r with
    |nil=>
     clear again J;have out:=qi b<|i6 b (cnt:=cnt) (bg:=bg) i T (U240 ‹_›) (e:=pos)<|.inr ⟨(λ ⟨s,e⟩=>qn (List.cons.inj e).1.symm),rfl⟩;have z:Ends (sZ text lim st) (Kf pos) (fs.length+20) ⟨of b+43,pos,pos,true,tL b pos cnt,Kf 0,A8 b pos::tM b pos cnt bg::fs,Wq⟩:=by cases b<;>exact eM rfl (ac rfl) rfl i W out
     have G:=sf b (U235 ‹_›) z;refine Ends.mono (uX b (N:=fs.length+23) I (U236 j) l (U235 ‹_›) ?_) {1};cases b<;>exact cU rfl (ac rfl) rfl i<|HU rfl (ac rfl) i.next G
    |cons d r=>
     have e:pos+sEnd3 (qt b) (92::d::r)=pos+1+1+sEnd3 (qt b) r:=by rw[e3c,Wy rfl];exact Om.an {1} {1}
     have ag:=again (pos+1+1) r (tB b pos) (tM b pos cnt bg) i.next.next (low_next<|low_next hl) (by dsimp only[Qz];exact {1}) {1} rfl rfl;clear again J W;simp only[e];dsimp only[Qz] at y U ⊢;refine Ends.mono (uX b (N:=20*r.length+fs.length+37) I (by dsimp only[Qz] at j;exact U242 j) l (U235 ‹_›) ?_) {1};cases b<;>exact cU rfl (ac rfl) rfl i<|HP rfl (ac rfl) i.next<|s5 rfl (ac rfl)<|ag _
   ·have P:c=qt b:=by
     have:=J c r rfl;unfold f3 at this;simp only[show (c != 92)=true from bne_iff_ne.mpr R,Bool.and_true] at this;simpa using this
    subst P;clear J;have x:∀s,qt b::r≠92::s:=λ s e=>qn (List.cons.inj e).1;by_cases h3:∃s,r=qt b::qt b::s
    ·clear again
     obtain⟨s,rfl⟩:=h3;have out:=qi b<|i6 b (cnt:=cnt) (bg:=bg) i T (U240 ‹_›) (e:=pos+3)<|.inl ⟨⟨s,rfl⟩,rfl⟩;have e:pos+sEnd3 (qt b) (qt b::qt b::qt b::s)=pos+3:=by rw[e3c,Wg qn,Wy ⟨rfl,rfl,rfl⟩]
     simp only[e];have z:Ends (sZ text lim st) (Kf<|pos+3) (fs.length+25) ⟨of b+43,pos,pos,true,tL b pos cnt,Kf 0,A8 b pos::tM b pos cnt bg::fs,Wq⟩:=by cases b<;>exact cU rfl (ac rfl) rfl i<|iY rfl (ac rfl) (bT (n:=0)<|by dsimp only[Qz];exact U237 ‹_›) rfl<|cU rfl (ac rfl) rfl i.next<|cU rfl (ac rfl) rfl i.next.next<|cS rfl (ac rfl)<|w9<|out _ _ _ _
     have G:=sf b (U235 ‹_›) z;dsimp only[Qz];refine Ends.mono (uX b (N:=fs.length+27) I (U236 j) l (U235 ‹_›) ?_) {1};cases b<;>exact eM rfl (ac rfl) rfl i x G
    ·rw[oe qn h3,<-Nat.add_assoc]
     have ag:=again (pos+1) r (A8 b pos) (tM b pos cnt bg) i.next (low_next hl) (by dsimp only[Qz];exact U43) (U43) rfl rfl;clear again;have la:No (sZ text lim st) (Kf<|pos+1+sEnd3 (qt b) r) (20*r.length+fs.length+36) (tL b pos cnt) (Kf 0) ({wait:=.lookNot,pc:=of b+45,pos:=pos+1,om:=true,whole:=true}::A8 b pos::tM b pos cnt bg::fs):=by intro h pc p om;cases b<;>exact mx<|s5 rfl (ac rfl)<|ag _
     have lb:∀h,Ends (sZ text lim st) (Kf<|pos+1+sEnd3 (qt b) r) (20*r.length+fs.length+38) ⟨of b+48,pos+1,h,false,tL b pos cnt,Kf 0,{wait:=.lookNot,pc:=of b+45,pos:=pos+1,om:=true,whole:=true}::A8 b pos::tM b pos cnt bg::fs,Wq⟩:=by
      intro h;by_cases q1:∃s,r=qt b::s;·obtain⟨s,rfl⟩:=q1;have q2:∀t,s≠qt b::t:=λ t e=>h3 ⟨t,by rw[e]⟩;cases b<;>exact cU rfl (ac rfl) rfl i.next<|eM rfl (ac rfl) rfl i.next.next q2 la
      ·have q2:∀t,r≠qt b::t:=λ t e=>q1 ⟨t,e⟩;refine Ends.mono (N:=20*r.length+fs.length+37) ?_ {1};cases b<;>exact eM rfl (ac rfl) rfl i.next q2 la
     have z:Ends (sZ text lim st) (Kf<|pos+1+sEnd3 (qt b) r) (20*r.length+fs.length+40) ⟨of b+43,pos,pos,true,tL b pos cnt,Kf 0,A8 b pos::tM b pos cnt bg::fs,Wq⟩:=by cases b<;>exact cU rfl (ac rfl) rfl i<|iY rfl (ac rfl) (bT (n:=0)<|by dsimp only[Qz];exact U237 ‹_›) rfl<|lb _
     have G:=sf b (U235 ‹_›) z;refine Ends.mono (uX b (N:=20*r.length+fs.length+42) I (U236 j) l (U235 ‹_›) ?_)<|U234 y;cases b<;>exact eM rfl (ac rfl) rfl i x G
def oU (k:∀c s,w=c::s->f1 q c=false)(i:¬ ∃d s,w=92::d::s)(l:q≠92)(b:q≠10):sEnd1 q w=((w.take 1).takeWhile<|λ c=>c==q).length:=by
 match w with
 | []=>rfl
 | [c]=>
  have:=k c [] rfl;by_cases e:c=q;subst e;simp[e1c,IL,l,b];have j:c=92\/c=10:=by unfold f1 at this;simp only[Bool.and_eq_false_iff,bne_eq_false_iff_eq] at this;rcases this with (h|h)|h;exact absurd h e;exact .inl h;exact .inr h
  have:(c==q)=false:=beq_eq_false_iff_ne.mpr e;simp[IL,j,this]
 |c::d::r=>
  have:=k c (d::r) rfl;have f:c≠92:=by rintro rfl;exact i ⟨d,r,rfl⟩
  by_cases e:c=q;subst e;simp[e1c,IL,l,b];have j:c=10:=by unfold f1 at this;simp only[Bool.and_eq_false_iff,bne_eq_false_iff_eq] at this;rcases this with (h|h)|h;exact absurd h e;exact absurd h f;exact h
  have:(c==q)=false:=beq_eq_false_iff_ne.mpr e;rw[e1c,Wg f,Wy j];simp[this]
def tY (b:Bool){pos h:Nat}{fs:List Fr}{loops:Array Loop}(e:At (sZ text lim st) pos w)(hl:Low w)(i:∀f∈fs,f.passes=true)(j:fs.length+1<16777216) :Ends (sZ text lim st) (Kf<|pos+((w.take 1).takeWhile<|λ c=>c==qt b).length) (fs.length+5) ⟨of b+130,pos,h,true,loops,inner,fs,Wq⟩:=by
 have k:∀c∈w,acc strC (of b+134) c=Kf (c==qt b):=λ c o=>by cases b<;>exact lK rfl rfl c
 have l:((w.take<|min 1 w.length).takeWhile<|λ c=>c==qt b).length=((w.take 1).takeWhile<|λ c=>c==qt b).length:=by cases w with|nil=>rfl|cons c s=>rw[show min 1 (c::s).length=1 by dsimp only[Qz];exact U233]
 cases b<;>exact cz (f:=λ c=>c==_) rfl (ac rfl) (bT j) e k rfl l (Zj _) (Zj _)<|s5 rfl (ac rfl)<|cS rfl (ac rfl)<|dv<|af rfl i
def tO (b:Bool):∀(k:Nat) {pos h:Nat} {w:List Nat} {fs:List Fr} {cnt:Int} {bg:Option Nat},w.length<k->At (sZ text lim st) pos w->Low w->(∀c s,w=c::s->f1 (qt b) c=false)->-1<=cnt->cnt+w.length<4294967290->(∀p,bg=Kf p->p<pos)->(∀f∈fs,f.passes=true)->fs.length+3*w.length+12<16777216->Ends (sZ text lim st) (Kf<|pos+sEnd1 (qt b) w) (20*w.length+fs.length+30) ⟨of b+129,pos,h,true,#[⟨of b+104,cnt,bg,Wq⟩],Kf 0,fs,Wq⟩:=by
 intro k
 induction k with|zero=>intro _ _ w _ _ _ G;exact absurd G<|Nat.not_lt_zero _|succ k ih=>
  intro pos h w fs cnt bg G o hl I J l L U x;have M:bg≠Kf pos:=λ e=>Nat.lt_irrefl _<|L pos e;have qn:=BR b;have W:decide (cnt+1<((strC.getD (of b+104+2) 0:Nat):Int))=false:=by rw[show strC.getD (of b+104+2) 0=0 by cases b<;>rfl];exact decide_eq_false<|U232 J
  have Y:decide (cnt+1<((strC.getD (of b+104+3) 0:Nat):Int))=true:=by rw[show strC.getD (of b+104+3) 0=4294967295 by cases b<;>rfl];exact decide_eq_true<|U231 l
  have inn:∀{r N},Ends (sZ text lim st) r N ⟨of b+108,pos,pos,true,#[⟨of b+104,cnt+1,Kf pos,Wq⟩],Kf 0,{wait:=.maxMore,pc:=of b+130,pos,om:=true,loop:=0,count:=cnt+1,whole:=true,began:=bg}::fs,Wq⟩->
    Ends (sZ text lim st) r (N+1) ⟨of b+129,pos,h,true,#[⟨of b+104,cnt,bg,Wq⟩],Kf 0,fs,Wq⟩:=by
   intro r N k;cases b<;>exact bZ (i:=0) rfl (ac rfl) (bT (n:=12) {x}) rfl W Y M k
  by_cases u:∃d s,w=92::d::s
  ·obtain⟨d,v,rfl⟩:=u
   have e:pos+sEnd1 (qt b) (92::d::v)=pos+1+1+sEnd1 (qt b) v:=by rw[e1c,Wy rfl];exact Om.an {1} {1}
   simp only[e];dsimp only[Qz] at G l x ⊢;have y:v.length<=4294967295:=Om.lz {0,J,l};have ag:∀h,Ends (sZ text lim st) (Kf<|pos+1+1+sEnd1 (qt b) v) (20*v.length+fs.length+33) ⟨of b+111,pos+1+1,h,true,#[⟨of b+104,cnt+1,Kf pos,Wq⟩],Kf 0,{wait:=.maxMore,pc:=of b+130,pos,om:=true,loop:=0,count:=cnt+1,whole:=true,began:=bg}::fs,Wq⟩:=by
    intro h;refine nQ b (pc:=111) (.inr rfl) o.next.next (low_next<|low_next hl) y (bT (n:=0)<|by dsimp only[Qz];exact {x}) λ n y=>?_;have P:=tw_drop (f1<|qt b) v;rw[<-y] at P;have R:n<=v.length:=by rw[y];exact (List.takeWhile_sublist _).length_le
    have z:=o.next.next.drop (n:=n) R;have j:(v.drop n).length=v.length-n:=Xp;rw[P] at z j;have e:pos+1+1+sEnd1 (qt b) v=pos+1+1+n+sEnd1 (qt b) (v.dropWhile<|f1<|qt b):=by rw[kG (qt b) v,<-y];exact Om.an {1} {1}
    simp only[e];refine Ends.mono (ih (w:=v.dropWhile<|f1<|qt b) (cnt:=cnt+1) (bg:=Kf pos) (U226 G j) z (by simp only[<-P];exact ez (low_next<|low_next hl) n) (λ c s e=>dw_head e) {0,J} (U224 l j) (λ q T=>by injection T with T;subst T;exact {1}) (af rfl<|af rfl U)<|by simp only[Qz];exact U222 x j) ?_;dsimp only[Qz];exact U221 j
   clear ih I;refine Ends.mono (inn (N:=20*v.length+fs.length+35) ?_) {1};cases b<;>exact cU rfl (ac rfl) rfl o<|HP rfl (ac rfl) o.next<|ag _
  ·clear ih
   rw[oU I u qn<|by cases b<;>decide];clear I;have out:No (sZ text lim st) (Kf<|pos+((w.take 1).takeWhile<|λ c=>c==qt b).length) (fs.length+7) #[⟨of b+104,cnt+1,Kf pos,Wq⟩] (Kf 0) ({wait:=.maxMore,pc:=of b+130,pos,om:=true,loop:=0,count:=cnt+1,whole:=true,began:=bg}::fs):=by intro h pc p om;refine gj (ls:=#[⟨of b+104,cnt+1-1,bg,Wq⟩]) (bT (n:=12) {x}) rfl ?_;exact Ends.mono (tY b o hl (af rfl U)<|by dsimp only[Qz];exact {x})<|by dsimp only[Qz];exact {1}
   refine Ends.mono (inn (N:=fs.length+9) ?_) {1};by_cases q:∃s,w=92::s;·obtain⟨s,rfl⟩:=q;cases s with|cons d s=>exact absurd ⟨d,s,rfl⟩ u|nil=>cases b<;>exact cU rfl (ac rfl) rfl o<|HU rfl (ac rfl) o.next out
   have q2:∀t,w≠92::t:=λ t e=>q ⟨t,e⟩;refine Ends.mono (N:=fs.length+8) ?_ {1};cases b<;>exact eM rfl (ac rfl) rfl o q2 out
noncomputable def strEnd:List Nat->Nat
 | []=>0|q::r=>if r.head?=Kf q/\r.tail.head?=Kf q then 3+sEnd3 q (r.drop 2) else 1+sEnd1 q r
def zS (b:Bool){pos h:Nat}{fs:List Fr}(j:At (sZ text lim st) pos<|qt b::qt b::qt b::w)(hl:Low w)(u:∀f∈fs,f.passes=true)(k:fs.length+3*w.length+20<16777216) :Ends (sZ text lim st) (Kf<|pos+3+sEnd3 (qt b) w) (20*w.length+fs.length+40) ⟨of b+12,pos,h,true,#[],Wq,fs,Wq⟩:=by
 have x:∀h,Ends (sZ text lim st) (Kf<|pos+1+1+1+sEnd3 (qt b) w) (20*w.length+fs.length+35) ⟨of b+18,pos+1+1+1,h,true,#[],Wq,fs,Wq⟩:=by
  intro h;refine rF b (pc:=18) (.inl rfl) j.next.next.next hl {k} (bT (n:=0) {k}) λ n o=>?_;have p:=tw_drop (f3<|qt b) w;rw[<-o] at p;have r:n<=w.length:=by rw[o];exact (List.takeWhile_sublist _).length_le
  have l:=j.next.next.next.drop (n:=n) r;have i:(w.drop n).length=w.length-n:=Xp;rw[p] at l i;have e:pos+1+1+1+sEnd3 (qt b) w=pos+1+1+1+n+sEnd3 (qt b) (w.dropWhile<|f3<|qt b):=by rw[gI (qt b) w,<-o];exact Om.an {1} {1}
  rw[e];have t:=λ h=>sL b ((w.dropWhile<|f3<|qt b).length+1) (h:=h) (fs:={wait:=.closeLoop,pc:=of b+31,pos:=pos+1+1+1+n,om:=true,loop:=0}::{wait:=.giveBack,pc:=of b+18,pos:=pos+1+1+1+n,om:=true,count:=n}::fs) (cnt:=-1) (bg:=Wq) (Nat.lt_succ_self _) l (by simp only[<-p];exact ez hl n) (λ c s e=>dw_head e) (U209) (U208 k i) (λ q y=>by contradiction) (af rfl<|af rfl u)<|by dsimp only[Qz];exact U207 k i
  dsimp only[Qz] at t;refine Ends.mono (N:=20*(w.dropWhile<|f3<|qt b).length+(fs.length+1+1)+30+1) ?_<|U206 i;cases b<;>exact EL rfl (ac rfl) (bT (n:=0)<|by dsimp only[Qz];exact {k})<|t _
 refine Ends.mono (N:=20*w.length+fs.length+38) ?_ {1};cases b<;>exact cU rfl (ac rfl) rfl j<|cU rfl (ac rfl) rfl j.next<|cU rfl (ac rfl) rfl j.next.next<|x _
def Bo (b:Bool){pos h:Nat}{fs:List Fr}(l:At (sZ text lim st) pos<|qt b::w)(hl:Low w)(u:∀f∈fs,f.passes=true)(j:fs.length+3*w.length+20<16777216) :Ends (sZ text lim st) (Kf<|pos+1+sEnd1 (qt b) w) (20*w.length+fs.length+40) ⟨of b+84,pos,h,true,#[],Wq,fs,Wq⟩:=by
 have x:∀h,Ends (sZ text lim st) (Kf<|pos+1+sEnd1 (qt b) w) (20*w.length+fs.length+35) ⟨of b+86,pos+1,h,true,#[],Wq,fs,Wq⟩:=by
  intro h;refine nQ b (pc:=86) (.inl rfl) l.next hl {j} (bT (n:=0) {j}) λ n o=>?_;have p:=tw_drop (f1<|qt b) w;rw[<-o] at p;have r:n<=w.length:=by rw[o];exact (List.takeWhile_sublist _).length_le
  have k:=l.next.drop (n:=n) r;have i:(w.drop n).length=w.length-n:=Xp;rw[p] at k i;have e:pos+1+sEnd1 (qt b) w=pos+1+n+sEnd1 (qt b) (w.dropWhile<|f1<|qt b):=by rw[kG (qt b) w,<-o];exact Om.an {1} {1}
  rw[e];have t:=λ h=>tO b ((w.dropWhile<|f1<|qt b).length+1) (h:=h) (fs:={wait:=.closeLoop,pc:=of b+104,pos:=pos+1+n,om:=true,loop:=0}::{wait:=.giveBack,pc:=of b+86,pos:=pos+1+n,om:=true,count:=n}::fs) (cnt:=-1) (bg:=Wq) (Nat.lt_succ_self _) k (by simp only[<-p];exact ez hl n) (λ c s e=>dw_head e) (U209) (U208 j i) (λ q y=>by contradiction) (af rfl<|af rfl u)<|by dsimp only[Qz];exact U207 j i
  dsimp only[Qz] at t;refine Ends.mono (N:=20*(w.dropWhile<|f1<|qt b).length+(fs.length+1+1)+30+1) ?_<|U206 i;cases b<;>exact EL rfl (ac rfl) (bT (n:=0)<|by dsimp only[Qz];exact {j})<|t _
 refine Ends.mono (N:=20*w.length+fs.length+36) ?_ {1};cases b<;>exact cU rfl (ac rfl) rfl l<|x _
end
end Re
namespace Re
open PySem PySem.Sre
section
variable {lim st:Nat}
def wT (b:Bool){N pos h:Nat}{r:Option Nat}{fs:List Fr}(f:At (sZ text lim st) pos w)(i:∀s,w≠qt b::qt b::qt b::s)(k:No (sZ text lim st) r N #[] Wq fs) :Ends (sZ text lim st) r (N+3) ⟨of b+12,pos,h,true,#[],Wq,fs,Wq⟩:=by
 by_cases q1:∃s,w=qt b::s
 ·obtain⟨o,rfl⟩:=q1
  by_cases q2:∃s,o=qt b::s
  ·obtain⟨p,rfl⟩:=q2
   have q3:∀s,p≠qt b::s:=λ s e=>i s<|by rw[e]
   cases b<;>exact cU rfl (ac rfl) rfl f<|cU rfl (ac rfl) rfl f.next<|eM rfl (ac rfl) rfl f.next.next q3 k
  ·have j:∀s,o≠qt b::s:=λ s e=>q2 ⟨s,e⟩;refine Ends.mono (N:=N+2) ?_ {1};cases b<;>exact cU rfl (ac rfl) rfl f<|eM rfl (ac rfl) rfl f.next j k
 have l:∀s,w≠qt b::s:=λ s e=>q1 ⟨s,e⟩;refine Ends.mono (N:=N+1) ?_ {1};cases b<;>exact eM rfl (ac rfl) rfl f l k
noncomputable abbrev sB (pc pos:Nat):Fr:={wait:=.nextBranch,pc,pos,om:=true}
def Ac (q:Nat)(r:List Nat):strEnd (q::q::q::r)=3+sEnd3 q r:=Wy ⟨rfl,rfl⟩
def zy (h:∀s,q::r≠q::q::q::s):strEnd (q::r)=1+sEnd1 q r:=by refine Wg λ ⟨b,e⟩=>?_;obtain⟨s,rfl⟩:=List.head?_eq_some_iff.mp b;obtain⟨t,rfl⟩:=List.head?_eq_some_iff.mp<|show s.head?=_ from e;exact h t rfl
def wR (b:Bool){pos:Nat}(f:At (sZ text lim st) pos<|qt b::w)(hl:Low w)(i:3*w.length+30<16777216)(h:Nat) :Ends (sZ text lim st) (Kf<|pos+strEnd (qt b::w)) (20*w.length+50) ⟨of b+12,pos,h,true,#[],Wq,[sB (of b+11) pos],Wq⟩:=by
 by_cases q:∃s,qt b::w=qt b::qt b::qt b::s;obtain⟨s,e⟩:=q;have k:=(List.cons.inj e).2;subst k;dsimp only[Qz] at i ⊢;rw[Ac,<-Nat.add_assoc];exact Ends.mono (zS b f (low_next<|low_next hl) (af rfl bY)<|by dsimp only[Qz,List.length_nil];exact {i})<|by dsimp only[Qz,List.length_nil];exact {1}
 have j:∀s,qt b::w≠qt b::qt b::qt b::s:=λ s e=>q ⟨s,e⟩;rw[zy j,<-Nat.add_assoc]
 have go:∀h,Ends (sZ text lim st) (Kf<|pos+1+sEnd1 (qt b) w) (20*w.length+41) ⟨of b+84,pos,h,true,#[],Wq,[sB (of b+83) pos],Wq⟩:=λ h=>
  Ends.mono (Bo b f hl (af rfl bY)<|by dsimp only[Qz,List.length_nil];exact {i}) (by dsimp only[Qz,List.length_nil];exact {1})
 refine Ends.mono (N:=20*w.length+42+3) (wT b f j λ h pc p l=>?_) {1};cases b<;>exact ek (ac rfl) rfl<|go _
def str_ok (b:Bool){pos:Nat}(f:At (sZ text lim st) pos<|qt b::w)(hl:Low w)(j:3*w.length+30<16777216) :Ends (sZ text lim st) (Kf<|pos+strEnd (qt b::w)) (20*w.length+60) (start 10 pos):=by
 have k:=wR b f hl j
 cases b with|false=>exact Ends.mono (N:=20*w.length+51) (lQ rfl (ac rfl) (ac rfl) rfl<|k _) {1}|true=>
  refine Ends.mono (N:=20*w.length+55) (lQ rfl (ac rfl) (ac rfl) rfl ?_) {1};have i:∀s,qt true::w≠34::s:=λ s e=>absurd (List.cons.inj e).1<|{4}
  refine eM rfl (ac rfl) rfl f i λ h pc p l=>?_;refine ek (ac rfl) rfl ?_;refine eM rfl (ac rfl) rfl f i λ h pc p l=>?_;exact ek (ac rfl) rfl<|k _
end
end Re
namespace Re
open PySem PySem.Sre
noncomputable def itemC:Array Nat:=#[14,4,0,1,4294967295,24,11,0,4294967295,13,6,16,32,16,9,0,1,13,9,21,8,12,16,35,16,92,0,1]
def itemB (c:Nat):Bool:=!space c&&c != 35&&c != 92
def nB:((List.range 128).all λ c=>acc itemC 17 c==Kf (itemB c))=true:={3}
def pB:((List.range 128).all λ c=>acc itemC 9 c==Kf (blank c))=true:={3}
section
variable {lim st p:Nat}
abbrev iZ (text:Array Nat) (lim st:Nat):Z:=⟨itemC,text,lim,st⟩
def q0 {r:Option Nat}{N:Nat}(e:At (iZ text lim st) p w)(hl:Low w)(b:∀c s,w=c::s->itemB c=false)(k:No (iZ text lim st) r N #[] Wq [jG p n]):∀h,Ends (iZ text lim st) r (N+1) ⟨17,p,h,true,#[],Wq,[jG p n],Wq⟩:=
 λ h=>jN rfl rfl (ac rfl) nB e hl b k
def uA :At (iZ text lim st) p w->Low w->n<=w.length->(∀c∈w.take n,blank c=true)->No (iZ text lim st) Wq (3*n+2) #[] Wq [jG (p+n) n]:=by
 induction n with
 |zero=>intro f hl i j;exact λ h pc pos l=>gF (Zj _) fin_no
 |succ n rH=>
  intro f hl i j h pc pos l;have o:=rH f hl (by exact U597 i)<|λ c b=>j c<|by rw[List.take_add_one];exact List.mem_append_left _ b
  refine (gJ (N:=3*n+2+1) (p:=p+n) (ac rfl) (Zj _) ?_).mono<|by exact {1}
  have k:=f.drop (n:=n)<|by exact U597 i
  refine q0 k (λ c b=>hl c<|List.mem_of_mem_drop b) (λ c s e=>?_) o _;have b:blank c=true:=by
   refine j c ?_;have:w[n]?=Kf c:=by rw[<-List.head?_drop,e];rfl
   rw[List.take_add_one,this];exact List.mem_append_right _<|.head _
  unfold blank at b;rcases (Bool.or_eq_true_iff.mp b) with b|b<;>(rw[beq_iff_eq.mp b];rfl)
def itemR (p:Nat)(w:List Nat):Option Nat:=if hdB itemB (w.dropWhile blank)=true then Kf (p+(w.takeWhile blank).length+1) else Wq
def item_ok (l:At (iZ text lim st) p w)(hl:Low w)(t:w.length<=4294967295):Ends (iZ text lim st) (itemR p w) (3*w.length+20) (start 5 p):=by
 have b:(w.takeWhile blank).length<=w.length:=(List.takeWhile_sublist _).length_le;have h:=l.drop (n:=(w.takeWhile blank).length) b;rw[tw_drop blank w] at h;have i:Low (w.dropWhile blank):=λ c o=>hl c<|(List.dropWhile_sublist _).mem o
 have first:∀{r N},Ends (iZ text lim st) r N ⟨17,p+(w.takeWhile blank).length,p+(w.takeWhile blank).length,true,#[],Wq,[jG (p+(w.takeWhile blank).length) (w.takeWhile blank).length],Wq⟩->Ends (iZ text lim st) r (N+1) (start 5 p):=λ k=>
  cz (pc:=5) (f:=blank) rfl (ac rfl) (ac rfl) l (λ c o=>dg pB<|hl c o) (cs t) (n:=(w.takeWhile blank).length) (by rw[List.take_length]) (Zj _) (Zj _) k
 unfold itemR
 cases j:hdB itemB (w.dropWhile blank) with
 |true=>
  rw[Wy rfl]
  cases q:w.dropWhile blank with|nil=>rw[q] at j;exact Bool.noConfusion j|cons c s=>
   rw[q] at j h i;refine (first<|e6 (N:=3) rfl rfl (ac rfl) nB h i j ?_).mono<|by exact {1}
   exact cS (pc:=27) rfl (ac rfl)<|(dv<|af rfl bY).mono<|oc rfl
 |false=>rw[Wg<|{4}];refine (first<|q0 h i (λ c s e=>by rw[e] at j;exact j) (uA (n:=(w.takeWhile blank).length) l hl b<|by rw[tw_take blank w];exact tw_all blank w) _).mono<|by exact {b,b,b}
end
end Re
namespace Re
open PySem PySem.Sre
noncomputable def closeC:Array Nat:=#[14,4,0,4,4294967295,24,9,0,4294967295,13,4,8,12,0,1,7,15,16,114,16,101,16,116,16,117,16,114,16,110,15,58,13,16,98,16,114,16,101,16,97,16,107,15,45,19,16,99,16,111,16,110,16,116,16,105,16,110,16,117,16,101,15,26,13,16,114,16,97,16,105,16,115,16,101,15,13,11,16,112,16,97,16,115,16,115,15,2,0,6,10,1]
noncomputable def five:List (List Nat):=[[114,101,116,117,114,110],[98,114,101,97,107],[99,111,110,116,105,110,117,101],[114,97,105,115,101],[112,97,115,115]]
def bnd (s:List Nat):Bool:=match s with| []=>true|c::_=>!wordC c
def hit (ws v:List Nat):Bool:=ws.isPrefixOf v&&bnd (v.drop ws.length)
def tryB (v:List Nat):Bool:=five.any λ ws=>hit ws v
def closeB (w:List Nat):Bool:=tryB<|w.dropWhile space
noncomputable def kA (code:Array Nat):Nat->List Nat->Bool
 |_,[]=>true|pc,x::r=>code.getD pc 0==16&&code.getD (pc+1) 0==x&&decide (pc<code.size)&&kA code (pc+2) r
def I7 {pc x:Nat}:kA code pc (x::r)=(code.getD pc 0==16&&code.getD (pc+1) 0==x&&decide (pc<code.size)&&kA code (pc+2) r):=rfl
def lr {pc x:Nat}(h:kA code pc (x::r)=true):ops[code.getD pc 0]?=Kf .LITERAL/\code.getD (pc+1) 0=x/\pc<code.size/\kA code (pc+2) r=true:=by simp only[I7,Xv,beq_iff_eq,decide_eq_true_eq] at h;exact⟨by rw[h.1.1.1];rfl,h.1.1.2,h.1.2,h.2⟩
section
variable {z:Z}{r:Option Nat}{N:Nat}{loops:Array Loop}{fs:List Fr}
def y6 {ws:List Nat}:∀{pc pos h:Nat} {v:List Nat},kA z.code pc ws=true->At z pos v->ws.isPrefixOf v=false->No z r N loops inner fs->Ends z r (N+ws.length) ⟨pc,pos,h,om,loops,inner,fs,Wq⟩:=by
 induction ws with|nil=>intro _ _ _ v _ _ b _;rw[List.isPrefixOf_nil_left] at b;cases b|cons x ws rH=>
  intro pc pos h v hl f b k;obtain⟨i,j,l,o⟩:=lr hl;by_cases q:∃s,v=x::s;·obtain⟨s,rfl⟩:=q;rw[List.isPrefixOf_cons_cons,beq_self_eq_true,Bool.true_and] at b;exact cU i l j f<|rH o f.next b k
  exact Ends.mono (eM i l j f (λ s e=>q ⟨s,e⟩) k)<|by dsimp only[Qz];exact {1}
def xe {ws:List Nat}:∀{pc pos h:Nat} {s:List Nat},kA z.code pc ws=true->At z pos (ws++s)->Ends z r N ⟨pc+2*ws.length,pos+ws.length,h,om,loops,inner,fs,Wq⟩->Ends z r (N+ws.length) ⟨pc,pos,h,om,loops,inner,fs,Wq⟩:=by induction ws with|nil=>intro _ _ _ _ _ _ k;exact k|cons x ws rH=>intro pc pos h s hl b k;obtain⟨e,f,i,j⟩:=lr hl;refine cU e i f b<|rH j b.next ?_;rw[show pc+2+2*ws.length=pc+2*(x::ws).length by dsimp only[Qz];exact Om.an {1} {1},show pos+1+ws.length=pos+(x::ws).length by dsimp only[Qz];exact U23];exact k
end
section
variable {lim st:Nat}
abbrev cZ (text:Array Nat) (lim st:Nat):Z:=⟨closeC,text,lim,st⟩
noncomputable abbrev cG (p n:Nat):Fr:={wait:=.giveBack,pc:=5,pos:=p,om:=true,count:=n}
noncomputable abbrev cB (a p:Nat):Fr:={wait:=.nextBranch,pc:=a,pos:=p,om:=true}
def zX:((List.range 128).all λ c=>isWordUni c==wordC c)=true:={3}
def n4 {c:Nat}(h:c<128):isWordUni c=wordC c:=by simpa using xY zX h
theorem sx {z:Z}:∀{ws:List Nat} {pos:Nat} {s:List Nat},At z pos (ws++s)->ws≠[]->z.text.getD (pos+ws.length-1) 0=ws.getLastD 0
 | [],_,_,_,h=>absurd rfl h| [x],_,_,hw,_=>hw.sign|x::y::ws,pos,s,hw,_=>by have:=sx (ws:=y::ws) hw.next<|List.cons_ne_nil _ _;rw[show pos+(x::y::ws).length-1=pos+1+(y::ws).length-1 by dsimp only[Qz];exact U364,this];rfl
def yV {ws s:List Nat}{a p h:Nat}(hl:kA closeC (a+1) ws=true)(G:closeC.getD (a+1+2*ws.length) 0=15)(u:a+1+2*ws.length+1+closeC.getD (a+1+2*ws.length+1) 0=88)(w:a+1+2*ws.length<closeC.size)(f:ws≠[]) (y:wordC (ws.getLastD 0)=true) (q:At (cZ text lim st) p<|ws++s) (b:Low<|ws++s) {r:Option Nat} {N:Nat} (k:if bnd s=true then r=Kf (p+ws.length)/\4<=N else No (cZ text lim st) r N #[] Wq [cB a p,cG p n]) :Ends (cZ text lim st) r (N+2+ws.length) ⟨a+1,p,h,true,#[],Wq,[cB a p,cG p n],Wq⟩:=by
 refine xe hl q<|s5 (by rw[show (cZ text lim st).code.getD (a+1+2*ws.length) 0=15 from G];rfl) w ?_;rw[show a+1+2*ws.length+1+(cZ text lim st).code.getD (a+1+2*ws.length+1) 0=88 from u];have l:=sx q f;have i:ws.getLastD 0<128:=by refine b _<|List.mem_append_left _ ?_;cases ws with|nil=>exact absurd rfl f|cons x r=>rw[List.getLastD_cons,<-List.getLast_eq_getLastD (List.cons_ne_nil x r)];exact List.getLast_mem _
 have o:0<ws.length:=List.length_pos_iff.mpr f;have e:=q.1;rw[Qj] at e;have j:(decide (p+ws.length<lim)&&isWordUni (text.getD (p+ws.length) 0))=!bnd s:=by
  have t:=q.drop (n:=ws.length)<|by simp
  rw[List.drop_left] at t;cases s with|nil=>have:=t.nil;rw[show (cZ text lim st).lim=lim from rfl] at this;rw[this,decide_eq_false<|Nat.lt_irrefl _];rfl|cons c s=>rw[decide_eq_true (show p+ws.length<lim from t.lt),Bool.true_and,show text.getD (p+ws.length) 0=c from t.sign,n4<|b c<|by simp];simp[bnd]
 have I:((cZ text lim st).lim != 0&&((decide (p+ws.length > 0)&&isWordUni ((cZ text lim st).text.getD (p+ws.length-1) 0)) != (decide (p+ws.length<(cZ text lim st).lim)&&isWordUni ((cZ text lim st).text.getD (p+ws.length) 0)))==true)=bnd s:=by rw[l,n4 i,y,decide_eq_true<|show p+ws.length > 0 by exact {o}];rw[show (decide (p+ws.length<(cZ text lim st).lim)&&isWordUni ((cZ text lim st).text.getD (p+ws.length) 0))=!bnd s from j];rw[show ((cZ text lim st).lim != 0)=true from bne_iff_ne.mpr (by rw[<-e];exact U362 o)];cases bnd s<;>rfl
 refine Ef rfl (ac rfl) rfl I ?_;cases z:bnd s with|true=>rw[z,Wy rfl] at k;obtain⟨rfl,J⟩:=k;rw[Wy rfl];exact Ends.mono (cS rfl (ac rfl)<|dv<|af rfl<|af rfl bY) J|false=>rw[z,Wg<|{4}] at k;rw[Wg<|{4}];exact k _ _ _ _
structure AltOk (a:Nat)(ws:List Nat):Prop where
 nz:(closeC.getD a 0==0)=false
 l:kA closeC (a+1) ws=true
 j:closeC.getD (a+1+2*ws.length) 0=15
 j2:a+1+2*ws.length+1+closeC.getD (a+1+2*ws.length+1) 0=88
 sz:a+1+2*ws.length<closeC.size
 ne:ws≠[]
 wd:wordC (ws.getLastD 0)=true
 len:ws.length<=8
def Bp (a:Nat)(ws:List Nat):Bool:=!(closeC.getD a 0==0)&&kA closeC (a+1) ws&&closeC.getD (a+1+2*ws.length) 0==15&&a+1+2*ws.length+1+closeC.getD (a+1+2*ws.length+1) 0==88 &&
 decide (a+1+2*ws.length<closeC.size)&&(ws != [])&&wordC (ws.getLastD 0)&&decide (ws.length<=8)
def ms {a:Nat}{ws:List Nat}(h:Bp a ws=true):AltOk a ws:=by unfold Bp at h;simp only[Xv,beq_iff_eq,decide_eq_true_eq,bne_iff_ne,Bool.not_eq_true'] at h;exact⟨h.1.1.1.1.1.1.1,h.1.1.1.1.1.1.2,h.1.1.1.1.1.2,h.1.1.1.1.2,h.1.1.1.2,h.1.1.2,h.1.2,h.2⟩
def rZ:Nat->List (List Nat)->Bool
 |a,[]=>closeC.getD a 0==0|a,ws::r=>Bp a ws&&rZ (a+closeC.getD a 0) r
def Fv {a:Nat}{ws:List Nat}{r:List (List Nat)}:rZ a (ws::r)=(Bp a ws&&rZ (a+closeC.getD a 0) r):=rfl
def jj (alts:List<|List Nat)(v:List Nat)(p:Nat)(R:Option Nat):Option Nat:=match alts with| []=>R|ws::r=>if hit ws v=true then Kf (p+ws.length) else jj r v p R
def Cg {ws:List Nat}{r:List (List Nat)}{v:List Nat}{p:Nat}{R:Option Nat}:jj (ws::r) v p R=if hit ws v=true then Kf (p+ws.length) else jj r v p R:=rfl
def mY {ws:List Nat}{a p h N:Nat}{v:List Nat}{R:Option Nat}(b:AltOk a ws)(o:At (cZ text lim st) p v)(hl:Low v)(q:4<=N)(k:hit ws v=false->No (cZ text lim st) R N #[] Wq [cB a p,cG p n]) :Ends (cZ text lim st) (if hit ws v=true then Kf (p+ws.length) else R) (N+10) ⟨a+1,p,h,true,#[],Wq,[cB a p,cG p n],Wq⟩:=by
 have e:=b.len
 cases f:ws.isPrefixOf v with
 |false=>
  have i:hit ws v=false:=by unfold hit;rw[f];rfl
  rw[i,Wg<|{4}];exact Ends.mono (y6 b.l o f<|k i)<|by exact {e}
 |true=>
  obtain⟨s,rfl⟩:=List.isPrefixOf_iff_prefix.mp f;have i:hit ws (ws++s)=bnd s:=by unfold hit;rw[f,List.drop_left];rfl
  refine Ends.mono (yV (N:=N) b.l b.j b.j2 b.sz b.ne b.wd o hl ?_)<|by exact {e}
  rw[i] at k ⊢;cases r:bnd s with|true=>exact⟨rfl,q⟩|false=>exact k r
def z1 {r:List (List Nat)}:∀{ws:List Nat} {a p n N:Nat} {v:List Nat} {R:Option Nat},rZ a (ws::r)=true->At (cZ text lim st) p v->Low v->4<=N->(((ws::r).any λ ws=>hit ws v)=false->No (cZ text lim st) R N #[] Wq [cG p n])->∀h,Ends (cZ text lim st) (jj (ws::r) v p R) (N+11*(r.length+1)) ⟨a+1,p,h,true,#[],Wq,[cB a p,cG p n],Wq⟩:=by
 induction r with
 |nil=>
  intro ws a p n N v R b e hl f k h;simp only[Fv,Xv] at b;refine Ends.mono (N:=N+11) (mY (N:=N+1) (ms b.1) e hl (by exact {f}) λ i h pc pos j=>xk b.2<|k ?_ _ _ _ _)<|by simp
  rw[List.any_cons,i];rfl
 |cons ws' r rH=>
  intro ws a p n N v R b e hl f k h;have l:=b;simp only[Fv,Xv] at b;have nz:=(ms b.2.1).nz;refine Ends.mono (N:=N+11*(r.length+1)+1+10) (mY (ms b.1) e hl (by exact {1}) λ i h pc pos j=>ek (ac rfl) nz<|rH (ws:=ws') (N:=N) ?_ e hl f (λ q=>k ?_) _)<|by simp only[Qz];exact {1}
  simp only[Fv,Xv];exact b.2;rw[List.any_cons,i];exact q
def uo {v:List Nat}{p:Nat}{R:Option Nat}:(alts.any λ ws=>hit ws v)=true->(jj alts v p R).isSome=true:=by induction alts with|nil=>intro h;contradiction|cons ws r rH=>intro h;rw[List.any_cons] at h;rw[Cg];cases b:hit ws v with|true=>rfl|false=>rw[b] at h;rw[Wg<|{4}];exact rH h
def kX {v:List Nat}{p:Nat}{R:Option Nat}:(alts.any λ ws=>hit ws v)=false->jj alts v p R=R:=by induction alts with|nil=>intro h;exact rfl|cons ws r rH=>intro h;rw[List.any_cons,Bool.or_eq_false_iff] at h;rw[Cg,h.1,Wg<|{4}];exact rH h.2
def kL {p h N:Nat}{v:List Nat}{R:Option Nat}(b:At (cZ text lim st) p v)(hl:Low v)(e:4<=N)(k:tryB v=false->No (cZ text lim st) R N #[] Wq [cG p n]) :Ends (cZ text lim st) (jj five v p R) (N+56) ⟨15,p,h,true,#[],Wq,[cG p n],Wq⟩:=
 lQ rfl (ac rfl) (ac rfl) rfl (z1 (a:=16) {3} b hl e k _)
def vv:((List.range 128).all λ c=>acc closeC 9 c==Kf (space c))=true:={3}
def sC {c:Nat}{s:List Nat}(h:space c=true):tryB (c::s)=false:=by
 have ne:∀x:Nat,space x=false->(x==c)=false:=λ x b=>beq_eq_false_iff_ne.mpr<|by rintro rfl;rw[b] at h;contradiction
 unfold tryB five;simp only[List.any_cons,List.any_nil,hit,List.isPrefixOf_cons_cons,ne 114 rfl,ne 98 rfl,ne 99 rfl,ne 112 rfl,Bool.false_and,Bool.false_or]
def qD {p:Nat}:At (cZ text lim st) p w->Low w->n<=w.length->(∀c∈w.take n,space c=true)->No (cZ text lim st) Wq (60*n+4) #[] Wq [cG (p+n) n]:=by
 induction n with
 |zero=>intro f hl b i;exact λ h pc pos l=>(gF (N:=1) (Zj _) fin_no).mono<|by exact U356
 |succ n rH=>
  intro f hl b i h pc pos l;have o:=rH f hl (by exact U73 b)<|λ c j=>i c<|by rw[List.take_add_one];exact List.mem_append_left _ j
  have k:=f.drop (n:=n)<|by exact U73 b
  obtain⟨c,s,e⟩:∃c s,w.drop n=c::s:=by cases q:w.drop n with|nil=>have:=congrArg List.length q;rw[Xp] at this;dsimp only[List.length_nil] at this;exact (U355 b this).elim|cons c s=>exact⟨c,s,rfl⟩
  have j:space c=true:=by
   refine i c ?_;have:w[n]?=Kf c:=by rw[<-List.head?_drop,e];rfl
   rw[List.take_add_one,this];exact List.mem_append_right _<|.head _
  have go:=λ h=>kL (h:=h) (n:=n) (R:=Wq) (N:=60*n+4) k (ez hl n) (by exact {1})<|λ _=>o;rw[e,kX<|sC j] at go;exact Ends.mono (gJ (N:=60*n+60) (p:=p+n) (ac rfl) (Zj _)<|go _)<|by exact {1}
def close_ok {p:Nat}(i:At (cZ text lim st) p w)(hl:Low w)(l:w.length<=4294967295):∃r,r.isSome=closeB w/\Ends (cZ text lim st) r (60*w.length+70) (start 5 p):=by
 have b:(w.takeWhile space).length<=w.length:=(List.takeWhile_sublist _).length_le;have o:=tw_drop space w;have e:=i.drop (n:=(w.takeWhile space).length) b;rw[o] at e;have j:Low (w.dropWhile space):=λ c k=>hl c<|(List.dropWhile_sublist _).mem k;have go:=λ h=>kL (h:=h) (n:=(w.takeWhile space).length) (R:=Wq) (N:=60*w.length+4) e j (by exact {1})<|λ _=>λ h pc pos t=>Ends.mono (qD (n:=(w.takeWhile space).length) i hl b (by rw[tw_take];exact tw_all space w) h pc pos t)<|by exact {(Xx 60 b)}
 refine⟨jj five (w.dropWhile space) (p+(w.takeWhile space).length) Wq,?_,?_⟩;unfold closeB;cases q:tryB (w.dropWhile space) with|true=>exact uo q|false=>rw[kX q];rfl
 exact Ends.mono (cz (pc:=5) (f:=space) rfl (ac rfl) (ac rfl) i (λ c k=>dg vv<|hl c k) (cs l) (n:=(w.takeWhile space).length) (by rw[List.take_length]) (Zj _) (Zj _)<|go _)<|by exact {1}
end
end Re
open PySem PyProof.Rows PySem.W
variable {x y last:Str}{prog:Program}{hb h h' base:Wu}{ws first vals:List Wx}{s:Wj}{pos apos tp:Pos}{own:Ww->Prop}{a b pat:Ww}{M:Model}{g:Wx}{K₀:Frag}{args:List Wz}{body:List Stmt}{scope:Scope}{value o iter:Wz}{op:CmpOp}{t:Tok}{ps:List Str}{whole:Sem Wx}{mg:Str->Option Wx}{kindOf:Str->Option NameKind}{outer:List Env}{fd:FuncData}
set_option genCtorIdx true in
inductive Md where
 |N|Nb|E|C
 |Q1 (d:Bool) (f:Nat)|Q2 (d:Bool) (f:Nat)
 |S1 (d:Bool) (f:Nat)|S1e (d:Bool) (f:Nat)
 |S3 (d:Bool) (k f:Nat)|S3e (d:Bool) (f:Nat)
structure St where
 md:Md
 lv:Nat
 ln:Nat
 gd:List Nat
noncomputable def qc (d:Bool):Nat:=if d then 34 else 39
noncomputable def nl (s:St):St:=⟨.N,s.lv,s.ln+1,if s.lv=0 then s.gd++[s.ln+1] else s.gd⟩
noncomputable def fw (s:St)(c:Nat):St:=
 if c=10 then nl s
 else if c=40 then {s with md:=.N,lv:=s.lv+1}
 else if c=41 then {s with md:=.N,lv:=s.lv-1}
 else if c=34 then {s with md:=.Q1 true s.ln}
 else if c=39 then {s with md:=.Q1 false s.ln}
 else if c=35 then {s with md:=.C}
 else if c=92 then {s with md:=.E}
 else {s with md:=.N}
noncomputable def hM (s:St)(d:Bool)(f c:Nat):St:=
 if c=qc d then {s with md:=.N}
 else if c=10 then nl s
 else if c=92 then {s with md:=.S1e d f}
 else {s with md:=.S1 d f}
noncomputable def step (s:St)(c:Nat):St:=
 match s.md with
 | .N=>fw s c| .Nb=>fw s c| .E=>if c=10 then {s with md:=.Nb,ln:=s.ln+1} else {s with md:=.N}
 | .C=>if c=10 then nl s else s
 | .Q1 d f=>if c=qc d then {s with md:=.Q2 d f} else hM s d f c
 | .Q2 d f=>if c=qc d then {s with md:=.S3 d 0 f} else fw s c
 | .S1 d f=>hM s d f c| .S1e d f=>if c=10 then {s with md:=.S1 d f,ln:=s.ln+1} else {s with md:=.S1 d f}
 | .S3 d k f=>
  if c=qc d then (if k=2 then {s with md:=.N} else {s with md:=.S3 d (k+1) f})
  else if c=10 then {s with md:=.S3 d 0 f,ln:=s.ln+1}
  else if c=92 then {s with md:=.S3e d f}
  else {s with md:=.S3 d 0 f}
 | .S3e d f=>if c=10 then {s with md:=.S3 d 0 f,ln:=s.ln+1} else {s with md:=.S3 d 0 f}
noncomputable def scan (s:St)(l:List Nat):St:=l.foldl step s
noncomputable def st0:St:=⟨.N,0,0,[0]⟩
noncomputable def tr (c:Nat):Nat:=
 if c=40\/c=123\/c=91 then 40 else if c=41\/c=125\/c=93 then 41
 else if c=34\/c=39\/c=92\/c=10\/c=35 then c else 120
def aO (s:St)(c:Nat)(l:List Nat):scan s (c::l)=scan (step s c) l:=rfl
def aE (s:St)(a b:List Nat):scan s (a++b)=scan (scan s a) b:=List.foldl_append ..
def AN (s:St):step (step s 120) 120=step s 120:=by obtain⟨b,lv,e,h⟩:=s;cases b with|N=>rfl|Nb=>rfl|E=>rfl|C=>rfl|Q1 d f=>cases d<;>rfl|Q2 d f=>cases d<;>rfl|S1 d f=>cases d<;>rfl|S1e d f=>cases d<;>rfl|S3 d k f=>cases d<;>rfl|S3e d f=>cases d<;>rfl
def w3 (s:St)(k:Nat):scan s (List.replicate (k+1) 120)=step s 120:=by induction k generalizing s with|zero=>rfl|succ k ih=>rw[List.replicate_succ,aO,ih,AN]
noncomputable def un (s:St):St:=match s.md with | .Nb=>{s with md:=.N}|_=>s
def AZ (s:St)(c:Nat):step (un s) c=step s c:=by obtain⟨b,lv,e,f⟩:=s;cases b<;>rfl
def zo (s:St)(c:Nat)(l:List Nat):scan (un s) (c::l)=scan s (c::l):=by rw[aO,aO,AZ]
def Ax (s:St):step (step s 10) 120=un (step s 10):=by obtain⟨b,lv,e,h⟩:=s;cases b with|N=>rfl|Nb=>rfl|E=>rfl|C=>rfl|Q1 d f=>cases d<;>rfl|Q2 d f=>cases d<;>rfl|S1 d f=>cases d<;>rfl|S1e d f=>cases d<;>rfl|S3 d k f=>cases d<;>rfl|S3e d f=>cases d<;>rfl
def y4 (s:St)(c:Nat)(l:List Nat):scan s (10::120::c::l)=scan s (10::c::l):=by rw[aO,aO,Ax,zo,<-aO]
variable {md:Md}
section
open PySem.Builtin.Str
noncomputable abbrev sg (x:Str):List Nat:=x.cps.toList
def lc (a b:Str):sg (a++b)=sg a++sg b:=by show (a.cps++b.cps).toList=_;simp[sg]
def bw (x y z:Str)(b:y.length≠0):∃parts:List Str,Str.join y parts=x/\Txt.replace x y z=Str.join z parts:=by
 unfold Txt.replace;have e:(y.length==0&&z.length==0)=false:=by simp[b]
 rw[e,Bool.or_false];by_cases h:(occurrences x y 0 x.length<|x.length+1).isEmpty=true;rw[Wy h];exact⟨[x],rfl,rfl⟩;rw[Wg h];refine⟨partsBetween x (occurrences x y 0 x.length<|x.length+1) y.length,?_,StrLaws.glued_eq_join _ _⟩;obtain⟨f,h⟩:=StrLaws.occ_chain x y<|x.length+1;rw[StrLaws.partsBetween_eq,StrLaws.join_partsFrom x y _ 0 f h,StrLaws.sub_whole]
def aT (y a b:Str)(r:List Str):sg (Str.join y<|a::b::r)=sg a++(sg y++sg (Str.join y<|b::r)):=by show sg (a++y++Str.join y (b::r))=_;rw[lc,lc,Qv]
def tU {z:Str}(h:∀s,scan s (sg y)=scan s (sg z))(parts:List Str):∀(s:St),scan s (sg<|Str.join y parts)=scan s (sg<|Str.join z parts):=by induction parts using bj with|nil=>intro _;exact rfl|zero _=>intro _;exact rfl|cons a b r rH1 rH2=>intro s;rw[aT,aT,aE,aE,aE,aE,h,rH2]
def mn {z:Str}(b:y.length≠0)(h:∀s,scan s (sg y)=scan s (sg z))(s:St):scan s (sg<|Txt.replace x y z)=scan s (sg x):=by obtain⟨parts,e,f⟩:=bw x y z b;rw[f,<-tU h,e]
def qy {z:Str}(i:sg y=[10,120])(j:sg z=[10])(parts:List Str):∀(s:St),(sg<|Str.join y parts).getLast?≠Kf 120->scan s (sg<|Str.join y parts)=scan s (sg<|Str.join z parts):=by
 induction parts using bj with|nil=>intro _ _;exact rfl|zero _=>intro _ _;exact rfl|cons a b r rH1 rH2=>
  intro s hl;rw[aT,i] at hl;rw[aT,aT,i,j,aE s<|sg a,aE s<|sg a];have f:sg (Str.join y<|b::r)≠[]:=by intro e;rw[e] at hl;simp at hl
  have h:(sg<|Str.join y<|b::r).getLast?≠Kf 120:=by intro e;apply hl;rw[Qb,Qb,e];rfl
  have k:=λ s=>rH2 s h;generalize scan s (sg a)=s;have Gl:scan s ([10]++sg (Str.join z<|b::r))=scan s (10::sg (Str.join y<|b::r)):=by show scan (step s 10) (sg<|Str.join z<|b::r)=scan (step s 10) (sg<|Str.join y<|b::r);exact (k _).symm
  rw[Gl];obtain⟨c,l,e⟩:=List.exists_cons_of_ne_nil f;rw[e];exact y4 s c l
def qp {z:Str}(i:sg y=[10,120])(j:sg z=[10])(parts:List Str):(sg<|Str.join y parts).getLast?≠Kf 120->(sg<|Str.join z parts).getLast?=(sg<|Str.join y parts).getLast?:=by
 induction parts using bj with|nil=>intro _;exact rfl|zero _=>intro _;exact rfl|cons a b r rH1 rH2=>
  intro hl;rw[aT,i] at hl;rw[aT,aT,i,j];have f:sg (Str.join y<|b::r)≠[]:=by intro e;rw[e] at hl;simp at hl
  have h:(sg<|Str.join y<|b::r).getLast?≠Kf 120:=by intro e;apply hl;rw[Qb,Qb,e];rfl
  have k:=rH2 h;have l:(sg<|Str.join y<|b::r).getLast?.isSome=true:=by rw[Option.isSome_iff_ne_none];intro e;exact f<|List.getLast?_eq_none_iff.mp e
  rw[Qb,Qb,Qb,Qb,k];obtain⟨v,o⟩:=Option.isSome_iff_exists.mp l;rw[o];rfl
def sO {z:Str}(e:(sg y).getLast?=Kf 120)(f:(sg z).getLast?=Kf 120)(parts:List Str):(sg<|Str.join z parts).getLast?=(sg<|Str.join y parts).getLast?:=by induction parts using bj with|nil=>exact rfl|zero _=>exact rfl|cons a b r rH1 rH2=>rw[aT,aT];have h:=rH2;rw[Qb,Qb,Qb,Qb,h,e,f]
def vl (y:Str)(parts:List Str):∀(c:Nat),c∈sg (Str.join y parts)->c∈sg y\/∃p∈parts,c∈sg p:=by
 induction parts using bj with|nil=>intro c h;simp[Str.join,Str.empty,sg] at h|zero a=>intro c h;exact .inr ⟨a,.head _,h⟩|cons a b r rH1 e=>
  intro c h;rw[aT] at h;simp only[Qu] at h;rcases h with h|h|h
  exact .inr ⟨a,.head _,h⟩;exact .inl h;rcases e c h with h|⟨p,f,h⟩
  exact .inl h;exact .inr ⟨p,.tail _ f,h⟩
theorem mN (y:Str):∀(parts:List Str) (p:Str),p∈parts->∀c∈sg p,c∈sg (Str.join y parts)
 | [a],p,e,c,h=>by
  have:p=a:=by simpa using e
  rw[<-this];exact h
 |a::b::r,p,e,c,h=>by
  rw[aT];simp only[Qu];rcases Qy.mp e with rfl|e
  exact .inl h;exact .inr<|.inr<|mN y (b::r) p e c h
def cA {z:Str}(b:y.length≠0){c:Nat}(h:c∈sg (Txt.replace x y z)):c∈sg z\/c∈sg x:=by
 obtain⟨parts,e,f⟩:=bw x y z b;rw[f] at h;rcases vl z parts c h with h|⟨p,i,h⟩
 exact .inl h;rw[<-e];exact .inr<|mN y parts p i c h
def xa {z:Str}(h:(sg z).length<=(sg y).length)(parts:List Str):(sg<|Str.join z parts).length<=(sg<|Str.join y parts).length:=by induction parts using bj with|nil=>exact Zv _|zero _=>exact Zv _|cons a b r rH1 rH2=>have e:=rH2;rw[aT,aT];simp only[Qj];exact {h,e}
def b3 {z:Str}(b:y.length≠0)(h:(sg z).length<=(sg y).length):(sg<|Txt.replace x y z).length<=(sg x).length:=by obtain⟨parts,e,f⟩:=bw x y z b;rw[f,<-e];exact xa h parts
noncomputable def X (n:Nat):Str:=⟨(List.replicate n 120).toArray⟩
def df (x:Str):Str:=
 Txt.replace (Txt.replace (Txt.replace (Txt.replace (Txt.replace x (X 8)<|X 1) (X 4)<|X 1) (X 2)<|X 1) (X 2)<|X 1) ⟨#[10,120]⟩ ⟨#[10]⟩
def gz (x:Str)(k:Nat)(s:St):scan s (sg<|Txt.replace x (X<|k+1)<|X 1)=scan s (sg x):=
 mn (by simp[X,Str.length]) (λ s=>by show scan s (List.replicate (k+1) 120)=scan s (List.replicate (0+1) 120);rw[w3,w3]) s
def cD (x:Str)(k:Nat):(sg<|Txt.replace x (X<|k+1)<|X 1).getLast?=(sg x).getLast?:=by
 obtain⟨parts,b,e⟩:=bw x (X<|k+1) (X 1)<|by simp[X,Str.length]
 rw[e];conv=>rhs;rw[<-b]
 exact sO (by show (List.replicate (k+1) 120).getLast?=_;simp[List.getLast?_replicate]) rfl parts
def oB (x:Str)(h:(sg x).getLast?≠Kf 120)(s:St):scan s (sg<|df x)=scan s (sg x):=by
 unfold df;have e:(sg<|Txt.replace (Txt.replace (Txt.replace (Txt.replace x (X 8)<|X 1) (X 4)<|X 1) (X 2)<|X 1) (X 2)<|X 1).getLast?=(sg x).getLast?:=by rw[cD _ 1,cD _ 1,cD _ 3,cD _ 7]
 obtain⟨parts,b,f⟩:=bw (Txt.replace (Txt.replace (Txt.replace (Txt.replace x (X 8)<|X 1) (X 4)<|X 1) (X 2)<|X 1) (X 2)<|X 1) ⟨#[10,120]⟩ ⟨#[10]⟩<|{4}
 rw[f,<-qy (y:=⟨#[10,120]⟩) (z:=⟨#[10]⟩) rfl rfl parts s (by rw[b,e];exact h),b,gz _ 1,gz _ 1,gz _ 3,gz _ 7]
def m8 (x:Str)(h:(sg x).getLast?≠Kf 120):(sg<|df x).getLast?=(sg x).getLast?:=by
 unfold df;have b:(sg<|Txt.replace (Txt.replace (Txt.replace (Txt.replace x (X 8)<|X 1) (X 4)<|X 1) (X 2)<|X 1) (X 2)<|X 1).getLast?=(sg x).getLast?:=by rw[cD _ 1,cD _ 1,cD _ 3,cD _ 7]
 obtain⟨parts,e,f⟩:=bw (Txt.replace (Txt.replace (Txt.replace (Txt.replace x (X 8)<|X 1) (X 4)<|X 1) (X 2)<|X 1) (X 2)<|X 1) ⟨#[10,120]⟩ ⟨#[10]⟩<|{4}
 rw[f,qp (y:=⟨#[10,120]⟩) (z:=⟨#[10]⟩) rfl rfl parts (by rw[e,b];exact h),e,b]
def pF {c:Nat}(h:c∈sg (df x)):c=120\/c=10\/c∈sg x:=by
 unfold df at h;rcases cA {4} h with h|h
 exact .inr<|.inl<|by simpa [sg] using h
 rcases cA {4} h with h|h
 exact .inl<|by simpa [sg,X] using h
 rcases cA {4} h with h|h
 exact .inl<|by simpa [sg,X] using h
 rcases cA {4} h with h|h
 exact .inl<|by simpa [sg,X] using h
 rcases cA {4} h with h|h
 exact .inl<|by simpa [sg,X] using h
 exact .inr<|.inr h
end
def bc {A:Prop}(h:∀G:Prop,(A->G)->G):A:=h A id
def wJ {α:Type}{a:Option α}{x:α}(e:a=Wq)(g:a=Kf x):False:=by rw[e] at g;contradiction
def kK {α:Type}{P:List α->Prop}(h:P [])(l:List α)(e:l.length=0):P l:=List.eq_nil_of_length_eq_zero e▸h
def e7 {α:Type}{P:List α->Prop}(h:∀a l,l.length=n->P (a::l))(l:List α):l.length=n+1->P l:=
 List.casesOn (motive:=λ l=>l.length=n+1->P l) l (λ e=>absurd e.symm<|Nat.succ_ne_zero n) λ a l e=>h a l<|Nat.succ.inj e
set_option genCtorIdx true in
inductive D where
 |none
 |bool (b:Bool)
 |int (i:Int)
 |str (x:Str)
 |tup (xs:List D)
 |lst (xs:List D)
set_option genCtorIdx true in
inductive Bi where
 |len|isinstance|max|min|list|tuple|range|bool|int
noncomputable def Bi.val:Bi->Wx
 | .len=>.builtin "len"| .isinstance=>.builtin "isinstance"| .max=>.builtin "max"| .min=>.builtin "min"| .list=>.type "list"| .tuple=>.type "tuple"| .range=>.type "range"| .bool=>.type "bool"| .int=>.type "int"
set_option genCtorIdx true in
inductive V where
 |d (x:D)
 |obj (k:Nat)
 |val (w:Wx)
 |rng (a b:Int)
 |bi (b:Bi)
 |mt (e:Int)
set_option genCtorIdx true in
inductive O where
 |list (xs:List D)
 |ns (fs:List (Str×V))
 |inst (C:Ww) (dk:Nat)
 |bound (id:String) (k:Nat)
abbrev aa:=List<|Nat×O
abbrev cI:=List<|Str×V
noncomputable def look {β:Type}:List (Str×β)->Str->Option β
 | [],_=>Wq| (y,v)::r,x=>if y=x then Kf v else look r x
noncomputable def a6 {β:Type}:List (Str×β)->Str->β->List (Str×β)
 | [],x,v=>[(x,v)]| (y,u)::r,x,v=>if y=x then (y,v)::r else (y,u)::a6 r x v
def dG {β:Type}(l:List<|Str×β)(x y:Str)(v:β):look (a6 l x v) y=if y=x then Kf v else look l y:=by induction l with|nil=>dsimp only[a6,look];by_cases h:x=y;rw[Wy h,Wy h.symm];rw[Wg h,Wg<|λ e=>h e.symm]|cons p r ih=>obtain⟨z,u⟩:=p;dsimp only[a6];by_cases b:z=x;rw[Wy b];dsimp only[look];subst b;by_cases h:z=y;rw[Wy h,Wy h.symm];rw[Wg h,Wg (λ e=>h e.symm),Wg h];rw[Wg b];dsimp only[look];by_cases h:z=y;rw[Wy h,Wy h];rw[Wg<|λ e=>b<|h.trans e];rw[Wg h,Wg h];exact ih
noncomputable def ae:aa->Nat->Option O
 | [],_=>Wq| (j,o)::r,k=>if j=k then Kf o else ae r k
noncomputable def cset:aa->Nat->O->aa
 | [],_,_=>[]| (j,u)::r,k,o=>if j=k then (j,o)::r else (j,u)::cset r k o
noncomputable def dom (c:aa):List Nat:=c.map (·.1)
def aj {c:aa}{o:O}(h:ae c k=Kf o):k∈dom c:=by induction c with|nil=>cases h|cons p r ih=>obtain⟨j,u⟩:=p;dsimp only[ae] at h;by_cases e:j=k;subst e;exact .head _;rw[Wg e] at h;exact .tail _<|ih h
def xD {c:aa}(h:k∈dom c):∃o,ae c k=Kf o:=by
 induction c with|nil=>cases h|cons p r ih=>
  obtain⟨j,u⟩:=p;dsimp only[ae];by_cases e:j=k;exact⟨u,Wy e⟩;rw[Wg e];rcases Qy.mp h with h|h
  exact absurd h.symm e;exact ih h
def ai (c:aa)(k:Nat)(o:O):dom (cset c k o)=dom c:=by induction c with|nil=>rfl|cons p r ih=>obtain⟨j,u⟩:=p;dsimp only[cset];by_cases e:j=k;rw[Wy e];rfl;rw[Wg e];show j::dom (cset r k o)=_;rw[ih];rfl
def aI {c:aa}(h:k∈dom c)(o:O)(j:Nat):ae (cset c k o) j=if j=k then Kf o else ae c j:=by
 induction c with|nil=>cases h|cons p r ih=>
  obtain⟨i,u⟩:=p;show ae (if i=k then _ else _) j=if j=k then _ else if i=j then _ else _
  by_cases e:i=k;subst e;rw[Wy rfl];by_cases b:i=j;subst b;rw[Wy rfl];exact Wy rfl;rw[Wg (λ e=>b e.symm),Wg b];exact Wg b;have f:k∈dom r:=(Qy.mp h).resolve_left λ h=>e h.symm;rw[Wg e];show (if i=j then _ else ae (cset r k o) j)=_;rw[ih f];by_cases b:i=j;subst b;rw[Wy rfl,Wg e,Wy rfl];rw[Wg b,Wg b]
noncomputable abbrev bp (T:String) (ws:List Wx) (ep:Nat):Obj:={cls:=.type T,data:=.seq ws.toArray ep}
noncomputable abbrev nH (id:String) (a:Ww):Obj:={cls:=.type "builtin_function_or_method",data:=.fields #[.builtin id,.ref a]}
noncomputable abbrev DN (a b:Int) (t u v:Tok):Obj:={cls:=.type "range",data:=.fields #[.int a t,.int b u,.int 1 v]}
noncomputable def dT (o:Obj):Bool:=match o.data with| .seq ..=>true| .fields _=>o.cls==.type "range" || o.cls==.type "re.Match"|_=>false
def qh {α:Type}{p:Prop} [Decidable p] {a:Option α}{r:α}(h:(if p then a else Wq)=Kf r):p/\a=Kf r:=by by_cases q:p;rw[Wy q] at h;exact⟨q,h⟩;rw[Wg q] at h;contradiction
noncomputable def jh:V->Option Str
 | .d x=>(match x with
  | .str u=>Kf u|_=>Wq)
 |_=>Wq
def j5 {v:V}(h:jh v=Kf x):v=.d (.str x):=by
 cases v with
 |d y=>cases y with|str u=>exact Option.some.inj h▸rfl|_=>contradiction
 |_=>contradiction
def aC {β:Type}(o:Option β)(f:β->Prop):Prop:=match o with|some x=>f x|none=>False
def v4 (u:V)(f:D->Prop):Prop:=match u with| .d x=>f x|_=>False
def jn (u:V)(f:Nat->Prop):Prop:=match u with| .obj k=>f k|_=>False
def sD (x:D)(f:Str->Prop):Prop:=match x with| .str x=>f x|_=>False
def iD (x:D)(f:Int->Prop):Prop:=match x with| .int x=>f x|_=>False
def g6 (u:V)(f:Str->Prop):Prop:=v4 u λ x=>sD x f
def f6 (u:V)(f:Int->Prop):Prop:=v4 u λ x=>iD x f
def lO (x:O)(f:List D->Prop):Prop:=match x with| .list xs=>f xs|_=>False
def nO (x:O)(f:List (Str×V)->Prop):Prop:=match x with| .ns xs=>f xs|_=>False
def jO (x:O)(f:Ww->Nat->Prop):Prop:=match x with| .inst C k=>f C k|_=>False
def bO (x:O)(f:String->Nat->Prop):Prop:=match x with| .bound C k=>f C k|_=>False
def dB (o:Option O)(f:List D->Prop):Prop:=aC o λ x=>lO x f
def DY (o:Option O)(f:List (Str×V)->Prop):Prop:=aC o λ x=>nO x f
def fJ (o:Option O)(f:Ww->Nat->Prop):Prop:=aC o λ x=>jO x f
def iE (o:Option O)(f:String->Nat->Prop):Prop:=aC o λ x=>bO x f
def aB {β:Type}{o:Option β}{f:β->Prop}(h:aC o f):∃x,o=Kf x/\f x:=by cases o with|some x=>exact⟨x,rfl,h⟩|none=>exact h.elim
def cv {u:V}{f:D->Prop}(h:v4 u f):∃x,u=.d x/\f x:=by cases u with|d x=>exact⟨x,rfl,h⟩|_=>exact h.elim
def eP {u:V}{f:Nat->Prop}(h:jn u f):∃x,u=.obj x/\f x:=by cases u with|obj x=>exact⟨x,rfl,h⟩|_=>exact h.elim
def cV {u:V}{f:Str->Prop}(h:g6 u f):∃x,u=.d (.str x)/\f x:=by obtain⟨x,rfl,h⟩:=cv h;cases x with|str x=>exact⟨x,rfl,h⟩|_=>exact h.elim
def b8 {u:V}{f:Int->Prop}(h:f6 u f):∃x,u=.d (.int x)/\f x:=by obtain⟨x,rfl,h⟩:=cv h;cases x with|int x=>exact⟨x,rfl,h⟩|_=>exact h.elim
def dh {o:Option O}{f:List D->Prop}(h:dB o f):∃xs,o=Kf (.list xs)/\f xs:=by obtain⟨x,rfl,h⟩:=aB h;cases x with|list xs=>exact⟨xs,rfl,h⟩|_=>exact h.elim
def oF {o:Option O}{f:List (Str×V)->Prop}(h:DY o f):∃xs,o=Kf (.ns xs)/\f xs:=by obtain⟨x,rfl,h⟩:=aB h;cases x with|ns xs=>exact⟨xs,rfl,h⟩|_=>exact h.elim
def jW {o:Option O}{f:Ww->Nat->Prop}(h:fJ o f):∃C k,o=Kf (.inst C k)/\f C k:=by obtain⟨x,rfl,h⟩:=aB h;cases x with|inst C k=>exact⟨C,k,rfl,h⟩|_=>exact h.elim
def io {o:Option O}{f:String->Nat->Prop}(h:iE o f):∃C k,o=Kf (.bound C k)/\f C k:=by obtain⟨x,rfl,h⟩:=aB h;cases x with|bound C k=>exact⟨C,k,rfl,h⟩|_=>exact h.elim
abbrev Al:=Nat->Ww
def aD (c:aa)(α:Al)(b:Ww):Prop:=∃k∈dom c,α k=b
mutual
inductive IsD (h:Wu)(own:Ww->Prop):D->Wx->Prop
 |none:IsD h own .none .none
 |bool (b:Bool):IsD h own (.bool b) (.bool b)
 |int (i:Int) (t:Tok):IsD h own (.int i) (.int i t)
 |str (x:Str) (t:Tok):IsD h own (.str x) (.str x t)
 |tup {xs:List D} {ws:List Wx} {a:Ww} {ep:Nat}:h.get? a=Kf (bp "tuple" ws ep)->¬own a->IsDs h own xs ws->IsD h own (.tup xs) (.ref a)
 |lst {xs:List D} {ws:List Wx} {a:Ww} {ep:Nat}:h.get? a=Kf (bp "list" ws ep)->¬own a->IsDs h own xs ws->IsD h own (.lst xs) (.ref a)
inductive IsDs (h:Wu)(own:Ww->Prop):List D->List Wx->Prop
 |nil:IsDs h own [] []
 |cons {x:D} {w:Wx} {xs:List D} {ws:List Wx}:IsD h own x w->IsDs h own xs ws->IsDs h own (x::xs) (w::ws)
end
def KE (h:Wu)(own:Ww->Prop)(x:D)(w:Wx):Prop:=match x with| .none=>w=.none| .bool b=>w=.bool b| .int i=>∃t,w=.int i t| .str x=>∃t,w=.str x t| .tup xs=>∃ws a ep,w=.ref a/\h.get? a=Kf (bp "tuple" ws ep)/\¬own a/\IsDs h own xs ws| .lst xs=>∃ws a ep,w=.ref a/\h.get? a=Kf (bp "list" ws ep)/\¬own a/\IsDs h own xs ws
def IsD.inv {x:D}{w:Wx}(i:IsD h own x w):KE h own x w:=
 IsD.casesOn (motive_1:=λ x w _=>KE h own x w) i rfl (λ _=>rfl) (λ _ t=>⟨t,rfl⟩) (λ _ t=>⟨t,rfl⟩) (λ g n r=>⟨_,_,_,rfl,g,n,r⟩) (λ g n r=>⟨_,_,_,rfl,g,n,r⟩)
def IsDs.ind {M:List D->List Wx->Prop}(nil:M [] [])(cons:∀{x w xs ws},IsD h own x w->IsDs h own xs ws->M xs ws->M (x::xs) (w::ws)){xs:List D}(i:IsDs h own xs ws):M xs ws:=
 IsDs.rec (motive_1:=λ _ _ _=>True) (motive_2:=λ xs ws _=>M xs ws) trivial (λ _=>trivial) (λ _ _=>trivial) (λ _ _=>trivial) (λ _ _ _ _=>trivial) (λ _ _ _ _=>trivial) nil (λ a r _ m=>cons a r m) i
def GR (h:Wu)(own:Ww->Prop)(xs:List D)(ws:List Wx):Prop:=match xs with| []=>ws=[]|x::r=>∃w ws',ws=w::ws'/\IsD h own x w/\IsDs h own r ws'
def IsDs.inv {xs:List D}(i:IsDs h own xs ws):GR h own xs ws:=
 i.ind (M:=GR h own) rfl λ a r _=>⟨_,_,rfl,a,r⟩
def IsD.two {x y:D}{w:Wx}(i:IsD h own (.tup [x,y]) w):∃b f a ep,w=.ref a/\h.get? a=Kf (bp "tuple" [b,f] ep)/\IsD h own x b/\IsD h own y f:=by obtain⟨o,a,ep,e,g,_,r⟩:=i.inv;obtain⟨b,p,rfl,j,r⟩:=r.inv;obtain⟨f,k,rfl,l,r⟩:=r.inv;obtain rfl:k=[]:=r.inv;exact⟨b,f,a,ep,e,g,j,l⟩
theorem IsDs.length {xs:List D}(i:IsDs h own xs ws):xs.length=ws.length:=
 i.ind (M:=λ xs ws=>xs.length=ws.length) rfl λ _ _ m=>congrArg Nat.succ m
def IsDs.append {ys:List D}{vs:List Wx}(y:IsDs h own ys vs){xs:List D}(i:IsDs h own xs ws):IsDs h own (xs++ys) (ws++vs):=
 i.ind (M:=λ xs ws=>IsDs h own (xs++ys)<|ws++vs) y λ a _ m=>.cons a m
def IsDs.get {xs:List D}(i:IsDs h own xs ws):∀(i:Nat) (x:D),xs[i]?=Kf x->∃w,ws[i]?=Kf w/\IsD h own x w:=
 i.ind (M:=λ xs ws=>∀(i:Nat) (x:D),xs[i]?=Kf x->∃w,ws[i]?=Kf w/\IsD h own x w) (λ _ _=>nofun) λ a _ m k=>Nat.casesOn k (λ _ e=>Option.some.inj e▸⟨_,rfl,a⟩) m
theorem IsDs.drop {xs:List D}(i:IsDs h own xs ws):∀n,IsDs h own (xs.drop n) (ws.drop n):=
 i.ind (M:=λ xs ws=>∀n,IsDs h own (xs.drop n)<|ws.drop n) (λ n=>Nat.casesOn n .nil λ _=>.nil) λ a r m n=>Nat.casesOn n (.cons a r) m
theorem IsDs.take {xs:List D}(i:IsDs h own xs ws):∀n,IsDs h own (xs.take n) (ws.take n):=
 i.ind (M:=λ xs ws=>∀n,IsDs h own (xs.take n)<|ws.take n) (λ n=>Nat.casesOn n .nil λ _=>.nil) λ a _ m n=>Nat.casesOn n .nil λ n=>.cons a<|m n
def IsD.step {own':Ww->Prop}(kept:∀b o,dT o=true->h.get? b=Kf o->¬own b->h'.get? b=Kf o)(grow:∀b,own' b->own b\/h.get? b=Option.none) {x:D} {w:Wx} (i:IsD h own x w):IsD h' own' x w:=
 have nn:∀{b o},h.get? b=Kf o->¬own b->¬own' b:=λ g n e=>(grow _ e).elim n λ e=>wJ e g
 IsD.rec (motive_1:=λ x w _=>IsD h' own' x w) (motive_2:=λ f j _=>IsDs h' own' f j) .none .bool .int .str (λ g n _ r=>.tup (kept _ _ rfl g n) (nn g n) r) (λ g n _ r=>.lst (kept _ _ rfl g n) (nn g n) r) .nil (λ _ _ a r=>.cons a r) i
theorem IsDs.step {own':Ww->Prop}(kept:∀b o,dT o=true->h.get? b=Kf o->¬own b->h'.get? b=Kf o)(grow:∀b,own' b->own b\/h.get? b=Wq) {xs:List D} {ws:List Wx} (i:IsDs h own xs ws):IsDs h' own' xs ws:=
 i.ind (M:=λ xs ws=>IsDs h' own' xs ws) .nil λ a _ m=>.cons (a.step kept grow) m
structure IsM (h:Wu)(own:Ww->Prop)(r:Ww)(e:Int):Prop where
 ob:∃fs tup i ep,h.get? r=Kf {cls:=.type "re.Match",data:=.fields fs}/\fs.getD 5 .none=.ref tup/\h.get? tup=Kf (bp "tuple" [.int i 0,.int e 0] ep)/\¬own tup
 no:¬own r
def IsM.step {own':Ww->Prop}(kept:∀b o,dT o=true->h.get? b=Kf o->¬own b->h'.get? b=Kf o)(grow:∀b,own' b->own b\/h.get? b=Wq){r:Ww}{e:Int}(i:IsM h own r e):IsM h' own' r e:=by
 obtain⟨f,tup,j,k,g1,g2,g3,n⟩:=i.ob;have nn:∀{b o},h.get? b=Kf o->¬own b->¬own' b:=λ g n e=>(grow _ e).elim n<|λ e=>by rw[e] at g;cases g
 exact⟨⟨f,tup,j,k,kept _ _ rfl g1 i.no,g2,kept _ _ rfl g3 n,nn g3 n⟩,nn g1 i.no⟩
def a7 (c:aa)(α:Al)(h:Wu):V->Wx->Prop
 | .d x,w=>IsD h (aD c α) x w| .obj k,w=>w=.ref (α k)/\k∈dom c| .val v,w=>w=v| .bi b,w=>w=b.val| .mt e,w=>∃r,w=.ref r/\IsM h (aD c α) r e| .rng a b,w=>∃r t u v,w=.ref r/\h.get? r=Kf (DN a b t u v)/\¬aD c α r
def IsO (c:aa)(α:Al)(h:Wu)(a:Ww):O->Prop
 | .list xs=>∃ws ep,h.get? a=Kf (bp "list" ws ep)/\IsDs h (aD c α) xs ws
 | .ns fs=>∃o es ep,h.get? a=Kf o/\o.data=.dict es ep/\StrKeys es/\es.size=fs.length/\
   ∀x,match look fs x with|some v=>∃w,nsFind es x=Kf w/\a7 c α h v w|none=>nsFind es x=Wq
 | .inst C dk=>h.get? a=Kf {cls:=.ref C,dict:=Kf (α dk)}/\dk∈dom c| .bound id k=>h.get? a=Kf (nH id<|α k)/\k∈dom c
structure Le (c:aa)(α:Al)(h:Wu)(c':aa)(α':Al)(h':Wu):Prop where
 dom:∀k∈dom c,k∈Mine.dom c'
 agree:∀k∈Mine.dom c,α' k=α k
 kept:∀b o,h.get? b=Kf o->¬aD c α b->h'.get? b=Kf o
 grow:∀k∈Mine.dom c',aD c α (α' k)\/h.get? (α' k)=Wq
def Le.refl (c:aa)(α:Al)(h:Wu):Le c α h c α h:=
 ⟨λ _ x=>x,λ _ _=>rfl,λ _ _ e _=>e,λ k b=>.inl ⟨k,b,rfl⟩⟩
def Le.not_own {c c':aa}{α f:Al}(x:Le c α h c' f h'){o:Obj}(e:h.get? b=Kf o)(n:¬aD c α b):¬aD c' f b:=by
 intro e_;obtain⟨k,i,rfl⟩:=e_;rcases x.grow k i with q|q
 exact n q;rw[q] at e;contradiction
theorem Le.trans {i r t:aa}{l u h:Al}{p w z:Wu}(x:Le i l p r u w)(y:Le r u w t h z):Le i l p t h z:=by
 refine⟨λ k f=>y.dom k (x.dom k f),λ k f=>(y.agree k<|x.dom k f).trans (x.agree k f),λ b o e n=>y.kept b o (x.kept b o e n) (x.not_own e n),λ k f=>?_⟩;rcases y.grow k f with ⟨j,G,e⟩|q
 rw[<-e];exact x.grow j G;by_cases n:aD i l (h k);exact .inl n;refine .inr ?_;cases e:p.get? (h k) with|none=>rfl|some o=>rw[x.kept _ _ e n] at q;contradiction
def Le.isD {c c':aa}{α f:Al}(x:Le c α h c' f h'){d:D}{w:Wx}(i:IsD h (aD c α) d w):IsD h' (aD c' f) d w:=
 i.step (λ b _ _ e n=>x.kept b _ e n) (λ b ⟨k,j,e⟩=>e▸x.grow k j)
def Le.isDs {c c':aa}{α f:Al}(x:Le c α h c' f h'){ds:List D}(i:IsDs h (aD c α) ds ws):IsDs h' (aD c' f) ds ws:=
 i.step (λ b _ _ e n=>x.kept b _ e n) (λ b ⟨k,j,e⟩=>e▸x.grow k j)
def Le.isV {c c':aa}{α f:Al}(x:Le c α h c' f h'){v:V}{w:Wx}(i:a7 c α h v w):a7 c' f h' v w:=by cases v with|d y=>exact x.isD i|obj k=>exact⟨by rw[x.agree k i.2];exact i.1,x.dom k i.2⟩|val u=>exact i|rng p q=>obtain⟨r,t,u,v,e,g,n⟩:=i;exact⟨r,t,u,v,e,x.kept _ _ g n,x.not_own g n⟩|bi b=>exact i|mt e=>obtain⟨r,e,m⟩:=i;exact⟨r,e,m.step (λ b _ _ e n=>x.kept b _ e n)<|λ b ⟨k,j,e⟩=>e▸x.grow k j⟩
inductive IsVs (c:aa)(α:Al)(h:Wu):List V->List Wx->Prop
 |nil:IsVs c α h [] []
 |cons {v:V} {w:Wx} {vs:List V} {ws:List Wx}:a7 c α h v w->IsVs c α h vs ws->IsVs c α h (v::vs) (w::ws)
def HD (c:aa)(α:Al)(h:Wu)(vs:List V)(ws:List Wx):Prop:=match vs with| []=>ws=[]|v::r=>∃w ws',ws=w::ws'/\a7 c α h v w/\IsVs c α h r ws'
def IsVs.inv {c:aa}{α:Al}{vs:List V}(i:IsVs c α h vs ws):HD c α h vs ws:=
 IsVs.casesOn (motive:=λ vs ws _=>HD c α h vs ws) i rfl λ a r=>⟨_,_,rfl,a,r⟩
def IsVs.one {c:aa}{α:Al}{v:V}(i:IsVs c α h [v] ws):∃w,ws=[w]/\a7 c α h v w:=by obtain⟨w,b,rfl,e,r⟩:=i.inv;exact⟨w,congrArg (w::·) r.inv,e⟩
def IsVs.two {c:aa}{α:Al}{v v':V}(i:IsVs c α h [v,v'] ws):∃w b,ws=[w,b]/\a7 c α h v w/\a7 c α h v' b:=by obtain⟨w,e,rfl,f,r⟩:=i.inv;obtain⟨b,rfl,j⟩:=r.one;exact⟨w,b,rfl,f,j⟩
def Le.isVs {c c':aa}{α b:Al}(x:Le c α h c' b h'){vs:List V}(i:IsVs c α h vs ws):IsVs c' b h' vs ws:=
 IsVs.rec (motive:=λ vs ws _=>IsVs c' b h' vs ws) .nil (λ a _ m=>.cons (x.isV a) m) i
def Le.isO {c c':aa}{α j:Al}(x:Le c α h c' j h'){o:O}(e:∀q,h.get? a=Kf q->h'.get? a=Kf q)(i:IsO c α h a o):IsO c' j h' a o:=by
 cases o with
 |list xs=>obtain⟨l,b,g,d⟩:=i;exact⟨l,b,e _ g,x.isDs d⟩|ns fs=>obtain⟨q,p,b,g,r,t,sz,f⟩:=i;refine⟨q,p,b,e _ g,r,t,sz,λ y=>?_⟩;have:=f y;cases hl:look fs y with|none=>rw[hl] at this;exact this|some v=>rw[hl] at this;obtain⟨w,u,z⟩:=this;exact⟨w,u,x.isV z⟩
 |inst C dk=>refine⟨?_,x.dom _ i.2⟩;rw[x.agree dk i.2];exact e _ i.1|bound id k=>refine⟨?_,x.dom _ i.2⟩;rw[x.agree k i.2];exact e _ i.1
structure Cst (hb:Wu)(pr:List Nat)(c:aa)(α:Al)(h:Wu):Prop where
 base:∀b o,hb.get? b=Kf o->h.get? b=Kf o
 cell:∀k o,ae c k=Kf o->IsO c α h (α k) o
 fresh:∀k∈dom c,hb.get? (α k)=Wq
 inj:∀k∈dom c,∀j∈dom c,α k=α j->k=j
 prs:∀k∈pr,k∈dom c
def IsO.ex {c:aa}{α:Al}{o:O}(i:IsO c α h a o):∃q,h.get? a=Kf q:=by cases o with|list xs=>obtain⟨e,b,g,d⟩:=i;exact⟨_,g⟩|ns fs=>obtain⟨q,f,b,g,r⟩:=i;exact⟨_,g⟩|inst C dk=>exact⟨_,i.1⟩|bound id k=>exact⟨_,i.1⟩
theorem Cst.ex {c:aa}{α:Al}(C:Cst hb pr c α h)(b:k∈dom c):∃q,h.get? (α k)=Kf q:=by obtain⟨o,e⟩:=xD b;exact (C.cell k o e).ex
def Cst.base_not_own {c:aa}{α:Al}(C:Cst hb pr c α h){o:Obj}(e:hb.get? b=Kf o):¬aD c α b:=by intro e_;obtain⟨k,f,rfl⟩:=e_;rw[C.fresh k f] at e;contradiction
def Cst.keeps {c:aa}{α:Al}(C:Cst hb pr c α h)(k:∀b o,h.get? b=Kf o->h'.get? b=Kf o):Cst hb pr c α h'/\Le c α h c α h':=by have L:Le c α h c α h':=⟨λ _ x=>x,λ _ _=>rfl,λ b o e _=>k b o e,λ j f=>.inl ⟨j,f,rfl⟩⟩;exact⟨⟨λ b o e=>k _ _ (C.base b o e),λ j o e=>L.isO (λ q=>k _ q) (C.cell j o e),C.fresh,C.inj,C.prs⟩,L⟩
noncomputable def fO (α:Al)(k:Nat)(a:Ww):Al:=λ j=>if j=k then a else α j
def aY {c:aa}{o:O}(b:k∉dom c)(j:Nat):ae (c++[(k,o)]) j=if j=k then Kf o else ae c j:=by
 induction c with|nil=>show (if k=j then Kf o else Wq)=_;by_cases e:k=j;rw[Wy e,Wy e.symm];rw[Wg e,Wg<|λ q=>e q.symm];rfl|cons p r ih=>
  obtain⟨i,u⟩:=p;have f:k≠i:=λ e=>b<|e▸.head _;have h:k∉dom r:=λ e=>b<|.tail _ e;show (if i=j then Kf u else ae (r++[(k,o)]) j)=if j=k then Kf o else if i=j then Kf u else ae r j
  rw[ih h];by_cases e:i=j;rw[Wy e,Wy e,Wg<|λ q=>f<|q.symm.trans e.symm];rw[Wg e,Wg e]
def al (c:aa)(k:Nat)(o:O):dom (c++[(k,o)])=dom c++[k]:=by simp[dom]
def Cst.new {c:aa}{α:Al}(C:Cst hb pr c α h)(t:k∉dom c)(q:Obj){o:O}(y:Le c α h (c++[(k,o)]) (fO α k h.objs.size) (h.push q)->IsO (c++[(k,o)]) (fO α k h.objs.size) (h.push q) h.objs.size o) :Cst hb pr (c++[(k,o)]) (fO α k h.objs.size) (h.push q)/\Le c α h (c++[(k,o)]) (fO α k h.objs.size) (h.push q):=by
 have w:h.get? h.objs.size=Wq:=by cases e:h.get? h.objs.size with|none=>rfl|some o'=>exact absurd (Heap.lt_size e)<|Nat.lt_irrefl _
 have p:∀j∈dom c,fO α k h.objs.size j=α j:=λ j f=>by show (if j=k then _ else _)=_;rw[Wg<|λ (e:j=k)=>t<|e▸f]
 have r:fO α k h.objs.size k=h.objs.size:=Wy rfl;have L:Le c α h (c++[(k,o)]) (fO α k h.objs.size) (h.push q):=by
  refine⟨λ j f=>by rw[al];exact List.mem_append_left _ f,p,λ b o e _=>Xz _ e,λ j f=>?_⟩;rw[al] at f;rcases Qu.mp f with f|f
  rw[p j f];exact .inl ⟨j,f,rfl⟩;have:j=k:=by simpa using f
  rw[this,r];exact .inr w
 refine⟨⟨λ b o e=>Xz _ (C.base b o e),λ j u e=>?_,λ j f=>?_,λ i l j f e=>?_,λ j f=>L.dom j<|C.prs j f⟩,L⟩;rw[aY t] at e;by_cases f:j=k;rw[Wy f] at e;injection e with e;subst e;rw[f,r];exact y L;rw[Wg f] at e;rw[p j<|aj e];exact L.isO (λ q e=>Xz _ e)<|C.cell j u e;rw[al] at f;rcases Qu.mp f with f|f
 rw[p j f];exact C.fresh j f;have:j=k:=by simpa using f
 rw[this,r];cases e:hb.get? h.objs.size with|none=>rfl|some o'=>rw[C.base _ _ e] at w;contradiction
 rw[al] at l f;have x:∀j∈dom c,α j<h.objs.size:=λ j f=>by obtain⟨q,e⟩:=C.ex f;exact Heap.lt_size e
 rcases Qu.mp l with l|l<;>rcases Qu.mp f with f|f
 rw[p i l,p j f] at e;exact C.inj i l j f e;have:j=k:=by simpa using f
 rw[this,r,p i l] at e;exact absurd (x i l)<|by rw[e];exact Nat.lt_irrefl _
 have:i=k:=by simpa using l
 rw[this,r,p j f] at e;exact absurd (x j f)<|by rw[<-e];exact Nat.lt_irrefl _
 have z:i=k:=by simpa using l
 have G:j=k:=by simpa using f
 rw[z,G]
def Cst.set {c:aa}{α:Al}(C:Cst hb pr c α h)(l:k∈dom c){o:O}(p:Heap.SameBut (α k) h h')(t:Le c α h (cset c k o) α h'->IsO (cset c k o) α h' (α k) o):Cst hb pr (cset c k o) α h'/\Le c α h (cset c k o) α h':=by
 have L:Le c α h (cset c k o) α h':=by refine⟨λ j f=>by rw[ai];exact f,λ _ _=>rfl,λ b q e n=>?_,λ j f=>.inl ⟨j,by rw[ai] at f;exact f,rfl⟩⟩;rw[p.2 b<|λ e=>n ⟨k,l,e.symm⟩];exact e
 refine⟨⟨λ b q e=>L.kept _ _ (C.base b q e) (C.base_not_own e),λ j u e=>?_,λ j f=>C.fresh j (by rw[ai] at f;exact f),λ i r j f=>C.inj i (by rw[ai] at r;exact r) j (by rw[ai] at f;exact f),λ j f=>by rw[ai];exact C.prs j f⟩,L⟩;rw[aI l] at e;by_cases f:j=k;rw[Wy f] at e;injection e with e;subst e;rw[f];exact t L;rw[Wg f] at e;refine L.isO (λ q g=>?_)<|C.cell j u e;rw[p.2 _<|λ w=>f<|C.inj j (aj e) k l w];exact g
inductive Held (h:Wu)(env:Env)(x:Str)(w:Wx):Prop
 |loc (m:Str->Option Wx):env.kindOf x=Kf .local->h.Ns env.locals m->m x=Kf w->Held h env x w
 |cel (b:Ww) (o:Obj):env.kindOf x=Kf .cell->env.cells.lookup x=Kf b->h.get? b=Kf o->o.data=.cell (Kf w)->Held h env x w
 |free (b:Ww) (o:Obj):env.kindOf x=Kf .free->env.cells.lookup x=Kf b->h.get? b=Kf o->o.data=.cell (Kf w)->Held h env x w
def iU (env:Env)(b:Ww):Prop:=b=env.locals\/∃x,env.cells.lookup x=Kf b
structure EnvOk (env:Env):Prop where
 kind:env.scope.kind=.function
 apart:∀x b,env.cells.lookup x=Kf b->b≠env.locals
 one:∀x y b,env.cells.lookup x=Kf b->env.cells.lookup y=Kf b->x=y
 inter:interactive env=false
structure Fst (hb:Wu)(pr:List Nat)(env:Env)(l:cI)(c:aa)(α:Al)(h:Wu):Prop extends Cst hb pr c α h where
 ns:∃m,h.Ns env.locals m
 cel:∀x b,env.cells.lookup x=Kf b->∃o v,h.get? b=Kf o/\o.data=.cell v
 loc:∀x v,look l x=Kf v->∃w,Held h env x w/\a7 c α h v w
 fr:∀b,iU env b->hb.get? b=Wq/\¬aD c α b
def Held.le {env:Env}{w:Wx}(H:Held h env x w)(k:∀b o,iU env b->h.get? b=Kf o->h'.get? b=Kf o):Held h' env x w:=by cases H with|loc m a b e=>exact .loc m a (by obtain⟨o,f,i,j,r⟩:=b;exact⟨o,f,i,k _ _ (.inl rfl) j,r⟩) e|cel b o a e g d=>exact .cel b o a e (k _ _ (.inr ⟨x,e⟩) g) d|free b o a e g d=>exact .free b o a e (k _ _ (.inr ⟨x,e⟩) g) d
theorem Fst.le {env:Env}{l:cI}{c c':aa}{α j:Al}(F:Fst hb pr env l c α h)(L:Le c α h c' j h')(C:Cst hb pr c' j h'):Fst hb pr env l c' j h':=by
 have k:∀b o,iU env b->h.get? b=Kf o->h'.get? b=Kf o:=λ b o f e=>L.kept b o e (F.fr b f).2;have u:∀b,iU env b->∃o,h.get? b=Kf o:=by rintro b (rfl|⟨x,e⟩);obtain⟨m,o,q,t,p,r⟩:=F.ns;exact⟨o,p⟩;obtain⟨o,v,g,d⟩:=F.cel x b e;exact⟨o,g⟩
 refine⟨C,?_,λ x b e=>?_,λ x v e=>?_,λ b f=>?_⟩;obtain⟨m,o,q,t,p,r⟩:=F.ns;exact⟨m,o,q,t,k _ _ (.inl rfl) p,r⟩;obtain⟨o,v,g,d⟩:=F.cel x b e;exact⟨o,v,k _ _ (.inr ⟨x,e⟩) g,d⟩;obtain⟨w,H,i⟩:=F.loc x v e;exact⟨w,H.le k,L.isV i⟩;obtain⟨o,e⟩:=u b f;exact⟨(F.fr b f).1,L.not_own e (F.fr b f).2⟩
theorem Fst.keeps {env:Env}{l:cI}{c:aa}{α:Al}(F:Fst hb pr env l c α h)(k:∀b o,h.get? b=Kf o->h'.get? b=Kf o) :Fst hb pr env l c α h'/\Le c α h c α h':=by obtain⟨C,L⟩:=F.toCst.keeps k;exact⟨F.le L C,L⟩
theorem Fst.push {env:Env}{l:cI}{c:aa}{α:Al}(F:Fst hb pr env l c α h)(q:Obj) :Fst hb pr env l c α (h.push q)/\Le c α h c α (h.push q):=F.keeps λ _ _ e=>Xz _ e
theorem Fst.new {env:Env}{l:cI}{c:aa}{α:Al}(F:Fst hb pr env l c α h)(b:k∉dom c)(q:Obj){o:O}(e:Le c α h (c++[(k,o)]) (fO α k h.objs.size) (h.push q)->IsO (c++[(k,o)]) (fO α k h.objs.size) (h.push q) h.objs.size o) :Fst hb pr env l (c++[(k,o)]) (fO α k h.objs.size) (h.push q)/\Le c α h (c++[(k,o)]) (fO α k h.objs.size) (h.push q):=by obtain⟨C,L⟩:=F.toCst.new b q e;exact⟨F.le L C,L⟩
theorem Fst.set {env:Env}{l:cI}{c:aa}{α:Al}(F:Fst hb pr env l c α h)(b:k∈dom c){o:O}(e:Heap.SameBut (α k) h h')(f:Le c α h (cset c k o) α h'->IsO (cset c k o) α h' (α k) o):Fst hb pr env l (cset c k o) α h'/\Le c α h (cset c k o) α h':=by obtain⟨C,L⟩:=F.toCst.set b e f;exact⟨F.le L C,L⟩
def be {c:aa}{α:Al}(C:Cst hb pr c α h):¬aD c α h.objs.size:=by intro e_;obtain⟨k,b,e⟩:=e_;obtain⟨q,g⟩:=C.ex b;rw[e] at g;exact absurd (Heap.lt_size g)<|Nat.lt_irrefl _
abbrev no:Wx->Wj->Prop:=λ _ _=>False
section
variable (M:Model)(A:Around)(hb:Wu)(pr:List Nat)(env:Env)
def OkE {β γ:Type}(I:aa->Al->Wu->β->γ->Prop)(l:cI)(c:aa)(t:Sem γ)(K:β->aa->Prop):Prop:=
 ∀(α:Al) (s:Wj) (Q:γ->Wj->Prop),1<=s.toks->Fst hb pr env l c α s.heap->
  (∀b c' α' g h' tk,1<=tk->K b c'->Fst hb pr env l c' α' h'->Le c α s.heap c' α' h'->I c' α' h' b g->Q g {s with heap:=h',toks:=tk})->wpAny M A t Q no s
inductive F where
 |next|brk|cont
 |ret (v:V)
def IK (c:aa)(α:Al)(h:Wu):F->Flow->Prop
 | .next,g=>g=.next| .brk,g=>g=.brk| .cont,g=>g=.cont| .ret v,g=>∃w,g=.ret w/\a7 c α h v w
structure LeS (c:aa)(α:Al)(h:Wu)(c':aa)(α':Al)(h':Wu):Prop where
 agree:∀k∈pr,α' k=α k
 kept:∀b o,h.get? b=Kf o->¬iU env b->¬aD c α b->h'.get? b=Kf o
 grow:∀k∈dom c',aD c α (α' k)\/h.get? (α' k)=Wq
structure Sg where
 l:cI
 c:aa
def OkS (σ:Sg)(t:Sem Flow)(K:F->Sg->Prop):Prop:=
 ∀(α:Al) (s:Wj) (Q:Flow->Wj->Prop),1<=s.toks->Fst hb pr env σ.l σ.c α s.heap->
  (∀f τ α' g h' tk,1<=tk->K f τ->Fst hb pr env τ.l τ.c α' h'->LeS pr env σ.c α s.heap τ.c α' h'->IK τ.c α' h' f g->Q g {s with heap:=h',toks:=tk})->wpAny M A t Q no s
end
section
variable {A:Around}{env:Env}
def aA {γ:Type}{t:Sem γ}{Q:γ->Wj->Prop}{E:Wx->Wj->Prop}(b:1<=s.toks)(h:wpAny M A t (λ g s'=>1<=s'.toks->Q g s') E s):wpAny M A t Q E s:=
 wpAny_with_toks b (Vq h (λ _ _ x=>x)<|λ _ _ x _=>x)
def OkE.mk {β γ:Type}{I:aa->Al->Wu->β->γ->Prop}{l:cI}{c:aa}{t:Sem γ}{K:β->aa->Prop}(h:∀(α:Al) (s:Wj) (Q:γ->Wj->Prop),1<=s.toks->Fst hb pr env l c α s.heap->(∀b c' e g h' j,K b c'->Fst hb pr env l c' e h'->Le c α s.heap c' e h'->I c' e h' b g->Q g {s with heap:=h',toks:=j})->wpAny M A t Q no s):OkE M A hb pr env I l c t K:=
 λ α s Q o F p=>aA o<|h α s _ o F λ b c' e g h' j k f le i q=>p b c' e g h' j q k f le i
def OkS.mk {σ:Sg}{t:Sem Flow}{K:F->Sg->Prop}(h:∀(α:Al) (s:Wj) (Q:Flow->Wj->Prop),1<=s.toks->Fst hb pr env σ.l σ.c α s.heap->(∀f τ e g h' j,K f τ->Fst hb pr env τ.l τ.c e h'->LeS pr env σ.c α s.heap τ.c e h'->IK τ.c e h' f g->Q g {s with heap:=h',toks:=j})->wpAny M A t Q no s):OkS M A hb pr env σ t K:=
 λ α s Q o F p=>aA o<|h α s _ o F λ b q e g h' j k f le i r=>p b q e g h' j r k f le i
end
def Le.leS {env:Env}{c c':aa}{α f:Al}(L:Le c α h c' f h')(C:Cst hb pr c α h):LeS pr env c α h c' f h':=
 ⟨λ k i=>L.agree k (C.prs k i),λ b o e _ n=>L.kept b o e n,L.grow⟩
def LeS.refl (pr:List Nat)(env:Env)(c:aa)(α:Al)(h:Wu):LeS pr env c α h c α h:=⟨λ _ _=>rfl,λ _ _ e _ _=>e,λ k b=>.inl ⟨k,b,rfl⟩⟩
theorem LeS.trans {env:Env}{l t u:aa}{p w i:Al}{r z G:Wu}(x:LeS pr env l p r t w z)(y:LeS pr env t w z u i G)(I:∀b,iU env b->¬aD u i b):LeS pr env l p r u i G:=by
 have no:∀b o,r.get? b=Kf o->¬aD l p b->¬aD t w b:=by
  intro b o e n e_;obtain⟨k,h,rfl⟩:=e_;rcases x.grow k h with q|q
  exact n q;rw[q] at e;contradiction
 refine⟨λ k h=>(y.agree k h).trans (x.agree k h),λ b o e f n=>y.kept b o (x.kept b o e f n) f (no b o e n),λ k h=>?_⟩;rcases y.grow k h with ⟨j,J,e⟩|q
 rw[<-e];exact x.grow j J;by_cases n:aD l p (i k);exact .inl n;refine .inr ?_;cases e:r.get? (i k) with|none=>rfl|some o=>by_cases f:iU env (i k);exact absurd ⟨k,h,rfl⟩<|I _ f;rw[x.kept _ _ e f n] at q;contradiction
section
variable {w:Wv}{A:Around}{env:Env}{l:cI}{c:aa}
def BC (f:EnvOk env){α:Al}{v:V}(F:Fst hb pr env l c α s.heap)(j:look l x=Kf v)(k:(x==("__classdict__":Str))=false){Q:Wx->Wj->Prop} (h:∀g,a7 c α s.heap v g->Q g s):wpAny (model prog w) A (loadName env x) Q no s:=by obtain⟨g,H,i⟩:=F.loc x v j;cases H with|loc m a b e=>exact wpAny_loadName_local f.kind a b e<|h g i|cel b o a e q d=>exact wpAny_loadName_cell f.kind a e ⟨o,q,d⟩<|h g i|free b o a e q d=>exact wpAny_loadName_free f.kind a e ⟨o,q,d⟩ (h g i) k
def a4 {α:Al}(F:Fst hb pr env l c α h)(k:iU env b):∀o,dT o=true->h.get? b≠Kf o:=by
 intro o f e;rcases k with rfl|⟨x,q⟩
 obtain⟨m,p,u,t,i,j,r⟩:=F.ns;rw[i] at e;cases e;unfold dT at f;rw[j] at f;cases f;obtain⟨p,v,i,j⟩:=F.cel x b q;rw[i] at e;cases e;unfold dT at f;rw[j] at f;cases f
section
variable {α:Al}(ns:∀o,dT o=true->h.get? b≠Kf o)(ks:∀a o,a≠b->h.get? a=Kf o->h'.get? a=Kf o)
include ns ks
def zZ {d:D}(i:IsD h (aD c α) d g):IsD h' (aD c α) d g:=
 i.step (λ a o f e n=>ks a o (λ q=>ns o f<|q▸e) e) (λ _ e=>.inl e)
def vb {d:List D}{g:List Wx}(i:IsDs h (aD c α) d g):IsDs h' (aD c α) d g:=
 i.step (λ a o f e n=>ks a o (λ q=>ns o f<|q▸e) e) (λ _ e=>.inl e)
def iK {v:V}(i:a7 c α h v g):a7 c α h' v g:=by cases v with|d x=>exact zZ ns ks i|obj k=>exact i|val u=>exact i|rng p q=>obtain⟨r,t,u,v,e,g,n⟩:=i;exact⟨r,t,u,v,e,ks r _ (λ q=>ns _ rfl<|q▸g) g,n⟩|bi b=>exact i|mt e=>obtain⟨r,e,m⟩:=i;exact⟨r,e,m.step (λ a o f e n=>ks a o (λ q=>ns o f<|q▸e) e)<|λ _ e=>.inl e⟩
def rO (C:Cst hb pr c α h)(no:¬aD c α b)(nb:hb.get? b=Wq):Cst hb pr c α h':=by
 have j:∀k∈dom c,α k≠b:=λ k t e=>no ⟨k,t,e⟩;refine⟨λ a o e=>ks a o (λ q=>by rw[q,nb] at e;contradiction) (C.base a o e),λ k o e=>?_,C.fresh,C.inj,C.prs⟩;have i:=C.cell k o e;have g:∀q,h.get? (α k)=Kf q->h'.get? (α k)=Kf q:=λ q u=>ks _ _ (j k<|aj e) u
 cases o with
 |list xs=>obtain⟨x,p,r,d⟩:=i;exact⟨x,p,g _ r,vb ns ks d⟩|ns fs=>obtain⟨q,z,p,r,G,I,sz,f⟩:=i;refine⟨q,z,p,g _ r,G,I,sz,λ y=>?_⟩;have:=f y;cases hl:look fs y with|none=>rw[hl] at this;exact this|some v=>rw[hl] at this;obtain⟨w,J,L⟩:=this;exact⟨w,J,iK ns ks L⟩
 |inst C dk=>exact⟨g _ i.1,i.2⟩|bound id k=>exact⟨g _ i.1,i.2⟩
def Fst.but (F:Fst hb pr env l c α h)(no:¬aD c α b)(j:¬iU env b)(nb:hb.get? b=Wq):Fst hb pr env l c α h':=by have k:∀a o,iU env a->h.get? a=Kf o->h'.get? a=Kf o:=λ a o f e=>ks a o (λ q=>j<|q▸f) e;refine⟨rO ns ks F.toCst no nb,?_,λ x b e=>?_,λ x v e=>?_,F.fr⟩;obtain⟨m,o,p,t,u,r⟩:=F.ns;exact⟨m,o,p,t,k _ _ (.inl rfl) u,r⟩;obtain⟨o,v,g,d⟩:=F.cel x b e;exact⟨o,v,k _ _ (.inr ⟨x,e⟩) g,d⟩;obtain⟨w,H,i⟩:=F.loc x v e;exact⟨w,H.le k,iK ns ks i⟩
end
def cL (f:Heap.SameBut b h h'):∀a o,a≠b->h.get? a=Kf o->h'.get? a=Kf o:=λ a o n e=>by rw[f.2 a n];exact e
def eX {α:Al}(F:Fst hb pr env l c α h)(e:iU env b)(f:Heap.SameBut b h h'){v:V}(i:a7 c α h v g):a7 c α h' v g:=
 iK (a4 F e) (cL f) i
def kU {α:Al}(F:Fst hb pr env l c α h)(e:iU env b)(f:Heap.SameBut b h h'):Cst hb pr c α h':=
 rO (a4 F e) (cL f) F.toCst (F.fr b e).2 (F.fr b e).1
def lh {α:Al}(f:iU env b)(i:Heap.SameBut b h h'):LeS pr env c α h c α h':=
 ⟨λ _ _=>rfl,λ a o e j _=>by rw[i.2 a<|λ q=>j<|q▸f];exact e,λ k p=>.inl ⟨k,p,rfl⟩⟩
def gD (p:EnvOk env){α:Al}{v:V}(F:Fst hb pr env l c α s.heap)(L:env.kindOf x=Kf .local)(i:a7 c α s.heap v g){Q:Unit->Wj->Prop} (P:∀h' R,Fst hb pr env (a6 l x v) c α h'->Heap.SameBut env.locals s.heap h'->Q () {s with heap:=h',toks:=R}):wpAny (model prog w) A (storeName env x g) Q no s:=by
 obtain⟨m,M⟩:=F.ns;have r:iU env env.locals:=.inl rfl;refine wpAny_storeName_local L M (λ h' t j=>P h' _ ?_ j)<|by rw[p.kind];rfl
 refine⟨kU F r j,⟨_,t⟩,λ y b e=>?_,λ y u e=>?_,F.fr⟩;obtain⟨o,v,z,G⟩:=F.cel y b e;exact⟨o,v,by rw[j.2 b<|p.apart y b e];exact z,G⟩;rw[dG] at e;by_cases k:y=x;rw[Wy k] at e;injection e with e;subst e;exact⟨g,.loc _ (k▸L) t (by simp only[Wy k]),eX F r j i⟩;rw[Wg k] at e;obtain⟨T,H,U⟩:=F.loc y u e;refine⟨T,?_,eX F r j U⟩
 cases H with
 |loc m' a b' e'=>
  refine .loc _ a t ?_;have:m' y=m y:=by obtain⟨o,es,ep,z,G,hk,I⟩:=b';obtain⟨o2,W,Y,f,h,hk2,J⟩:=M;rw[z] at f;injection f with f;subst f;rw[G] at h;injection h with h;subst h;rw[<-I,<-J]
  simp only[Wg k];rw[<-this];exact e'
 |cel b o a e' q d=>exact .cel b o a e' (by rw[j.2 b<|p.apart y b e'];exact q) d|free b o a e' q d=>exact .free b o a e' (by rw[j.2 b<|p.apart y b e'];exact q) d
def oH (p:EnvOk env){α:Al}{v:V}(F:Fst hb pr env l c α s.heap)(k:env.kindOf x=Kf .local\/(env.kindOf x=Kf .cell/\∃b,env.cells.lookup x=Kf b)) (i:a7 c α s.heap v g){Q:Unit->Wj->Prop} (T:∀h' P,Fst hb pr env (a6 l x v) c α h'->LeS pr env c α s.heap c α h'->Q () {s with heap:=h',toks:=P}):wpAny (model prog w) A (storeName env x g) Q no s:=by
 rcases k with k|⟨k,b,f⟩
 exact gD p F k i λ h' P W j=>T h' P W<|lh (.inl rfl) j;obtain⟨o,v0,t,R⟩:=F.cel x b f;have M:iU env b:=.inr ⟨x,f⟩;refine wpAny_storeName_cell p.kind k f ⟨o,t,R⟩<|λ h' Y j=>T h' s.toks ?_<|lh M j;obtain⟨U,z,G⟩:=Y;have I:env.locals≠b:=λ e=>p.apart x b f e.symm;refine⟨kU F M j,?_,λ y h e=>?_,λ y u e=>?_,F.fr⟩;obtain⟨m,o,es,ep,t,r⟩:=F.ns;exact⟨m,o,es,ep,by rw[j.2 _ I];exact t,r⟩;by_cases J:h=b;subst J;exact⟨U,_,z,G⟩;obtain⟨o,v,t,R⟩:=F.cel y h e;exact⟨o,v,by rw[j.2 h J];exact t,R⟩;rw[dG] at e;by_cases L:y=x;rw[Wy L] at e;injection e with e;subst e;subst L;exact⟨g,.cel b U k f z G,eX F M j i⟩;rw[Wg L] at e;obtain⟨g',H,i'⟩:=F.loc y u e;refine⟨g',?_,eX F M j i'⟩;cases H with|loc m' a h e'=>exact .loc m' a (h.sameBut j I) e'|cel h o a e' q d=>exact .cel h o a e' (by rw[j.2 h<|λ (e:h=b)=>L<|p.one y x b (e▸e') f];exact q) d|free h o a e' q d=>exact .free h o a e' (by rw[j.2 h<|λ (e:h=b)=>L<|p.one y x b (e▸e') f];exact q) d
end
mutual
noncomputable def D.py:D->PyData
 | .none=>.none| .bool b=>.bool b| .int i=>.int i| .str x=>.str x| .tup xs=>.tuple<|dQ xs| .lst xs=>.list<|dQ xs
noncomputable def dQ:List D->List PyData
 | []=>[]|x::xs=>x.py::dQ xs
end
def rD :∃b,ReadsAll h [] (dQ []) b:=⟨_,.nil⟩
theorem all_cons {x:D}{w:Wx}{xs:List D}:(∃b,Reads h w x.py b)->(∃b,ReadsAll h ws (dQ xs) b)->∃b,ReadsAll h (w::ws) (dQ<|x::xs) b
 |⟨_,p⟩,⟨_,q⟩=>⟨_,.cons p q⟩
theorem qk {T:String}{xs:List D}(b:Bool)(f:T=if b then "tuple" else "list") (g:h.get? a=Kf (bp T ws ep)):(∃e,ReadsAll h ws (dQ xs) e)->∃e,Reads h (.ref a) (if b then D.tup xs else .lst xs).py e
 |⟨_,q⟩=>by have q:ReadsAll h ws.toArray.toList (dQ xs) _:=q;subst f;cases b;exact⟨_,.list g rfl rfl q⟩;exact⟨_,.tuple g rfl rfl q⟩
def IsD.reads {x:D}{w:Wx}(i:IsD h own x w):∃e,Reads h w x.py e:=
 IsD.rec (motive_1:=λ x w _=>∃e,Reads h w x.py e) (motive_2:=λ f j _=>∃e,ReadsAll h j (dQ f) e) ⟨_,.none⟩ (λ b=>⟨_,.bool b⟩) (λ i t=>⟨_,.int i t⟩) (λ x t=>⟨_,.str x t⟩)
  (λ g _ _ r=>qk true rfl g r) (λ g _ _ r=>qk false rfl g r) rD (λ _ _=>all_cons) i
theorem IsDs.reads {xs:List D}(i:IsDs h own xs ws):∃b,ReadsAll h ws (dQ xs) b:=
 i.ind (M:=λ xs ws=>∃b,ReadsAll h ws (dQ xs) b) rD λ a _=>all_cons a.reads
def Ij {o:Option O}{d:D}:(match o with|some (.list xs)=>Kf (.lst xs)|_=>Wq)=Kf d->∃xs,o=Kf (.list xs)/\D.lst xs=d:=by cases o with|none=>nofun|some o=>cases o with
  |list xs=>exact λ e=>⟨xs,rfl,Option.some.inj e⟩
  |_=>nofun
def rd (c:aa):V->Option D
 | .d x=>Kf x| .obj k=>match ae c k with|some (.list xs)=>Kf (.lst xs)|_=>Wq
 |_=>Wq
def B5 {c:aa}{α:Al}(C:Cst hb pr c α h){v:V}{d:D}(e:rd c v=Kf d)(i:a7 c α h v g):∃b,Reads h g d.py b:=by cases v with|d x=>exact Option.some.inj e▸IsD.reads i|obj k=>obtain⟨l,f,rfl⟩:=Ij e;obtain⟨o,p,j,r⟩:=C.cell k _ f;rw[i.1];exact qk false rfl j r.reads|_=>contradiction
def Im {o:Option O}{d:Bool×List D}:(match o with|some (.list xs)=>Kf (false,xs)|_=>Wq)=Kf d->∃xs,o=Kf (.list xs)/\(false,xs)=d:=by cases o with|none=>nofun|some o=>cases o with
  |list xs=>exact λ e=>⟨xs,rfl,Option.some.inj e⟩
  |_=>nofun
def ca (c:aa):V->Option (Bool×List D)
 | .d (.lst xs)=>Kf (false,xs)| .d (.tup xs)=>Kf (true,xs)| .obj k=>match ae c k with|some (.list xs)=>Kf (false,xs)|_=>Wq
 |_=>Wq
def dO {c:aa}{α:Al}(C:Cst hb pr c α h){v:V}{b:Bool}{xs:List D}(e:ca c v=Kf (b,xs))(i:a7 c α h v g) :∃a ws ep,g=.ref a/\h.get? a=Kf (bp (if b then "tuple" else "list") ws ep)/\IsDs h (aD c α) xs ws:=by
 cases v with
 |d x=>
  cases x with
  |lst l=>injection e with e;injection e with f j;subst f j;obtain⟨ws,a,ep,e,g,_,r⟩:=IsD.inv i;exact⟨a,ws,ep,e,g,r⟩
  |tup l=>injection e with e;injection e with f j;subst f j;obtain⟨ws,a,ep,e,g,_,r⟩:=IsD.inv i;exact⟨a,ws,ep,e,g,r⟩
  |_=>contradiction
 |obj k=>
  obtain⟨l,o,e⟩:=Im e;injection e with f j;subst f j
  obtain⟨ws,ep,p,r⟩:=C.cell k _ o;exact⟨_,ws,ep,i.1,p,r⟩
 |_=>contradiction
noncomputable def big:Nat:=1048576
def uL (c:aa)(v:V)(K:Bool->Prop):Prop:=aC (ca c v) λ p=>p.2.length<=big/\K (!p.2.isEmpty)
def bJ (c:aa)(v:V)(K:Bool->Prop):Prop:=
 match v with
 | .d x=>(match x with
  | .none=>K false| .bool b=>K b| .int i=>K<|i != 0| .str x=>x.length<=big/\K (x.length != 0)|x=>uL c (.d x) K)
 | .mt _=>K true|v=>uL c v K
def Dj {i:Int}(h:i<n)(k:n<=big):i<2 ^ 63:=Int.lt_trans (Int.lt_of_lt_of_le h<|Int.ofNat_le.mpr k)<|{3}
def Dw {i:Int}(h:-(n:Int)<=i)(k:n<=big):-2 ^ 63<=i:=Int.le_trans (Int.le_trans {3}<|Int.neg_le_neg<|Int.ofNat_le.mpr k) h
def wj (h:n<=big):(n:Int)<2 ^ 63:=Int.lt_of_le_of_lt (Int.ofNat_le.mpr h)<|{3}
def IX:(-2 ^ 62:Int)<=-1048576/\(1048576:Int)<2 ^ 62:={3}
def Gi (h:n<=67108864):n<2 ^ 60:=Nat.lt_of_le_of_lt h<|{4}
def aQ (h:n<=big):n<=sizeLine:=by rw[sizeLine_eq];unfold big at h;exact {h}
section
variable {w:Wv}{A:Around}{env:Env}{l:cI}{c:aa}{α:Al}
def qd:typeLookup (.type "re.Match") "__bool__"=pure Wq:=by rw[typeLookup_type,builtinLookup_eq_fast];kernel_rfl
def ux:typeLookup (.type "re.Match") "__len__"=pure Wq:=by rw[typeLookup_type,builtinLookup_eq_fast];kernel_rfl
def mi {r:Ww}(b:s.TypeIs (.ref r) "re.Match") {Q:Bool->Wj->Prop} {E:Wx->Wj->Prop} (h:Q true s):wpAny M A (truthy<|.ref r) Q E s:=by unfold truthy callSpecial?;refine Zb<|Zb<|wpAny_specialOf b qd<|Zp ?_;exact Zb<|wpAny_specialOf b ux<|Zp h
def gW (C:Cst hb pr c α s.heap){v:V}{K:Bool->Prop}(h:uL c v K)(i:a7 c α s.heap v g){Q:Bool->Wj->Prop}(o:∀b t,K b->Q b {s with toks:=t}) :wpAny (model prog w) A (truthy g) Q no s:=by obtain⟨⟨b,k⟩,e,h⟩:=aB h;obtain⟨a,f,u,rfl,p,r⟩:=dO C e i;have hl:f.length=k.length:=r.length.symm;have j:(!f.toArray.isEmpty)=!k.isEmpty:=r.ind (M:=λ k f=>(!f.toArray.isEmpty)=!k.isEmpty) rfl λ _ _ _=>rfl;have q:(f.toArray.size:Int)<2 ^ 63:=wj<|Zk (Nat.le_of_eq hl) h.1;cases b with|true=>exact truthy_tuple ⟨_,p,rfl,_,rfl⟩ q<|j▸o _ _ h.2|false=>exact wpAny_truthy_list ⟨_,p,rfl,_,rfl⟩ q<|j▸o _ _ h.2
def Lz (n:Nat):((n:Int) != 0)=(n != 0):=by cases n<;>rfl
def fT (C:Cst hb pr c α s.heap){v:V}{K:Bool->Prop}(h:bJ c v K)(i:a7 c α s.heap v g){Q:Bool->Wj->Prop}(f:∀b p,K b->Q b {s with toks:=p}) :wpAny (model prog w) A (truthy g) Q no s:=by
 cases v with
 |d x=>have o:=IsD.inv i;cases x with|none=>obtain rfl:g=_:=o;exact truthy_none<|f _ s.toks h|bool b=>obtain rfl:g=_:=o;exact wpAny_truthy_bool<|f _ s.toks h|int n=>obtain⟨t,rfl⟩:=o;exact PySem.P.truthy_int<|f _ s.toks h|str x=>obtain⟨t,rfl⟩:=o;exact PySem.P.truthy_str (Int.not_le.mpr<|wj h.1)<|f _ _<|Lz _▸h.2|tup xs=>exact gW (v:=.d<|.tup xs) (K:=K) C h i f|lst xs=>exact gW (v:=.d<|.lst xs) (K:=K) C h i f
 |mt e=>obtain⟨r,rfl,m⟩:=i;obtain⟨q,tup,j,u,g1,_⟩:=m.ob;exact mi ⟨_,g1,rfl⟩<|f _ s.toks h|obj k=>exact gW (v:=.obj k) (K:=K) C h i f|_=>exact h.elim
noncomputable def gn (x:Str)(n:Nat):Str:=⟨(List.replicate n x.cps).foldl (·++·) #[]⟩
def fh (a b:V)(f:Int->Int->Prop):Prop:=f6 a λ i=>f6 b λ j=>f i j
def rC {a b:V}{f:Int->Int->Prop}(h:fh a b f):∃i j,a=.d (.int i)/\b=.d (.int j)/\f i j:=by obtain⟨i,e,h⟩:=b8 h;obtain⟨j,k,h⟩:=b8 h;exact⟨i,j,e,k,h⟩
def dC {c:aa}{α:Al}{e:Wu}{a b:V}{f:Int->Int->Prop}(h:fh a b f){x y:Wx}(k:a7 c α e a x)(o:a7 c α e b y):∃i t j u,x=.int i t/\y=.int j u/\f i j:=by obtain⟨i,j,rfl,rfl,h⟩:=rC h;obtain⟨t,rfl⟩:=IsD.inv k;obtain⟨u,rfl⟩:=IsD.inv o;exact⟨i,t,j,u,rfl,rfl,h⟩
def G8 (x y:D)(K:D->Prop):Prop:=match x with
 | .int i=>(match y with
  | .int j=>K<|.int<|i+j|_=>False)
 | .str u=>(match y with
  | .str v=>u.length+v.length<=big/\K (.str<|u++v)|_=>False)
 | .lst xs=>(match y with
  | .lst ys=>xs.length+ys.length<=big/\K (.lst<|xs++ys)|_=>False)
 |_=>False
def dd (a b:V)(f:D->D->Prop):Prop:=v4 a λ x=>v4 b λ y=>f x y
def qU {a b:V}{f:D->D->Prop}(h:dd a b f):∃x y,a=.d x/\b=.d y/\f x y:=by obtain⟨x,e,h⟩:=cv h;obtain⟨y,i,h⟩:=cv h;exact⟨x,y,e,i,h⟩
def Cc (x y:D)(K:D->Prop):Prop:=match x with
 | .str u=>(match y with
  | .int n=>(0<n/\n<=9)/\u.length=1/\K (.str<|gn u n.toNat)|_=>False)
 |_=>False
def s9 (c:aa)(op:Operator)(a b:V)(K:D->Prop):Prop:=
 match op with
 | .Add=>dd a b λ x y=>G8 x y K
 | .Sub=>fh a b λ i j=>K<|.int<|i-j
 | .Mod=>fh a b λ i j=>j≠0/\K (.int<|i.fmod j)
 | .FloorDiv=>fh a b λ i j=>j=24/\K (.int<|i.fdiv 24)
 | .Mult=>dd a b λ x y=>Cc x y K
 |_=>False
section
variable {x y:Wx}{K:D->Prop}{Q:Wx->Wj->Prop}(hq:∀d g h' tk,K d->Fst hb pr env l c α h'->Le c α s.heap c α h'->IsD h' (aD c α) d g->Q g {s with heap:=h',toks:=tk})
include hq
def FZ (F:Fst hb pr env l c α s.heap){a b:D}(h:G8 a b K)(o:IsD s.heap (aD c α) a x)(p:IsD s.heap (aD c α) b y):wpAny (model prog w) A (binaryOp .Add x y) Q no s:=by
 cases a with
 |int i=>cases b with|int j=>obtain⟨_,rfl⟩:=o.inv;obtain⟨_,rfl⟩:=p.inv;exact PyProof.Rows.add_int<|hq _ _ s.heap _ h F (Le.refl ..)<|.int _ _|_=>exact h.elim
 |str u=>cases b with|str v=>obtain⟨_,rfl⟩:=o.inv;obtain⟨_,rfl⟩:=p.inv;exact add_str (λ M tk=>hq _ _ s.heap tk h.2 F (Le.refl ..)<|.str _ _)<|aQ h.1|_=>exact h.elim
 |lst xs=>
  cases b with
  |lst ys=>
   obtain⟨f,z,G,rfl,g1,P,r⟩:=o.inv;obtain⟨k,I,J,rfl,g2,R,t⟩:=p.inv;have e:f.toArray++k.toArray=(f++k).toArray:=by simp
   refine concat_meets ⟨_,g1,rfl⟩ ⟨_,g2,rfl⟩ noFill_list_add seq_list_add PySem.F.slot_list_add PySem.F.entry_list_add (PySem.F.args_list_add_2 _ _) (list_addW z I f.toArray k.toArray G J Wq Wq #[] #[] ?_) ⟨g1,g2,?_⟩;rw[Xq,Xq,<-r.length,<-t.length];exact aQ h.1;rw[e];obtain⟨L,q⟩:=F.push<|bp "list" (f++k) 0;refine hq _ _ _ s.toks h.2 L q<|.lst (Xj _ rfl) (be F.toCst)<|(q.isDs t).append<|q.isDs r
  |_=>exact h.elim
 |_=>exact h.elim
def ze (F:Fst hb pr env l c α s.heap){a b:D}(h:Cc a b K)(j:IsD s.heap (aD c α) a x)(o:IsD s.heap (aD c α) b y):wpAny (model prog w) A (binaryOp .Mult x y) Q no s:=by
 cases a with
 |str x'=>
  cases b with
  |int n=>
   obtain⟨_,rfl⟩:=j.inv;obtain⟨_,rfl⟩:=o.inv;obtain⟨⟨p,i⟩,f,h⟩:=h;obtain⟨k,rfl⟩:∃k:Nat,n=((k+1:Nat):Int):=⟨(n-1).toNat,by exact U512 p⟩;have r:k<=8:=Om.lz {0,i};have t:∀(m:Nat) (a:Array Nat),((List.replicate m x'.cps).foldl (·++·) a).size=a.size+m:=λ m=>by
    induction m with
    |zero=>exact λ a=>rfl
    |succ m ih=>intro a;show ((List.replicate m x'.cps).foldl (·++·)<|a++x'.cps).size=_;rw[ih,Array.size_append,show x'.cps.size=1 from f];exact Om.an {1} {1}
   refine PySem.P.mul_str ?_ (λ _ _=>?_) (λ _ _=>?_) ?_;rw[Bool.or_eq_false_iff,decide_eq_false_iff_not,decide_eq_false_iff_not];exact⟨Int.not_lt.mpr (Int.le_trans {3}<|Int.natCast_nonneg _),Int.not_le.mpr<|wj<|Zk (Nat.succ_le_succ r)<|{4}⟩;rw[f,Int.not_lt];exact (Int.le_ediv_iff_mul_le<|U509).mpr<|Int.le_trans (Int.le_of_eq<|Int.one_mul _)<|Int.le_trans i<|{3}
   rw[f,PySem.Builtin.Str.tooLong,decide_eq_false_iff_not,sizeLine_eq];exact U508 i;rw[Wg<|U507];by_cases q:k=0;subst q;have e:gn x' 1=x':=congrArg Str.mk<|Array.empty_append (xs:=x'.cps);exact hq (.str x') _ s.heap _ (e▸h) F (Le.refl ..)<|.str _ _;rw[Wg<|by rw[f];simp;exact U506 q];refine⟨?_,hq (.str<|gn x'<|k+1) _ s.heap _ h F (Le.refl ..)<|.str _ _⟩;rw[show (Str.mk ((List.replicate ((k+1:Nat):Int).toNat x'.cps).foldl (·++·) #[])).length=0+(k+1) from t _ _,sizeLine_eq];exact Om.lz {0,i}
  |_=>exact h.elim
 |_=>exact h.elim
def AF (F:Fst hb pr env l c α s.heap){op:Operator}{a b:V}(h:s9 c op a b K)(e:a7 c α s.heap a x)(f:a7 c α s.heap b y):wpAny (model prog w) A (binaryOp op x y) Q no s:=by cases op with|Add=>obtain⟨u,v,rfl,rfl,h⟩:=qU h;exact FZ hq F h e f|Mult=>obtain⟨u,v,rfl,rfl,h⟩:=qU h;exact ze hq F h e f|Sub=>obtain⟨i,t,j,u,rfl,rfl,h⟩:=dC h e f;exact PyProof.Rows.sub_int<|hq _ _ s.heap _ h F (Le.refl ..)<|.int _ _|Mod=>obtain⟨i,t,j,u,rfl,rfl,h⟩:=dC h e f;exact mod_int' h.1<|hq _ _ s.heap _ h.2 F (Le.refl ..)<|.int _ _|FloorDiv=>obtain⟨i,t,j,u,rfl,rfl,rfl,h⟩:=dC h e f;exact PyProof.Rows.floordiv_int {4}<|hq _ _ s.heap _ h F (Le.refl ..)<|.int _ _|_=>exact h.elim
end
def Fm (F:Fst hb pr env l c α s.heap){op:Operator}{a b:V}{K:D->Prop}(h:s9 c op a b K){x y:Wx}(e:a7 c α s.heap a x)(f:a7 c α s.heap b y){Q:Wx->Wj->Prop} (i:∀d g h' j,K d->Fst hb pr env l c α h'->Le c α s.heap c α h'->IsD h' (aD c α) d g->Q g {s with heap:=h',toks:=j}):wpAny (model prog w) A (binaryOp op x y) Q no s:=AF i F h e f
def AK (c:aa)(a b:V)(K:Bool->Prop):Prop:=aC (rd c a) λ x=>aC (rd c b) λ y=>PySem.SeqAt.shaped x.py=true/\PySem.SeqAt.shaped y.py=true/\PySem.SeqAt.noMix x.py y.py=true/\K (PySem.Spec.same x.py y.py)
def Lo (c:aa)(x y:D)(K:Bool->Prop):Prop:=match x with
 | .int i=>(match y with
  | .int j=>K<|i==j|y=>AK c (.d (.int i)) (.d y) K)
 | .str u=>(match y with
  | .str v=>K<|u==v|y=>AK c (.d (.str u)) (.d y) K)
 | .bool p=>(match y with
  | .bool q=>K<|p==q|y=>AK c (.d (.bool p)) (.d y) K)
 |x=>AK c (.d x) (.d y) K
def Gj (c:aa)(a b:V)(K:Bool->Prop):Prop:=match a with
 | .d x=>(match b with
  | .d y=>Lo c x y K|b=>AK c (.d x) b K)
 |a=>AK c a b K
def C9 {c:aa}{a b:V}{K:Bool->Prop}(h:Gj c a b K):(∃i j,a=.d (.int i)/\b=.d (.int j)/\K (i==j))\/(∃u v,a=.d (.str u)/\b=.d (.str v)/\K (u==v))\/(∃p q,a=.d (.bool p)/\b=.d (.bool q)/\K (p==q))\/AK c a b K:=by
 refine bc λ G back=>?_;have g:=λ q=>back<|.inr<|.inr<|.inr q
 cases a with
 |d x=>
  cases b with
  |d y=>
   cases x with
   |int i=>cases y with|int j=>exact back<|.inl ⟨i,j,rfl,rfl,h⟩|_=>exact g h
   |str u=>cases y with|str v=>exact back<|.inr<|.inl ⟨u,v,rfl,rfl,h⟩|_=>exact g h
   |bool p=>cases y with|bool q=>exact back<|.inr<|.inr<|.inl ⟨p,q,rfl,rfl,h⟩|_=>exact g h
   |_=>exact g h
  |_=>exact g h
 |_=>exact g h
def Lu (u:Str)(x:D)(K:Bool->Prop):Prop:=match x with| .str v=>K<|Txt.contains v u| .lst xs=>∃ys:List Str,xs=ys.map .str/\K (ys.any (·==u))|_=>False
def H1 (a b:V)(K:Bool->Prop):Prop:=g6 a λ u=>v4 b λ x=>Lu u x K
def nj (ys:List Str):∀(ws:List Wx),IsDs h own (ys.map .str) ws->StrsAre ws ys:=by induction ys with|nil=>intro ws r;obtain rfl:ws=[]:=r.inv;exact .nil|cons y ys ih=>intro ws r;obtain⟨w,b,rfl,i,q⟩:=r.inv;obtain⟨t,rfl⟩:=IsD.inv i;exact .cons y t<|ih b q
def CN {c:aa}{α:Al}{a b:V}{K:Bool->Prop}(k:H1 a b K){x y:Wx}(i:a7 c α h a x)(f:a7 c α h b y):∃u t,x=.str u t/\((∃v e,y=.str v e/\K (Txt.contains v u))\/∃l ws ys,y=.ref l/\h.IsList l (List.toArray ws)/\StrsAre ws ys/\K (ys.any (·==u))):=by obtain⟨u,rfl,k⟩:=cV k;obtain⟨t,rfl⟩:=IsD.inv i;obtain⟨d,rfl,k⟩:=cv k;refine⟨u,t,rfl,?_⟩;cases d with|str v=>obtain⟨e,rfl⟩:=IsD.inv f;exact .inl ⟨v,e,rfl,k⟩|lst xs=>obtain⟨ys,rfl,j⟩:=k;obtain⟨ws,l,o,rfl,g,_,r⟩:=IsD.inv f;exact .inr ⟨l,ws,ys,rfl,⟨_,g,rfl,o,rfl⟩,nj ys ws r,j⟩|_=>exact k.elim
def rg:V->Prop
 | .d .none=>True|_=>False
def rt (a:V)(K:Bool->Prop):Prop:=match a with| .d .none=>K false| .mt _=>K true|_=>False
def gH (c:aa)(op:CmpOp)(a b:V)(K:Bool->Prop):Prop:=
 match op with
 | .Lt=>fh a b λ i j=>K<|decide<|i<j
 | .LtE=>fh a b λ i j=>K<|decide<|i<=j
 | .Gt=>fh a b λ i j=>K<|decide<|j<i
 | .GtE=>fh a b λ i j=>K<|decide<|j<=i
 | .Eq=>Gj c a b K| .NotEq=>Gj c a b λ r=>K<|!r
 | .In=>H1 a b K| .NotIn=>H1 a b λ r=>K<|!r
 | .IsNot=>rg b/\rt a K|_=>False
def CJ (C:Cst hb pr c α s.heap){a b:V}{K:Bool->Prop}(h:AK c a b K){u v:Wx}(e:a7 c α s.heap a u)(f:a7 c α s.heap b v) :∃x y,(∃i,Reads s.heap u x i)/\(∃j,Reads s.heap v y j)/\PySem.SeqAt.shaped x=true/\PySem.SeqAt.shaped y=true/\PySem.SeqAt.noMix x y=true/\K (PySem.Spec.same x y):=by obtain⟨x,k,h⟩:=aB h;obtain⟨y,o,h⟩:=aB h;exact⟨_,_,B5 C k e,B5 C o f,h⟩
def CR (C:Cst hb pr c α s.heap){a b:V}{K:Bool->Prop}(h:Gj c a b K){x y:Wx}(e:a7 c α s.heap a x)(f:a7 c α s.heap b y) :(∃i t j u,x=.int i t/\y=.int j u/\K (i==j))\/(∃i t j u,x=.str i t/\y=.str j u/\K (i==j))\/(∃p q,x=.bool p/\y=.bool q/\K (p==q))\/AK c a b K:=by
 rcases C9 h with ⟨i,j,rfl,rfl,h⟩|⟨i,j,rfl,rfl,h⟩|⟨i,j,rfl,rfl,h⟩|h
 obtain⟨t,k⟩:=IsD.inv e;obtain⟨u,o⟩:=IsD.inv f;exact .inl ⟨i,t,j,u,k,o,h⟩;obtain⟨t,k⟩:=IsD.inv e;obtain⟨u,o⟩:=IsD.inv f;exact .inr<|.inl ⟨i,t,j,u,k,o,h⟩;exact .inr<|.inr<|.inl ⟨i,j,IsD.inv e,IsD.inv f,h⟩;exact .inr<|.inr<|.inr h
section
variable (C:Cst hb pr c α s.heap)(hu:A.units+64<cLine){a b:V}{K:Bool->Prop}{x y:Wx}(hx:a7 c α s.heap a x)(hy:a7 c α s.heap b y){Q:Wx->Wj->Prop}(hq:∀b,K b->Q (.bool b) s)
include C hu hx hy hq
def Hk (h:Gj c a b K):wpAny (model prog w) A (compareOp .Eq x y) Q no s:=by
 rcases CR C h hx hy with ⟨i,t,j,u,rfl,rfl,h⟩|⟨i,t,j,u,rfl,rfl,h⟩|⟨i,j,rfl,rfl,h⟩|h
 exact PyProof.Rows.eq_int<|hq _ h;exact PyProof.Rows.eq_str<|hq _ h;exact PyProof.Rows.eq_bool<|hq _ h;obtain⟨_,_,⟨k,e⟩,⟨o,f⟩,h⟩:=CJ C h hx hy;exact eq_dataH_same e f h.1 h.2.1 hu h.2.2.1<|hq _ h.2.2.2
def H5 (h:Gj c a b λ r=>K<|!r):wpAny (model prog w) A (compareOp .NotEq x y) Q no s:=by
 rcases CR C h hx hy with ⟨i,t,j,u,rfl,rfl,h⟩|⟨i,t,j,u,rfl,rfl,h⟩|⟨i,j,rfl,rfl,h⟩|h
 exact PyProof.Rows.ne_int<|hq _ h;exact PyProof.Rows.ne_str<|hq _ h;exact PyProof.Rows.ne_bool<|hq _ h;obtain⟨_,_,⟨k,e⟩,⟨o,f⟩,h⟩:=CJ C h hx hy;exact ne_dataH_same e f h.1 h.2.1 hu h.2.2.1<|hq _ h.2.2.2
omit C hu
def xR (h:rg b/\rt a K):wpAny (model prog w) A (compareOp .IsNot x y) Q no s:=by
 have e:y=.none:=by
  cases b with
  |d z=>cases z with|none=>exact IsD.inv hy|_=>exact h.1.elim
  |_=>exact h.1.elim
 subst e;have h:=h.2
 cases a with
 |d z=>cases z with|none=>obtain rfl:x=_:=IsD.inv hx;exact isnot_none_gen<|hq _ h|_=>exact h.elim
 |mt _=>obtain⟨r,rfl,_⟩:=hx;exact isnot_ref_none<|hq _ h|_=>exact h.elim
def Hh (h:H1 a b K):wpAny (model prog w) A (compareOp .In x y) Q no s:=by obtain⟨u,t,rfl,⟨v,f,rfl,h⟩|⟨l,i,j,rfl,hl,e,h⟩⟩:=CN h hx hy;exact PySem.SB.contains<|hq _ h;exact in_list_strs hl e<|hq _ h
def vF (h:H1 a b λ r=>K<|!r):wpAny (model prog w) A (compareOp .NotIn x y) Q no s:=by obtain⟨u,t,rfl,⟨v,f,rfl,h⟩|⟨l,i,j,rfl,hl,e,h⟩⟩:=CN h hx hy;exact PySem.SB.notContains<|hq _ h;exact notin_list_strs hl e<|hq _ h
end
def v9 (C:Cst hb pr c α s.heap)(o:A.units+64<cLine){a b:V}{K:Bool->Prop}(h:gH c op a b K){x y:Wx}(e:a7 c α s.heap a x)(f:a7 c α s.heap b y){Q:Wx->Wj->Prop}(k:∀b,K b->Q (.bool b) s):wpAny (model prog w) A (compareOp op x y) Q no s:=by cases op with|Lt=>obtain⟨i,t,j,u,rfl,rfl,h⟩:=dC h e f;exact PyProof.Rows.lt_int<|k _ h|LtE=>obtain⟨i,t,j,u,rfl,rfl,h⟩:=dC h e f;exact PyProof.Rows.le_int<|k _ h|Gt=>obtain⟨i,t,j,u,rfl,rfl,h⟩:=dC h e f;exact PyProof.Rows.gt_int<|k _ h|GtE=>obtain⟨i,t,j,u,rfl,rfl,h⟩:=dC h e f;exact PyProof.Rows.ge_int<|k _ h|Eq=>exact Hk C o e f k h|NotEq=>exact H5 C o e f k h|In=>exact Hh e f k h|NotIn=>exact vF e f k h|IsNot=>exact xR e f k h|_=>exact h.elim
end
variable {c c':aa}{vs:List V}{α:Al}{xs ds:List D}{v u:V}{I:Nat->List (Option D)->Prop}{L L':List (Option D)}{Wc:List Nat->aa}
noncomputable def cN (e:Wz):Bool:=e.ctorIdx==22
noncomputable def dK (e:Wz):Bool:=e.ctorIdx != 26
noncomputable def gK (e:Wz):Bool:=e.ctorIdx != 7
noncomputable def bR (e:Wz):Bool:=e.ctorIdx==8||e.ctorIdx==9||e.ctorIdx==10
abbrev PO {α:Type} (P:α->Prop):=Option {k:α // P k}
noncomputable def ot {α:Type}{P:α->Prop}(o:PO P):Option α:=o.map (·.1)
def fL {α:Type}{P:α->Prop}{o:PO P}{k:α}(h:ot o=Kf k):P k:=by cases o with|none=>contradiction|some x=>exact Option.some.inj h▸x.2
noncomputable def xy (e:Wz):PO λ k=>∃n p,e=.Constant k n p:=
 if h:e.ctorIdx=19 then @Expr.Constant.elim (λ e=>PO λ k=>∃n p,e=.Constant k n p) e h (λ k n p=>Kf ⟨k,n,p,rfl⟩) else Wq
noncomputable def B6 (e:Wz):PO λ k:Str×Pos=>e=.Name k.1 k.2:=
 if h:e.ctorIdx=23 then @Expr.Name.elim (λ e=>PO λ k:Str×Pos=>e=.Name k.1 k.2) e h (λ x p=>Kf ⟨(x,p),rfl⟩) else Wq
noncomputable def Cb (e:Wz):PO λ k:Wz×Str×Pos=>e=.Attribute k.1 k.2.1 k.2.2:=
 if h:e.ctorIdx=20 then @Expr.Attribute.elim (λ e=>PO λ k:Wz×Str×Pos=>e=.Attribute k.1 k.2.1 k.2.2) e h (λ a x p=>Kf ⟨(a,x,p),rfl⟩) else Wq
noncomputable def vP (e:Wz):PO λ k:Option Wz×Option Wz×Option Wz=>∃p,e=.Slice k.1 k.2.1 k.2.2 p:=
 if h:e.ctorIdx=26 then @Expr.Slice.elim (λ e=>PO λ k:Option Wz×Option Wz×Option Wz=>∃p,e=.Slice k.1 k.2.1 k.2.2 p) e h (λ a b d p=>Kf ⟨(a,b,d),p,rfl⟩) else Wq
noncomputable def Ic (e:Wz):PO λ es=>∃k p,e=.Tuple es k p:=
 if h:e.ctorIdx=25 then @Expr.Tuple.elim (λ e=>PO λ es=>∃k p,e=.Tuple es k p) e h (λ es k p=>Kf ⟨es,k,p,rfl⟩) else Wq
noncomputable def IB (e:Wz):PO λ k:Wz×Wz=>∃p,e=.Subscript k.1 k.2 p:=
 if h:e.ctorIdx=21 then @Expr.Subscript.elim (λ e=>PO λ k:Wz×Wz=>∃p,e=.Subscript k.1 k.2 p) e h (λ a i p=>Kf ⟨(a,i),p,rfl⟩) else Wq
def jc (e:Wz):Option Const:=ot<|xy e
def cn (e:Wz):Option (Str×Pos):=ot<|B6 e
def eJ (e:Wz):Option (Wz×Str×Pos):=ot<|Cb e
def qq (e:Wz):Option (Option Wz×Option Wz×Option Wz):=ot<|vP e
def xC (e:Wz):Option (List Wz):=ot<|Ic e
def GF (e:Wz):Option (Wz×Wz):=ot<|IB e
def kC {e:Wz}{k:Const}(h:jc e=Kf k):∃n p,e=.Constant k n p:=fL (o:=xy e) h
def bL {e:Wz}{k:Str×Pos}(h:cn e=Kf k):e=.Name k.1 k.2:=fL (o:=B6 e) h
def eC {e:Wz}{k:Wz×Str×Pos}(h:eJ e=Kf k):e=.Attribute k.1 k.2.1 k.2.2:=fL (o:=Cb e) h
def tK {e:Wz}{k:Option Wz×Option Wz×Option Wz}(h:qq e=Kf k):∃p,e=.Slice k.1 k.2.1 k.2.2 p:=fL (o:=vP e) h
def qG {e:Wz}{b:List Wz}(h:xC e=Kf b):∃k p,e=.Tuple b k p:=fL (o:=Ic e) h
def Aa {e:Wz}{k:Wz×Wz}(h:GF e=Kf k):∃p,e=.Subscript k.1 k.2 p:=fL (o:=IB e) h
def nP {f:Wz}(h:f.ctorIdx=23):∃x p,f=.Name x p:=@Expr.Name.elim (λ e=>∃x p,e=.Name x p) f h λ x p=>⟨x,p,rfl⟩
noncomputable def Gs (w:Wx):PO λ a=>w=.ref a:=if h:w.ctorIdx=10 then @Value.ref.elim (λ w=>PO λ a=>w=.ref a) w h λ a=>Kf ⟨a,rfl⟩ else Wq
def EK (w:Wx):Option Ww:=ot<|Gs w
def lU {w:Wx}(h:EK w=Kf a):w=.ref a:=fL (o:=Gs w) h
def Ly {i:Int}(b:0<=(if i<0 then i+n else i))(f:(if i<0 then i+n else i)<n)(e:(if i<0 then i+n else i).toNat=j):-(n:Int)<=i/\i<n/\j<n:=by by_cases q:i<0;rw[Wy q] at b f e;exact⟨{0,b},{0,q,Om.nn n},e▸(Int.toNat_lt b).mpr f⟩;rw[Wg q] at b f e;exact U513 b f e
def km {i:Int}(h:seqIndex? i n=Kf j):(-(n:Int)<=i/\i<n/\j<n)/\j=(if i<0 then i+n else i).toNat:=by obtain⟨b,h⟩:=qh h;obtain⟨e,f⟩:=(Xv _ _).mp b;exact⟨Ly (of_decide_eq_true e) (of_decide_eq_true f)<|Option.some.inj h,(Option.some.inj h).symm⟩
def cb {e:Wz}(h:dK e=true)(o i:Wx):subscripted e false o i=operate [o,i] (getItem o i):=by cases e<;>first|rfl|exact absurd h Bool.false_ne_true
def BO (c:aa)(o:V)(i:Int)(K:D->Prop):Prop:=aC (ca c o) λ p=>p.2.length<=big/\∃j d,seqIndex? i p.2.length=Kf j/\p.2[j]?=Kf d/\K d
def CD (c:aa)(o:V)(i:Int)(K:D->Prop):Prop:=match jh o with|some x=>-(x.length:Int)<=i/\i<x.length/\x.length<=big/\K (.str<|Txt.item x i)|none=>BO c o i K
def f8 (c:aa)(o i:V)(K:D->Prop):Prop:=f6 i λ n=>CD c o n K
section
variable {w:Wv}{A:Around}{env:Env}{l:cI}
def AL {i:Int}(e:-(n:Int)<=i)(f:i<n)(b:n<=big):fitsSsize i=true:=by unfold fitsSsize;have:¬i < -(2 ^ 63:Int):=Int.not_lt.mpr<|Dw e b;have h:¬i ≥ 2 ^ 63:=Int.not_le.mpr<|Dj f b;rw[decide_eq_false this,decide_eq_false h];rfl
def yE (C:Cst hb pr c α s.heap){slice:Wz}(k:dK slice=true){o:V}{n:Int}{K:D->Prop}(h:BO c o n K){x:Wx}(U:a7 c α s.heap o x){Q:Wx->Wj->Prop} (y:∀d g W,K d->IsD s.heap (aD c α) d g->Q g {s with toks:=W}):wpAny (model prog w) A (subscriptTail value slice x<|.int n t) Q no s:=by obtain⟨⟨b,Y⟩,e,f,j,r_⟩:=aB h;obtain⟨d,L,hd,z⟩:=r_;obtain⟨a,M,ep,rfl,P,r⟩:=dO C e U;obtain⟨u,G,I⟩:=r.get j d hd;obtain⟨⟨J,R,h3⟩,p⟩:=km L;have i:M.length=Y.length:=r.length.symm;unfold big at f;cases b with|true=>exact item_tupleT ⟨_,P,rfl,_,rfl⟩ (Dw J f) (Dj R f) (by rw[i];exact L) G (y d u s.toks z I)<|cb k _ _|false=>have hl:s.heap.IsList a M.toArray:=⟨_,P,rfl,_,rfl⟩;refine tail_any (T:="list") hl.typeIs slot_list_getitem.lookup ?_<|cb k _ _;by_cases q:n<0;rw[Wy q] at p;refine wpAny_getItem_list_neg hl q (by rw[Xq,i];exact J) (Dw J f) ?_<|y d u s.toks z I;rw[Xq,i,<-p];simpa using G;rw[Wg q] at p;refine wpAny_getItem_list hl {0,(Om.il q)} (Dj R f) ?_<|y d u s.toks z I;rw[<-p];simpa using G
def item_ok (C:Cst hb pr c α s.heap){slice:Wz}(f:dK slice=true){o i:V}{K:D->Prop}(h:f8 c o i K){x y:Wx}(j:a7 c α s.heap o x)(q:a7 c α s.heap i y){Q:Wx->Wj->Prop} (k:∀d g r,K d->IsD s.heap (aD c α) d g->Q g {s with toks:=r}):wpAny (model prog w) A (subscriptTail value slice x y) Q no s:=by obtain⟨n,rfl,b⟩:=b8 h;obtain⟨t,rfl⟩:=IsD.inv q;unfold CD at b;cases e:jh o with|some x=>rw[e] at b;obtain rfl:=j5 e;obtain⟨_,rfl⟩:=IsD.inv j;obtain⟨b,p,u,h⟩:=b;obtain⟨T,id,hl,z,G⟩:=(PySem.SB.item (prog:=prog) (w:=w) (A:=A) (E:=no) (AL b p u) (charAt_isSome b p) (k _ _ (s.toks+1) h<|.str _ _):ItemOn _ _ _ _ _ Q s);exact tail_any z hl G<|cb f _ _|none=>rw[e] at b;exact yE C f b j k
noncomputable def pY:V->Option (Option Int)
 | .d .none=>Kf Wq| .d (.int i)=>Kf<|some i|_=>Wq
def lg {p:Option Int}(e:pY v=Kf p)(i:a7 c α h v g):IsPart g p:=by
 cases v with
 |d x=>cases x with|none=>obtain rfl:g=_:=IsD.inv i;exact Option.some.inj e▸.none|int n=>obtain⟨t,rfl⟩:=IsD.inv i;exact Option.some.inj e▸.int _ _|_=>contradiction
 |_=>contradiction
def Hd (z:Int):(max 0 z).toNat=z.toNat:=by
 rcases Int.le_total 0 z with h|h
 rw[Int.max_eq_right h];rw[Int.max_eq_left h];exact (Int.toNat_of_nonpos h).symm
noncomputable def nR (xs:List D)(lo hi:Option Int):List D:=(xs.drop<|lo.elim 0<|clipAt xs.length).take<|hi.elim xs.length (clipAt xs.length)-lo.elim 0 (clipAt xs.length)
def mo (c:aa)(o i j:V)(K:D->Prop):Prop:=aC (pY i) λ lo=>aC (pY j) λ hi=>match jh o with|some x=>x.length<=big/\K (.str<|Txt.slice x lo hi)|none=>aC (ca c o) λ p=>p.1=false/\p.2.length<=big/\K (.lst<|nR p.2 lo hi)
def fc (value:Wz)(x:Str)(t:Tok)(r:Wx):letTemporaryGo value (.str x t) r=pure ():=by cases value<;>rfl
section
variable (F:Fst hb pr env l c α s.heap){el eh:Option Wz}{p:Pos}{y z:Wx}{K:D->Prop}{lo hi:Option Int}(p1:IsPart y lo)(p2:IsPart z hi){Q:Wx->Wj->Prop} (hq:∀d g h' tk,K d->Fst hb pr env l c α h'->Le c α s.heap c α h'->IsD h' (aD c α) d g->Q g {s with heap:=h',toks:=tk})
include F p1 p2 hq
def sG (G:x.length<=big)(h:K<|.str<|Txt.slice x lo hi):wpAny (model prog w) A (subscriptTail value (.Slice el eh Wq p) (.str x t)<|.ref s.heap.objs.size) Q no {s with heap:=s.heap.push {cls:=.type "slice",data:=.fields #[y,z,.none]}}:=by
 have q:KeptH (λ h'=>∀b o,s.heap.get? b=Kf o->h'.get? b=Kf o):=λ h M k b o e=>Xz _<|k b o e;have fin:∀h' r k,(∀b o,s.heap.get? b=Kf o->h'.get? b=Kf o)->Q (.str (Txt.slice x lo hi) r) {s with heap:=h',toks:=k}:=by intro h' r k I;obtain⟨J,L⟩:=F.keeps I;exact hq _ _ h' k h J L<|.str _ _
 have f:=aQ G
 cases p1 with
 |none=>cases p2 with|none=>exact tail_of_ItemOn (SBH.sliceItem_nn q (λ _ _ e=>e) fin f) rfl<|fc _ _ _|int j u=>exact tail_of_ItemOn (SBH.sliceItem_ns q (λ _ _ e=>e) fin f) rfl<|fc _ _ _
 |int i u=>cases p2 with|none=>exact tail_of_ItemOn (SBH.sliceItem_sn q (λ _ _ e=>e) fin f) rfl<|fc _ _ _|int j u=>exact tail_of_ItemOn (SBH.sliceItem_ss q (λ _ _ e=>e) fin f) rfl<|fc _ _ _
def uQ (i:s.heap.get? a=Kf (bp "list" ws ep)) (r:IsDs s.heap (aD c α) xs ws) (j:xs.length<=big) (h:K<|.lst<|nR xs lo hi) :wpAny (model prog w) A (subscriptTail value (.Slice el eh Wq p) (.ref a)<|.ref s.heap.objs.size) Q no {s with heap:=s.heap.push {cls:=.type "slice",data:=.fields #[y,z,.none]}}:=by
 have hl:s.heap.IsList a ws.toArray:=⟨_,i,rfl,_,rfl⟩;have b:ws.length=xs.length:=r.length.symm
 refine tail_any (T:="list") (Heap.IsList.typeIs (s:={s with heap:=s.heap.push {cls:=.type "slice",data:=.fields #[y,z,.none]}})<|hl.push _) slot_list_getitem.lookup
  (wpAny_getItem_list_slice (hl.push _) (Heap.IsSliceOf.new ..) p1 p2 .none (by simp) ?_<|by rw[Xq,b];exact aQ j) rfl
 rw[slicePick_plain];obtain⟨e,f⟩:=F.push {cls:=.type "slice",data:=.fields #[y,z,.none]};obtain⟨k,L2⟩:=e.push<|bp "list" ((ws.drop<|lo.elim 0<|clipAt xs.length).take<|hi.elim xs.length (clipAt xs.length)-lo.elim 0 (clipAt xs.length)) 0
 have:=hq (.lst<|nR xs lo hi) (.ref (s.heap.push {cls:=.type "slice",data:=.fields #[y,z,.none]}).objs.size) _ s.toks h k (f.trans L2)
  (.lst (Xj _ rfl) (be e.toCst)<|((f.trans L2).isDs r).drop _ |>.take _)
 simpa [b] using this
end
def xM (F:Fst hb pr env l c α s.heap){lo hi:Wz}{J L:Option Wz}{p:Pos}{o i j:V}{K:D->Prop}(h:mo c o i j K){x y z:Wx}(k:a7 c α s.heap o x)(M:a7 c α s.heap i y)(P:a7 c α s.heap j z){Q:Wx->Wj->Prop} (q:∀d g h' R,K d->Fst hb pr env l c α h'->Le c α s.heap c α h'->IsD h' (aD c α) d g->Q g {s with heap:=h',toks:=R}) :wpAny (model prog w) A (subscriptTail value (.Slice J L Wq p) x<|.ref s.heap.objs.size) Q no {s with heap:=s.heap.push {cls:=.type "slice",data:=.fields #[y,z,.none]}}:=by obtain⟨lo,T,h⟩:=aB h;obtain⟨hi,U,h⟩:=aB h;have u:=lg T M;have G:=lg U P;cases e:jh o with|some x=>rw[e] at h;obtain rfl:=j5 e;obtain⟨t,rfl⟩:=IsD.inv k;exact sG F u G q h.1 h.2|none=>rw[e] at h;obtain⟨⟨b,xs⟩,e,f,W,Y⟩:=aB h;obtain⟨a,ws,ep,rfl,I,r⟩:=dO F.toCst e k;have f:b=false:=f;rw[f] at I;exact uQ F u G q I r W Y
end
structure ClsOk (K:Frag)(C:Ww):Prop where
 ga:findIn K (.ref C) "__getattribute__"=Kf (Kf<|.builtin "object.__getattribute__")
 gk:findIn K (.ref C) "__getattr__"=Kf Wq
 sa:findIn K (.ref C) "__setattr__"=Kf (Kf<|.builtin "object.__setattr__")
 po:plainOver K C=true
 hd:hasDictIn K C=true
def ii {b:Array DictEntry}{o:Obj}{r:Option Wx}(j:o.data=.dict b ep)(k:StrKeys b)(e:nsFind b x=r):lookIn x o=Kf r:=by
 unfold lookIn;rw[j];dsimp only;rw[Array.find?_toList];unfold nsFind findBy at e;have f:b.toList.any (·.refKey)=false:=by rw[Array.any_toList,Array.any_eq_false'];intro e l;obtain⟨n,t,h⟩:=k e l;simp[DictEntry.refKey,h]
 cases i:b.find? (·.key.isStr x) with|some en=>rw[i] at e;subst e;rfl|none=>rw[i] at e;subst e;simp only[f];rfl
section
variable {w:Wv}{A:Around}{env:Env}{l:cI}{K:Frag}
def pZ (C:Cst hb pr c α s.heap){e:Ww}{fs:List (Str×V)}(i:ae c k=Kf (.inst e dk))(h:ae c dk=Kf (.ns fs)) :∃o b ep,InstAt s.heap (α k) {cls:=.ref e,dict:=Kf (α dk)} e (Kf o)/\s.heap.get? (α dk)=Kf o/\o.data=.dict b ep/\StrKeys b/\b.size=fs.length/\∀x,match look fs x with
    |some v=>∃w,nsFind b x=Kf w/\a7 c α s.heap v w|none=>nsFind b x=Wq:=by
 obtain⟨j,r⟩:=C.cell k _ i;obtain⟨o,b,ep,g,p,q,sz,f⟩:=C.cell dk _ h;exact⟨o,b,ep,⟨j,rfl,rfl,g⟩,g,p,q,sz,f⟩
noncomputable def kQ:V->Bool
 | .val u=>handedIn u| .bi _=>false|_=>true
def xI (e:kQ v=true)(i:a7 c α h v g):handedIn g=true:=by cases v with|d x=>cases i<;>rfl|obj k=>rw[i.1];rfl|val u=>subst i;exact e|rng p q=>obtain⟨r,_,_,_,e,_⟩:=i;rw[e];rfl|bi b=>contradiction|mt e=>obtain⟨r,e,_⟩:=i;rw[e];rfl
def yZ (F:Fst hb pr env l c α s.heap)(X:K.In hb){e:Ww}{fs:List (Str×V)}(p:ae c k=Kf (.inst e dk))(h:ae c dk=Kf (.ns fs))(j:ClsOk K e){b:Str} (q:findIn K (.ref e) b=Kf Wq) {v:V} (r:look fs b=Kf v) (t:kQ v=true) {expr:Bool}{Q:Wx->Wj->Prop} (x:∀g y,a7 c α s.heap v g->Q g {s with toks:=y}):wpAny (model prog w) A (getAttr (.ref<|α k) b expr) Q no s:=by obtain⟨o,L,M,I,g,z,G,sz,f⟩:=pZ F.toCst p h;have:=f b;rw[r] at this;obtain⟨u,J,i⟩:=this;exact get_value (X.keeps F.base) I j.ga (findObj_own j.hd q rfl<|ii z G J) (xI t i)<|x u _ i
def qJ (F:Fst hb pr env l c α s.heap)(X:K.In hb){e:Ww}{fs:List (Str×V)}(j:ae c k=Kf (.inst e dk))(h:ae c dk=Kf (.ns fs))(i:ClsOk K e){b:Str} {f:Ww} (p:findIn K (.ref e) b=Kf (Kf<|.ref f)) (q:typeIn K (.ref f)=Kf (.type "function")) (r:look fs b=Wq) {t:Sem Bool}{Q:Wx×List Wx->Wj->Prop} (u:Q (.ref f,[.ref<|α k]) s):wpAny (model prog w) A (getMethod (.ref<|α k) b t) Q no s:=by obtain⟨o,G,J,I,g,x,y,sz,z⟩:=pZ F.toCst j h;have:=z b;rw[r] at this;exact method_fn (X.keeps F.base) I i.ga i.gk p q (by unfold shadowIn;dsimp only;rw[ii x y this];rfl) u
def kB {name:Str}{hash:Int}{key v:Wx}{o:Obj}{b:Array DictEntry}(G:o.data=.dict b ep)(k:∃t,key=.str name t)(z:StrKeys b) :∃f q,(Obj.putName name hash key v o).data=.dict f q/\StrKeys f/\f.size=(if (nsFind b name).isSome then b.size else b.size+1)/\∀x,nsFind f x=if x=name then Kf v else nsFind b x:=by
 obtain⟨t,rfl⟩:=k;obtain⟨L,M,P,sl⟩:=o;subst G
 cases j:b.findIdx? (·.key.isStr name) with
 |some i=>
  have r:(nsFind b name).isSome=true:=by unfold nsFind findBy;cases p:b.find? (·.key.isStr name) with|some _=>rfl|none=>rw[Array.find?_eq_none] at p;obtain⟨u,I,_⟩:=Array.findIdx?_eq_some_iff_getElem.mp j;exact absurd I<|p _<|Array.getElem_mem u
  refine⟨_,ep,by simp only[Obj.putName_eq,Obj.putNameByArray,j];rfl,z.modify _ _,by rw[r];simp,λ x=>?_⟩;exact findBy_modify (λ n v=>v.isStr n) Value.isStr_inj b name x v i j
 |none=>
  have r:(nsFind b name).isSome=false:=by
   unfold nsFind findBy;have p:b.find? (·.key.isStr name)=Wq:=by rw[Array.find?_eq_none];intro e J;simpa using Array.findIdx?_eq_none_iff.mp j e J
   show ((b.find? (·.key.isStr name)).map _).isSome=false;rw[p];rfl
  refine⟨_,ep+1,by simp only[Obj.putName_eq,Obj.putNameByArray,j];rfl,z.push _ _ _ _,by rw[r];simp,λ x=>?_⟩;exact findBy_push (λ n v=>v.isStr n) b name x _ _ v (λ y=>by show (name==y)=decide (y=name);by_cases h:y=name;subst h;simp;have:¬name=y:=λ e=>h e.symm;simp[h,this]) j
def jx {β:Type}(fs:List<|Str×β)(x:Str)(v:β):(a6 fs x v).length=if (look fs x).isSome then fs.length else fs.length+1:=by
 induction fs with|nil=>rfl|cons p r ih=>
  obtain⟨y,u⟩:=p;show (if y=x then (y,v)::r else (y,u)::a6 r x v).length=if (if y=x then Kf u else look r x).isSome then r.length+1 else r.length+1+1
  by_cases e:y=x;rw[Wy e,Wy e];rfl;rw[Wg e,Wg e,Qz,ih];cases (look r x).isSome<;>rfl
def fF (F:Fst hb pr env l c α s.heap)(X:K.In hb){G:Ww}{fs:List (Str×V)}(hk:ae c k=Kf (.inst G dk))(r:ae c dk=Kf (.ns fs))(J:ClsOk K G){f:Str} (hn:findIn K (.ref G) f=Kf Wq) (hsz:fs.length<=1000) {v:V} {g:Wx} (i:a7 c α s.heap v g){Q:Unit->Wj->Prop} (hq:∀h' tk,Fst hb pr env l (cset c dk<|.ns<|a6 fs f v) α h'->Le c α s.heap (cset c dk<|.ns<|a6 fs f v) α h'->Q () {s with heap:=h',toks:=tk}) :wpAny (model prog w) A (setAttr (.ref<|α k) f g) Q no s:=by
 obtain⟨o,es,ep,I,M,hd,sk,sz,fi⟩:=pZ F.toCst hk r;have P:=X.keeps F.base;have j:(nsFind es f).isSome=(look fs f).isSome:=by have:=fi f;cases hl:look fs f with|none=>rw[hl] at this;rw[this];rfl|some u=>rw[hl] at this;obtain⟨w,R,_⟩:=this;rw[R];rfl
 obtain⟨T,U,W,Y,y,p⟩:=kB (hash:=PyData.keyHash w.params f) (v:=g) hd ⟨s.toks+1,rfl⟩ sk (name:=f);have ht:takerIn K G f=Kf Wq:=by unfold takerIn;rw[hn];rfl
 refine set_plain P I J.sa<|osa_open (s:={s with toks:=s.toks+1}) P I J.po ht λ b=>?_;obtain⟨cd,hc,hd'⟩:=any_some J.hd;have hfreed:(Obj.putName f (PyData.keyHash w.params f) (.str f<|s.toks+1) g o).isFreed=false:=Obj.isFreed_of_dict W;have D':(s.heap.update (α dk)<|Obj.putName f (PyData.keyHash w.params f) (.str f<|s.toks+1) g).get? (α dk)=Kf (Obj.putName f (PyData.keyHash w.params f) (.str f<|s.toks+1) g o):=Heap.get?_update_self _ M hfreed;have q:=I.at_;refine Zb<|Zp<|Zb<|Zb<|wpAny_loadPart q<|Zb<|Looks.here (s:={s with toks:=s.toks+1}) (looks_clsIn P hc) ?_;rw[hd'];refine Zp (a:=Kf<|α dk)<|Zb<|Zp<|Zb ?_;unfold nsSet;refine Zb<|Zb<|wpAny_askSetting<|Zp<|Zb<|wpAny_mkText<|Zb<|wpAny_loadPart M ?_;rw[hd];dsimp only;have z:es.any (·.refKey)=false:=by rw[Array.any_eq_false'];intro e he;obtain⟨n,t,h⟩:=sk e he;simp[DictEntry.refKey,h]
 rw[aRefKeyMayBeTheName_at,z,Bool.and_false];refine wpAny_updatePart M ?_;refine Zb<|wpAny_lookBehind D' (by rw[W];exact pastItsLine_dict<|by rw[y,sizeLine_eq];split<;>omega) ?_;have hdm:dk∈dom c:=aj r;obtain⟨F',L'⟩:=F.set hdm (o:=.ns (a6 fs f v)) (Heap.SameBut.update s.heap (α dk) (Obj.putName f (PyData.keyHash w.params f) (.str f (s.toks+1)) g)) (λ L=>by refine⟨_,T,U,D',W,Y,?_,λ x=>?_⟩;rw[y,jx,j,sz];rw[dG];have:=fi x;by_cases q:x=f;rw[Wy q];exact⟨g,by rw[p,Wy q],L.isV i⟩;rw[Wg q];cases hl:look fs x with|none=>rw[hl] at this;dsimp only;rw[p,Wg q];exact this|some u=>rw[hl] at this;obtain⟨w,R,h2⟩:=this;exact⟨w,by rw[p,Wg q];exact R,L.isV h2⟩);exact Zp<|hq _ _ F' L'
end
structure Room (d:Nat)(A:Around):Prop where
 handled:A.handled=Wq
 depth:A.depth+d<recursionLimit
 units:A.units+10*d+200<cLine
theorem Room.deeper {d:Nat}{A:Around}(r:Room (d+1) A)(env:Env):Room d (A.deeper env):=by refine⟨r.handled,?_,?_⟩;have:=r.depth;show A.depth+1+d<recursionLimit;exact {this};have:=r.units;show A.units+3+10*d+200<cLine;exact {this}
def Room.less {d b:Nat}{A:Around}(r:Room d A)(h:b<=d):Room b A:=⟨r.handled,by have:=r.depth;exact {h,this},by have:=r.units;exact {(Xx 10 h),this}⟩
def Room.hu {d:Nat}{A:Around}(r:Room d A):A.units+64<cLine:=by have:=r.units;exact {this}
def Room.room {d:Nat}{A:Around}(r:Room d A):A.depth<recursionLimit:=by have:=r.depth;exact {this}
abbrev Spec:=List V->aa->(V->aa->Prop)->Prop
def FnOk (prog:Program)(w:Wv)(hb:Wu)(d:Nat)(a:Ww)(spec:Spec):Prop:=
 ∀(A:Around),Room d A->∀(vs:List V) (ws:List Wx) (c:aa) (α:Al) (s:Wj) (K:V->aa->Prop) (R:Result->Wj->Prop),
  1<=s.toks->Cst hb [] c α s.heap->IsVs c α s.heap vs ws->spec vs c K->
  (∀v c' α' g h' tk,K v c'->Cst hb [] c' α' h'->Le c α s.heap c' α' h'->a7 c' α' h' v g->R (.ok<|.ret g) {s with heap:=h',toks:=tk})->
  codeAny (model prog w) A (.call (.ref a) ⟨ws,[]⟩) R s
theorem IsVs.length :∀{vs:List V} {ws:List Wx},IsVs c α h vs ws->vs.length=ws.length:=by intro vs ws i;induction i with|nil=>rfl|cons _ _ ih=>exact congrArg Nat.succ ih
def ue :∀(b:List<|Str×Wx) (m:Str->Option Wx) (x:Str),kindOf x=Kf .local->bindL kindOf b m x=match b.reverse.lookup x with|some w=>Kf w|none=>m x:=by intro b;induction b with|nil=>intro m x _;rfl|cons p r ih=>obtain⟨n,v⟩:=p;intro m x f;unfold bindL;rw[ih _ x f];simp only[List.reverse_cons,List.lookup_append,Zq,List.lookup_nil];cases r.reverse.lookup x with|some w=>rfl|none=>dsimp only[Option.none_or];by_cases e:x=n;subst e;simp[f];have h:(x==n)=false:=beq_eq_false_iff_ne.mpr e;rw[h];by_cases hl:kindOf n=Kf .local;simp[hl,e];simp[hl]
def ur :∀(b:List<|Str×Wx) (m:Str->Option Wx) (x:Str),kindOf x≠Kf .local->bindC kindOf b m x=match b.reverse.lookup x with|some w=>Kf w|none=>m x:=by intro b;induction b with|nil=>intro m x _;rfl|cons p r ih=>obtain⟨n,v⟩:=p;intro m x f;unfold bindC;rw[ih _ x f];simp only[List.reverse_cons,List.lookup_append,Zq,List.lookup_nil];cases r.reverse.lookup x with|some w=>rfl|none=>dsimp only[Option.none_or];by_cases e:x=n;subst e;simp[f];have h:(x==n)=false:=beq_eq_false_iff_ne.mpr e;rw[h];by_cases hl:kindOf n=Kf .local;simp[hl];simp[hl,e]
def yf :∀(ps:List Str),ps.Nodup->∀(vs:List V) (ws:List Wx),IsVs c α h vs ws->∀x v,look (ps.zip vs) x=Kf v->∃w,(ps.zip ws).reverse.lookup x=Kf w/\a7 c α h v w:=by
 intro ps
 induction ps with|nil=>intro _ vs ws _ x v e;contradiction|cons p r ih=>
  intro f vs ws i x v e
  cases i with|nil=>contradiction| @cons v0 j vs ws k i=>
   change (if _=_ then _ else look _ _)=_ at e;simp only[List.zip_cons_cons,List.reverse_cons,List.lookup_append,Zq,List.lookup_nil];by_cases b:p=x;rw[Wy b] at e;injection e with e;subst e;have:(r.zip ws).reverse.lookup x=Wq:=by rw[List.lookup_eq_none_iff];intro q l;have o:=List.mem_reverse.mp l;have:=(List.of_mem_zip o).1;simp only[bne_iff_ne,ne_eq];intro e;exact (List.nodup_cons.mp f).1<|by rw[b,e];exact this
   rw[this,b];refine⟨j,by simp,k⟩;rw[Wg b] at e;obtain⟨w,t,u⟩:=ih (List.nodup_cons.mp f).2 vs ws i x v e;exact⟨w,by rw[t];rfl,u⟩
structure FnAt (hb:Wu)(a:Ww)(fd:FuncData)(body:List Stmt)(ps:List Str):Prop where
 at_:∃o,hb.get? a=Kf o/\o.data=.func fd
 lim:hb.NoLimit
 code:hb.CodeRec fd.code fd.qualname
 body:fd.body=.stmts body
 clo:fd.closure=[]
 bind:∀ws:List Wx,ws.length=ps.length->bindArgs fd ⟨ws,[]⟩=pure (ps.zip ws)
 nd:ps.Nodup
 kinds:∀p∈ps,fd.scope.names.lookup p=Kf .local\/(fd.scope.names.lookup p=Kf .cell/\∀n,((cellsFrom n fd.scope.names []).lookup p).isSome=true)
 co:fd.scope.isCoroutine=false
 gen:fd.scope.isGenerator=false
 kind:fd.scope.kind=.function
def lF (names:List<|Str×NameKind):∀(n:Nat) (acc:List<|Str×Ww) (x:Str) (b:Ww),(x,b)∈cellsFrom n names acc->(x,b)∈acc\/n<=b:=by
 induction names with|nil=>intro n acc x b h;exact .inl h|cons q_ r e=>
  obtain⟨name,kind⟩:=q_;intro n acc x b h;unfold cellsFrom at h;split at h;rcases e _ _ x b h with h|h
  rcases Qy.mp h with h|h
  injection h with h h_;subst h h_;exact .inr<|Zv _;exact .inl h;exact .inr<|Nat.le_of_succ_le h;exact e _ _ x b h
def FR {A:Around}{E:Wx->Wj->Prop}{globals:Ww}{n:Str}{v:Wx}{r:List (Str×Wx)}{qual:Str}{func:Option Ww}{code:Wx}{builtins:Ww}{Q:Env->Wj->Prop}(z:scope.kind=.function) (hl:scope.names.lookup n=Kf .local)(h:∀x∈r,scope.names.lookup x.1=Kf .local\/(scope.names.lookup x.1=Kf .cell/\((cellsFrom (s.heap.objs.size+1) scope.names []).lookup x.1).isSome=true))(G:∀env,env=newEnv scope s.heap.objs.size globals (cellsFrom (s.heap.objs.size+1) scope.names []) qual func code Wq builtins->∀s',1<=s'.toks->InCallC s env.locals (bindL env.kindOf ((n,v)::r) λ _=>Wq) env.cells (bindC env.kindOf ((n,v)::r) λ _=>Wq) s'->Q env s') :wpAny M A (newFunctionEnv scope globals [] ((n,v)::r) qual func code Wq builtins) Q E s:=by
 simp only[newFunctionEnv,Option.isSome_none,Bool.false_eq_true,if_false];refine Zb<|wpAny_alloc ?_;refine Zb<|wpAny_layCells _ (λ name kind cells=>by cases q:kind==NameKind.cell<;>simp[q]) _ _ _ _ ?_;have l:=cellsFrom_ok scope.names (s.heap.push {cls:=.type "frame",data:=.dict #[]}) (s.heap.objs.size+1) [] ⟨λ _ _ t=>(nomatch t),List.Pairwise.nil⟩<|by rw[Heap.size_push];exact Zv _
 rw[Heap.size_push] at l;rw[show ({s with heap:=s.heap.push {cls:=.type "frame",data:=.dict #[]}}:Wj).heap.objs.size=s.heap.objs.size+1 from Heap.size_push ..]
 have f:InCallC s s.heap.objs.size (λ _=>Wq) (cellsFrom (s.heap.objs.size+1) scope.names []) (λ _=>Wq) {s with heap:=pushCells (s.heap.push {cls:=.type "frame",data:=.dict #[]}) scope.names}:=
  ⟨⟨⟨_,_,rfl⟩,(Heap.Ns.new s.heap (.type "frame")).keeps (pushCells_keeps _ _),λ b o e=>pushCells_keeps _ _ b o (Xz _ e),Zv _⟩,λ n c p=>(l.empty n c (mem_of_lookup p)).1,l.apart,λ n c t=>(l.empty n c t).2⟩
 rw[List.forIn_cons];refine Zb<|Zb<|Zb ?_;have i:(newEnv scope s.heap.objs.size globals (cellsFrom (s.heap.objs.size+1) scope.names []) qual func code Wq builtins).kindOf n=Kf .local:=hl;refine wpAny_storeName_local i f.toInCall.ns (λ u w j=>?_)<|by show (scope.kind==.class||_)=false;rw[z];rfl
 refine Zp ?_
 have I:InCallC s s.heap.objs.size (λ y=>if y=n then Kf v else Wq) (cellsFrom (s.heap.objs.size+1) scope.names []) (λ _=>Wq) {s with heap:=u,toks:=s.toks+1}:=
  ⟨⟨⟨u,_,rfl⟩,w,λ b o e=>j.extBut b o (Nat.ne_of_lt (Nat.lt_of_lt_of_le (Heap.lt_size e) f.toInCall.fresh)) (f.toInCall.keep b o e),f.toInCall.fresh⟩,λ k c p=>(f.cell k c p).sameBut j (Nat.ne_of_gt (f.above k c (mem_of_lookup p))),f.apart,f.above⟩
 refine aA (s:={s with heap:=u,toks:=s.toks+1}) (Nat.le_add_left 1 _) ?_;refine wpAny_bindParams (s₀:=s) (env:=newEnv scope s.heap.objs.size globals (cellsFrom (s.heap.objs.size+1) scope.names []) qual func code Wq builtins) _ (λ _ _ _=>rfl) z r _ _ _ _ I h λ s' x J=>Zp<|G _ rfl s' J ?_;unfold bindL bindC;rw[Wy i,Wy i];exact x
def kt {w:Wv}{A:Around}{R:Result->Wj->Prop}{o:Obj}{b:FuncData}{binds:List (Str×Wx)}(z:1<=s.toks\/∃n v r,binds=(n,v)::r/\b.scope.names.lookup n=Kf .local)(k:A.depth<recursionLimit) (T:s.heap.get? a=Kf o) (l:o.data=.func b) (j:s.heap.NoLimit) (G:s.heap.CodeRec b.code b.qualname)(p:b.body=.stmts body) (q:bindArgs b ⟨vals,[]⟩=pure binds) (u:b.closure=[])(i:∀x∈binds,b.scope.names.lookup x.1=Kf .local\/(b.scope.names.lookup x.1=Kf .cell/\((cellsFrom (s.heap.objs.size+1) b.scope.names []).lookup x.1).isSome=true))(h:∀I,1<=I.toks->InCallC s (callEnvC b s.heap.objs.size a).locals (bindL (callEnvC b s.heap.objs.size a).kindOf binds λ _=>Wq) (callEnvC b s.heap.objs.size a).cells (bindC (callEnvC b s.heap.objs.size a).kindOf binds λ _=>Wq) I->wpAny (model prog w) (A.deeper<|callEnvC b s.heap.objs.size a) (execs body<|callEnvC b s.heap.objs.size a) (λ f s'=>R (.ok<|.ret<|match f with | .ret v=>v|_=>.none) s') (λ e s'=>wpAny (model prog w) (A.deeper (callEnvC b s.heap.objs.size a)) (leaving (callEnvC b s.heap.objs.size a) e) (λ _ t=>R (.error e) t) (λ U t=>R (.error U) t) s') I)(J:b.scope.isCoroutine=false) (y:b.scope.isGenerator=false) (P:b.scope.kind=.function) :codeAny (model prog w) A (.call (.ref a) ⟨vals,[]⟩) R s:=by
 refine codeAny_call_function k T l J y p G ?_;rw[q,u];rcases z with z|⟨n,v,r,rfl,hl⟩
 refine Zp (aA z<|wpAny_newFunctionEnv_cells P i λ env L s' x=>?_);subst L;exact λ M=>⟨j.keeps x.toInCall.keep,codeAny_func<|h s' M x⟩;refine Zp (FR P hl (λ x W=>i x<|.tail _ W) λ env L s' M x=>?_);subst L;exact⟨j.keeps x.toInCall.keep,codeAny_func<|h s' M x⟩
def KF (prog:Program)(w:Wv)(hb:Wu)(d:Nat)(a:Ww)(spec:Spec):Prop:=
 ∀(A:Around),Room d A->∀(vs:List V) (ws:List Wx) (c:aa) (α:Al) (s:Wj) (K:V->aa->Prop) (R:Result->Wj->Prop),
  Cst hb [] c α s.heap->IsVs c α s.heap vs ws->spec vs c K->
  (∀v c' α' g h' tk,K v c'->Cst hb [] c' α' h'->Le c α s.heap c' α' h'->a7 c' α' h' v g->R (.ok<|.ret g) {s with heap:=h',toks:=tk})->
  codeAny (model prog w) A (.call (.ref a) ⟨ws,[]⟩) R s
def xF {f:FuncData}(N:FnAt hb a f body ps):EnvOk (callEnvC f h.objs.size a):=by
 have cel:∀x b,(callEnvC f h.objs.size a).cells.lookup x=Kf b->h.objs.size+1<=b:=λ x b e=>by
  rcases lF _ _ _ x b (mem_of_lookup e) with h|h
  contradiction;exact h
 have i:=cellsFrom_ok f.scope.names (h.push {cls:=.type "frame",data:=.dict #[]}) (h.objs.size+1) [] ⟨λ _ _ j=>(nomatch j),List.Pairwise.nil⟩<|by rw[Heap.size_push];exact Zv _
 rw[Heap.size_push] at i;exact⟨N.kind,λ x b e q=>by have:=cel x b e;rw[q] at this;exact absurd this (Nat.not_succ_le_self _),λ x y b k l=>name_of_addr i.apart (mem_of_lookup k) (mem_of_lookup l),by show (f.scope.kind==.module&&_)=false;rw[N.kind];rfl⟩
section
variable {w:Wv}{d:Nat}
structure Enter (hb:Wu)(env:Env)(l:cI)(c:aa)(α:Al)(h h₁:Wu):Prop where
 kp:∀b o,h.get? b=Kf o->h₁.get? b=Kf o
 eo:EnvOk env
 F:Fst hb (dom c) env l c α h₁
 no:∀b,iU env b->h.get? b=Wq
def fW {i:FuncData}(N:FnAt hb a i body ps){A:Around}(r:Room (d+1) A){R:Result->Wj->Prop}(J:1<=s.toks\/∃n r,ps=n::r/\i.scope.names.lookup n=Kf .local) (C:Cst hb [] c α s.heap) (iv:IsVs c α s.heap vs ws) (t:vs.length=ps.length)(h:∀z G,1<=G->Enter hb (callEnvC i s.heap.objs.size a) (ps.zip vs) c α s.heap z->wpAny (model prog w) (A.deeper<|callEnvC i s.heap.objs.size a) (execs body<|callEnvC i s.heap.objs.size a) (λ f s'=>R (.ok<|.ret<|match f with | .ret v=>v|_=>.none) s') (λ e s'=>wpAny (model prog w) (A.deeper (callEnvC i s.heap.objs.size a)) (leaving (callEnvC i s.heap.objs.size a) e) (λ _ l=>R (.error e) l) (λ e' l=>R (.error e') l) s') {s with heap:=z,toks:=G}) :codeAny (model prog w) A (.call (.ref a) ⟨ws,[]⟩) R s:=by
 obtain⟨o,ho,hd⟩:=N.at_;have base:=C.base;have EO:EnvOk (callEnvC i s.heap.objs.size a):=xF N;have L:ws.length=ps.length:=by rw[<-iv.length];exact t
 have M:1<=s.toks\/∃n v r,ps.zip ws=(n,v)::r/\i.scope.names.lookup n=Kf .local:=by
  rcases J with J|⟨n,r,rfl,hl⟩
  exact .inl J;cases ws with|nil=>contradiction|cons v ws=>exact .inr ⟨n,v,r.zip ws,rfl,hl⟩
 refine kt M r.room (base _ _ ho) hd (N.lim.keeps base) (N.code.keeps base) N.body (N.bind ws L) N.clo (λ x P=>?_) (λ s₁ T X=>?_) N.co N.gen N.kind;rcases N.kinds x.1 (List.of_mem_zip<|show (x.1,x.2)∈ps.zip ws from P).1 with h|⟨h,q⟩
 exact .inl h;exact .inr ⟨h,q _⟩;obtain⟨z,G,rfl,kp⟩:=X.done;obtain⟨I,L1⟩:=C.keeps kp;have U:∀b,iU (callEnvC i s.heap.objs.size a) b->s.heap.objs.size<=b:=by rintro b (rfl|⟨x,e⟩);exact Zv _;exact Nat.le_of_lt<|X.above x b<|mem_of_lookup e
 have p:∀b,iU (callEnvC i s.heap.objs.size a) b->s.heap.get? b=Wq:=λ b f=>by cases e:s.heap.get? b with|none=>rfl|some o=>exact absurd (Heap.lt_size e)<|Nat.not_lt_of_le<|U b f
 refine h z G T ⟨kp,EO,?_,p⟩;refine⟨⟨I.base,I.cell,I.fresh,I.inj,λ _ j=>j⟩,⟨_,X.toInCall.ns⟩,λ x b e=>?_,λ x v e=>?_,λ b f=>⟨?_,?_⟩⟩;obtain⟨o,W,Y⟩:=X.cell x b e;exact⟨o,_,W,Y⟩;obtain⟨g,hg,ig⟩:=yf ps N.nd vs ws (L1.isVs iv) x v e;refine⟨g,?_,ig⟩;have P:x∈ps:=by have:=mem_of_lookup hg;exact (List.of_mem_zip<|List.mem_reverse.mp this).1
 rcases N.kinds x P with j|⟨j,q⟩
 refine .loc _ j X.toInCall.ns ?_;rw[ue _ _ _ j,hg];have u:(callEnvC i s.heap.objs.size a).kindOf x=Kf .cell:=j;obtain⟨b,y⟩:=Option.isSome_iff_exists.mp<|q<|s.heap.objs.size+1;obtain⟨o,W,Y⟩:=X.cell x b y;refine .cel b o u y W ?_;rw[Y,ur _ _ _ (by rw[u];decide),hg];cases e:hb.get? b with|none=>rfl|some o=>have:=base _ _ e;rw[p b f] at this;contradiction
 intro e_;obtain⟨k,j,e⟩:=e_;obtain⟨q,hq⟩:=C.ex j;rw[e,p b f] at hq;contradiction
def Enter.le {env:Env}{l l':cI}{i:Al}{r:Wu}(E:Enter hb env l c α h r)(p:Fst hb (dom c) env l' c' i h')(t:LeS (dom c) env c α r c' i h')(j:∀k∈dom c,k∈dom c'):Cst hb [] c' i h'/\Le c α h c' i h':=by
 refine⟨⟨p.base,p.cell,p.fresh,p.inj,λ k u=>by cases u⟩,j,t.agree,λ b o e n=>t.kept b o (E.kp b o e) (λ f=>by rw[E.no b f] at e;contradiction) n,λ k u=>?_⟩;rcases t.grow k u with q|q
 exact .inl q;refine .inr ?_;cases e:h.get? (i k) with|none=>rfl|some o=>have x:r.get? (i k)=Wq:=q;rw[E.kp _ _ e] at x;contradiction
end
def C5 {w:Wv}{d:Nat}{e:FuncData}(N:FnAt hb a e body ps){spec:Spec}(h:∀(A:Around),Room d A->∀(L:Ww) (vs:List V) (c:aa) (K:V->aa->Prop),spec vs c K->EnvOk (callEnvC e L a)->vs.length=ps.length/\OkS (model prog w) A hb (dom c) (callEnvC e L a) ⟨ps.zip vs,c⟩ (execs body<|callEnvC e L a) (λ f τ=>(∀k∈dom c,k∈dom τ.c)/\K (match f with | .ret v=>v|_=>.d .none) τ.c)) :∀(A:Around),Room (d+1) A->∀(vs:List V) (ws:List Wx) (c:aa) (α:Al) (s:Wj) (K:V->aa->Prop) (R:Result->Wj->Prop),(1<=s.toks\/∃n r,ps=n::r/\e.scope.names.lookup n=Kf .local)->Cst hb [] c α s.heap->IsVs c α s.heap vs ws->spec vs c K->(∀v c' i g h' y,K v c'->Cst hb [] c' i h'->Le c α s.heap c' i h'->a7 c' i h' v g->R (.ok<|.ret g) {s with heap:=h',toks:=y})->codeAny (model prog w) A (.call (.ref a) ⟨ws,[]⟩) R s:=by intro A r vs ws c α s K R M C P sp q;refine fW N r M C P ?_ λ T y z G=>?_;obtain⟨U⟩:Nonempty (EnvOk<|callEnvC e s.heap.objs.size a):=⟨xF N⟩;exact (h (A.deeper<|callEnvC e s.heap.objs.size a) (r.deeper _) s.heap.objs.size vs c K sp U).1;obtain⟨I,j⟩:=h (A.deeper<|callEnvC e s.heap.objs.size a) (r.deeper _) s.heap.objs.size vs c K sp G.eo;refine Vq (j α {s with heap:=T,toks:=y} (λ f W=>R (.ok<|.ret<|match f with | .ret v=>v|_=>.none) W) z G.F λ f τ i g h' b J l Y LS o=>?_) (λ _ _ x=>x) λ _ _ x=>x.elim;obtain⟨p,l⟩:=l;obtain⟨t,u⟩:=G.le Y LS p;cases f with|next=>subst o;exact q (.d .none) τ.c i .none h' b l t u .none|brk=>subst o;exact q (.d .none) τ.c i .none h' b l t u .none|cont=>subst o;exact q (.d .none) τ.c i .none h' b l t u .none|ret v=>obtain⟨g',rfl,o⟩:=o;exact q v τ.c i g' h' b l t u o
def GL {w:Wv}{d:Nat}{b:FuncData}(N:FnAt hb a b body ps){spec:Spec}(h:∀(A:Around),Room d A->∀(L:Ww) (vs:List V) (c:aa) (K:V->aa->Prop),spec vs c K->EnvOk (callEnvC b L a)->vs.length=ps.length/\OkS (model prog w) A hb (dom c) (callEnvC b L a) ⟨ps.zip vs,c⟩ (execs body<|callEnvC b L a) (λ f τ=>(∀k∈dom c,k∈dom τ.c)/\K (match f with | .ret v=>v|_=>.d .none) τ.c)) :FnOk prog w hb (d+1) a spec:=λ A r vs e c α s K R i C j sp l=>C5 N h A r vs e c α s K R (.inl i) C j sp l
def bB {α:Type}{A:Around}{t:Sem α}{Q:α->Wj->Prop}{E:Wx->Wj->Prop}(h:wpAny M A t Q no s):wpAny M A t Q E s:=
 Vq h (λ _ _ x=>x) (λ _ _ x=>x.elim)
def Jb (c':aa):V->Prop
 | .obj k=>k∈dom c'|_=>True
def vW (c c':aa)(v v':V):Prop:=(v'=v/\Jb c' v)\/∃k xs,v=.obj k/\ae c k=Kf (.list xs)/\v'=.d (.lst xs)/\k∉dom c'
def pd (l:cI)(c c':aa):cI->Prop
 | []=>True| (x,v')::r=>(∃v,look l x=Kf v/\vW c c' v v')/\pd l c c' r
def mA (c c':aa):List (Str×V)->List (Str×V)->Prop
 | [],[]=>True| (x,v)::r,(x',v')::r'=>x'=x/\vW c c' v v'/\mA c c' r r'|_,_=>False
def oW (c c':aa)(o o':O):Prop:=
 match o,o' with| .list xs,.list xs'=>xs'=xs| .ns fs,.ns fs'=>mA c c' fs fs'| .inst C dk,.inst C' dk'=>C'=C/\dk'=dk/\dk∈dom c'| .bound id k,.bound id' k'=>id'=id/\k'=k/\k∈dom c'|_,_=>False
def cK (c c':aa):aa->Prop
 | []=>True| (k,o')::r=>(∃o,ae c k=Kf o/\oW c c' o o')/\cK c c' r
structure Weak (pr:List Nat)(σ τ:Sg):Prop where
 l:pd σ.l σ.c τ.c τ.l
 c:cK σ.c τ.c τ.c
 pr:∀k∈pr,k∈dom τ.c
section
variable {env:Env}
def dN {r:aa}:cK c c' r->∀k∈dom r,k∈dom c:=by
 induction r with|nil=>intro _ k b;cases b|cons q_ r rH=>
  obtain⟨j,o⟩:=q_;intro h k b;rcases Qy.mp b with e|b
  obtain⟨⟨o,f,_⟩,_⟩:=h;simp only[e];exact aj f;exact rH h.2 k b
def vi {r:aa}:cK c c' r->∀k b,ae r k=Kf b->∃o,ae c k=Kf o/\oW c c' o b:=by induction r with|nil=>intro _ k b e;contradiction|cons q_ r rH=>obtain⟨j,u⟩:=q_;intro h k b e;dsimp only[ae] at e;by_cases q:j=k;rw[Wy q] at e;injection e with e;subst e;rw[<-q];exact h.1;rw[Wg q] at e;exact rH h.2 k b e
def wA {l:cI}{r:cI}:pd l c c' r->∀x v',look r x=Kf v'->∃v,look l x=Kf v/\vW c c' v v':=by induction r with|nil=>intro _ x v' e;contradiction|cons q_ r rH=>obtain⟨y,u⟩:=q_;intro h x v' e;dsimp only[look] at e;by_cases q:y=x;rw[Wy q] at e;injection e with e;subst e;rw[<-q];exact h.1;rw[Wg q] at e;exact rH h.2 x v' e
theorem oC :∀{fs b:List (Str×V)},mA c c' fs b->b.length=fs.length/\∀x,match look b x with
  |some v'=>∃v,look fs x=Kf v/\vW c c' v v'|none=>look fs x=Wq
 | [],[],_=>⟨rfl,λ x=>rfl⟩| (y,v)::r,(y',v')::r',h=>by obtain⟨e,f,i⟩:=h;subst e;obtain⟨j,k⟩:=oC i;refine⟨by simp[j],λ x=>?_⟩;dsimp only[look];by_cases q:y'=x;rw[Wy q,Wy q];exact⟨v,rfl,f⟩;rw[Wg q,Wg q];exact k x| [],_::_,h=>h.elim|_::_,[],h=>h.elim
def mZ (f:∀k∈dom c',k∈dom c)(o:aD c' α b):aD c α b:=by obtain⟨k,i,e⟩:=o;exact⟨k,f k i,e⟩
def n8 (C:Cst hb pr c α h)(f:∀k∈dom c',k∈dom c){v':V}(w:vW c c' v v')(i:a7 c α h v g):a7 c' α h v' g:=by
 rcases w with ⟨rfl,z⟩|⟨k,J,rfl,l,rfl,G⟩
 cases v' with|d x=>exact IsD.step (λ _ _ _ e _=>e) (λ b o=>.inl<|mZ f o) i|obj k=>exact⟨i.1,z⟩|val u=>exact i|rng p q=>obtain⟨r,t,u,v,e,g,n⟩:=i;exact⟨r,t,u,v,e,g,λ o=>n<|mZ f o⟩|bi b=>exact i|mt e=>obtain⟨r,e,m⟩:=i;exact⟨r,e,m.step (λ _ _ _ e _=>e)<|λ b o=>.inl<|mZ f o⟩
 obtain⟨L,M,I,r⟩:=C.cell k _ l;simp only[i.1];refine IsD.lst I ?_<|r.step (λ _ _ _ e _=>e)<|λ b o=>.inl<|mZ f o;intro e_;obtain⟨j,y,e⟩:=e_;exact G<|C.inj j (f j y) k (aj l) e▸y
def Weak.fst {σ τ:Sg}(W:Weak pr σ τ)(F:Fst hb pr env σ.l σ.c α h):Fst hb pr env τ.l τ.c α h:=by
 have p:=dN W.c;refine⟨⟨F.base,λ k y e=>?_,λ k z=>F.fresh k (p k z),λ k z j P=>F.inj k (p k z) j (p j P),W.pr⟩,F.ns,F.cel,λ x M e=>?_,λ b f=>⟨(F.fr b f).1,λ o=>(F.fr b f).2<|mZ p o⟩⟩;obtain⟨o,R,w⟩:=vi W.c k y e;have i:=F.cell k o R
 cases o with
 |list T=>cases y<;>first|exact w.elim | (have w:_=T:=w;subst w;obtain⟨U,G,g,r⟩:=i;exact⟨U,G,g,r.step (λ _ _ _ e _=>e)<|λ b o=>.inl<|mZ p o⟩)
 |ns fs=>
  cases y with
  |ns fs'=>refine bc λ G9 t=>?_;obtain⟨q,Y,G,g,I,sk,sz,f⟩:=i;refine t ?_;obtain⟨h1,h2⟩:=oC<|show mA σ.c τ.c fs fs' from w;refine⟨q,Y,G,g,I,sk,by simp only[h1];exact sz,λ x=>?_⟩;have a:=f x;have b:=h2 x;cases hl:look fs' x with|none=>simp only[hl] at b;rw[b] at a;exact a|some M=>simp only[hl] at b;obtain⟨v,J,hw⟩:=b;simp only[J] at a;obtain⟨u,hu,iu⟩:=a;exact⟨u,hu,n8 F.toCst p hw iu⟩
  |_=>exact w.elim
 |inst C dk=>cases y<;>first|exact w.elim | (obtain⟨rfl,rfl,L⟩:=(show _=C/\_=dk/\dk∈dom τ.c from w);exact⟨i.1,L⟩)
 |bound id k=>cases y<;>first|exact w.elim | (obtain⟨rfl,rfl,L⟩:=(show _=id/\_=k/\k∈dom τ.c from w);exact⟨i.1,L⟩)
 obtain⟨v,J,w⟩:=wA W.l x M e;obtain⟨g,H,i⟩:=F.loc x v J;exact⟨g,H,n8 F.toCst p w i⟩
def Weak.leS {σ τ:Sg}(W:Weak pr σ τ){b:aa}{e:Al}{f:Wu}(L:LeS pr env b e f σ.c α h):LeS pr env b e f τ.c α h:=
 ⟨L.agree,L.kept,λ k i=>L.grow k<|dN W.c k i⟩
end
section
variable {w:Wv}{A:Around}{env:Env}
def LeS.isD {l:cI}{j:Al}(F:Fst hb pr env l c α h)(L:LeS pr env c α h c' j h'){d:D}(i:IsD h (aD c α) d g):IsD h' (aD c' j) d g:=by refine i.step (λ b o p e n=>L.kept b o e (λ f=>a4 F f o p e) n)<|λ b ⟨k,q,e⟩=>e▸L.grow k q
theorem uT {σ:Sg}{test:Wz}{orelse:List Stmt}{K:F->Sg->Prop}(I:Nat->Sg->Prop)(k:Nat)(h0:I k σ)(turn:∀k τ,I k τ->OkE (model prog w) A hb pr env (λ _ _ _ b g=>g=b) τ.l τ.c (isTrue test env (eval test env)) (λ b c'=> (b=true->OkS (model prog w) A hb pr env ⟨τ.l,c'⟩ (execs body env) (λ f υ=>match f with
    | .next | .cont=>∃k' x,k'<k/\Weak pr υ x/\I k' x| .brk=>K .next υ| .ret v=>K (.ret v) υ))/\
   (b=false->OkS (model prog w) A hb pr env ⟨τ.l,c'⟩ (execs orelse env) K))) :
  OkS (model prog w) A hb pr env σ (exec (.While test body orelse pos) env) K:=by
 intro α s Q hs F0 R;refine wpAny_While<|codeAny_whileLoop (λ k s'=>∃τ M P T,s'={s with heap:=P,toks:=T}/\1<=T/\I k τ/\Fst hb pr env τ.l τ.c M P/\LeS pr env σ.c α s.heap τ.c M P) ?_ k ⟨σ,α,s.heap,s.toks,rfl,hs,h0,F0,.refl ..⟩;intro k s' e_;obtain⟨τ,M,P,T,rfl,U,hI,F,L⟩:=e_;refine bB<|turn k τ hI M _ _ U F λ b c1 α1 g h1 tk1 p hK Y L1 e=>?_;subst e;have J:=L.trans (L1.leS F.toCst)<|λ b f=>(Y.fr b f).2
 cases g with
 |true=>simp only[Wy rfl];refine bB<|hK.1 rfl α1 _ _ p Y λ f υ y g2 z i h j q L2 G=>?_;have o:=J.trans L2<|λ b f=>(q.fr b f).2;cases f with|next=>subst G;obtain⟨k',x,r,W,t⟩:=j;exact⟨k',r,x,y,z,i,rfl,h,t,W.fst q,W.leS o⟩|cont=>subst G;obtain⟨k',x,r,W,t⟩:=j;exact⟨k',r,x,y,z,i,rfl,h,t,W.fst q,W.leS o⟩|brk=>subst G;exact R .next υ y .next z i h j q o rfl|ret v=>obtain⟨u,rfl,iu⟩:=G;exact R (.ret v) υ y (.ret u) z i h j q o ⟨u,rfl,iu⟩
 |false=>rw[Wg<|{4}];refine bB<|hK.2 rfl α1 _ _ p Y λ f υ y g2 z i h j q L2 G=>?_;exact R f υ y g2 z i h j q (J.trans L2<|λ b f=>(q.fr b f).2) G
noncomputable def db (a b:Int):List D:=(List.range (b-a).toNat).map λ i=>D.int<|a+(i:Nat)
def cX:V->Option (List D)
 | .d (.lst xs)=>Kf xs| .d (.tup xs)=>Kf xs| .d (.str x)=>Kf<|x.cps.toList.map λ c=>.str ⟨#[c]⟩
 | .rng a b=>Kf<|db a b|_=>Wq
def mq (prog:Program)(w:Wv)(s:Wj)(c:aa)(α:Al)(xs:List D)(I:Ww)(h1:Wu):Prop:=
 ∃fp P St,(∀A':Around,A'.handled=Wq->Walks prog w A' I fp [I] xs.length P St)/\St 0 h1/\(∀i h,St i h->(∃o,h.get? I=Kf o)/\∀o,dT o=true->h.get? I≠Kf o)/\
  (∀b∈fp,b=I\/∃o,dT o=true/\s.heap.get? b=Kf o/\¬aD c α b)/\(∀i u,P i u->∀d,xs[i]?=Kf d->IsD s.heap (aD c α) d u)
def gN:V->Prop
 | .rng a b=>-1048576<=a/\a<=1048576/\-1048576<=b/\b<=1048576| .d (.str x)=>x.cps.all (·<128)=true|_=>True
def wY {I:Ww}{Y:Ww->Prop}(e:Y a):∀b∈[I,a],b=I\/Y b:=λ b hb=>(Qy.mp hb).imp id λ q=>by rw[Zw.mp q];exact e
def wQ (r:IsDs h own xs ws){u:Wx}(b:ws.toArray[i]?=Kf u)(d:D)(e:xs[i]?=Kf d):IsD h own d u:=by
 obtain⟨w,f,j⟩:=r.get i d e;have:Kf w=Kf u:=by rw[<-f,<-b];simp
 exact Option.some.inj this▸j
def rU {I:Ww}{o:Obj}{T:String}(i:(Value.type T==.type "range" || Value.type T==.type "re.Match")=false) (f:h.get? I=Kf o) (j:o.cls=.type T) {fs:Array Wx} (k:o.data=.fields fs):(∃o,h.get? I=Kf o)/\∀o,dT o=true->h.get? I≠Kf o:=by refine⟨⟨o,f⟩,λ l b e=>?_⟩;obtain rfl:=Option.some.inj<|f.symm.trans e;unfold dT at b;rw[k] at b;have b:(o.cls==.type "range" || o.cls==.type "re.Match")=true:=b;rw[j,i] at b;contradiction
section
variable {Q:Wx->Wj->Prop}
def wi (g:s.heap.get? a=Kf (bp "list" ws ep)) (n:¬aD c α a) (r:IsDs s.heap (aD c α) xs ws) (f:∀o,mq prog w s c α xs s.heap.objs.size (s.heap.push o)->Q (.ref s.heap.objs.size) {s with heap:=s.heap.push o}):wpAny (model prog w) A (pyIter<|.ref a) Q no s:=by
 have hl:s.heap.IsList a ws.toArray:=⟨_,g,rfl,_,rfl⟩;have b:ws.toArray.size=xs.length:=by rw[Xq,<-r.length]
 exact wpAny_pyIter_list hl (f _ ⟨_,_,_,λ t j=>b▸Walks.list j s.heap.objs.size a (Nat.ne_of_lt (Heap.lt_size g)) ws.toArray,⟨⟨_,Xj _ rfl,rfl,rfl⟩,hl.push _⟩,λ i h q=>by obtain⟨⟨o,k,l,e⟩,_⟩:=q;exact rU {4} k l e,wY ⟨_,rfl,g,n⟩,λ i u p d e=>wQ r p d e⟩)
def uW (g:s.heap.get? a=Kf (bp "tuple" ws ep)) (n:¬aD c α a) (r:IsDs s.heap (aD c α) xs ws) (f:∀o,mq prog w s c α xs s.heap.objs.size (s.heap.push o)->Q (.ref s.heap.objs.size) {s with heap:=s.heap.push o}):wpAny (model prog w) A (pyIter<|.ref a) Q no s:=by
 have hl:s.heap.IsTuple a ws.toArray:=⟨_,g,rfl,_,rfl⟩;have b:ws.toArray.size=xs.length:=by rw[Xq,<-r.length]
 exact wpAny_pyIter_tuple hl (f _ ⟨_,_,_,λ t j=>b▸Walks.tuple j s.heap.objs.size a (Nat.ne_of_lt (Heap.lt_size g)) ws.toArray,⟨⟨_,Xj _ rfl,rfl,rfl⟩,⟨_,Xz _ g,rfl,_,rfl⟩⟩,λ i h q=>by obtain⟨⟨o,k,l,e⟩,_⟩:=q;exact rU {4} k l e,wY ⟨_,rfl,g,n⟩,λ i u p d e=>wQ r p d e⟩)
end
def xK (l:x.cps.all (·<128)=true){Q:Wx->Wj->Prop}(p:∀o,mq prog w s c α (x.cps.toList.map λ c=>D.str ⟨#[c]⟩) s.heap.objs.size (s.heap.push o)->Q (.ref s.heap.objs.size) {s with heap:=s.heap.push o}):wpAny (model prog w) A (pyIter<|.str x t) Q no s:=by
 have f:x.cps.size=(x.cps.toList.map λ c=>D.str ⟨#[c]⟩).length:=by simp
 refine wpAny_pyIter_ascii l<|p _ ⟨_,_,_,λ z r=>f▸Walks.strAscii r s.heap.objs.size x t,⟨_,Xj _ rfl,rfl,rfl⟩,λ i h q=>by obtain⟨o,y,j,e⟩:=q;exact rU (T:="str_ascii_iterator") {4} y j e,λ b k=>.inl (Zw.mp k),?_⟩;intro i u e_;obtain⟨ch,G,j,rfl⟩:=e_;intro d e;have:d=.str ⟨#[ch]⟩:=by rw[Xy,Array.getElem?_toList,j] at e;exact (Option.some.inj e).symm
 rw[this];exact .str _ _
def ru (C:Cst hb pr c α s.heap)(e:cX v=Kf xs)(f:gN v)(i:a7 c α s.heap v g){Q:Wx->Wj->Prop}(l:∀o,mq prog w s c α xs s.heap.objs.size (s.heap.push o)->Q (.ref s.heap.objs.size) {s with heap:=s.heap.push o}):wpAny (model prog w) A (pyIter g) Q no s:=by
 cases v with
 |d x=>have i:=IsD.inv i;cases x with|lst ys=>obtain rfl:=Option.some.inj e;obtain⟨z,a,G,rfl,g,n,r⟩:=i;exact wi g n r l|tup ys=>obtain rfl:=Option.some.inj e;obtain⟨z,a,G,rfl,g,n,r⟩:=i;exact uW g n r l|str x=>obtain rfl:=Option.some.inj e;obtain⟨t,rfl⟩:=i;exact xK f l|_=>contradiction
 |rng a b=>
  injection e with e;subst e;obtain⟨r,t,u,v,rfl,g,n⟩:=i;have k:(db a b).length=(b-a).toNat:=by simp[db]
  have I:Builtin.Range.rangeSize a b 1=(((db a b).length:Nat):Int):=by rw[k,rangeSize_one];split;exact (Int.toNat_of_nonneg {0,‹a<b›}).symm;exact (congrArg (Nat.cast (R:=Int))<|Int.toNat_of_nonpos {0,Om.il ‹¬a<b›}).symm
  have f:-1048576<=a/\a<=1048576/\-1048576<=b/\b<=1048576:=f;refine wpAny_pyIter_range g (small_one (Int.le_trans IX.1 f.1) (Int.lt_of_le_of_lt f.2.1 IX.2) (Int.le_trans IX.1 f.2.2.1)<|Int.lt_of_le_of_lt f.2.2.2 IX.2)<|l _ ?_;refine⟨_,_,_,λ P J=>Walks.range J s.heap.objs.size a 1 (db a b).length,?_,?_,?_,?_⟩;show (s.heap.push {cls:=.type "range_iterator",data:=.fields #[rawInt a,rawInt<|Builtin.Range.rangeSize a b 1,rawInt 1]}).get? s.heap.objs.size=Kf _;rw[I,Xj _ rfl];simp;intro i h st;have p:h.get? s.heap.objs.size=Kf _:=st;exact rU (T:="range_iterator") {4} p rfl rfl;intro b q;exact .inl<|Zw.mp q;intro i u e_;obtain⟨t,rfl⟩:=e_;intro d y;have:d=.int (a+(i:Nat)):=by unfold db at y;rw[Xy] at y;obtain⟨j,L,rfl⟩:=Option.map_eq_some_iff.mp y;obtain⟨M,rfl⟩:=Qw.mp L;simp
  simp only[this,Int.mul_one];exact .int _ _
 |_=>contradiction
def jE (env:Env)(x:Str):Prop:=env.kindOf x=Kf .local\/(env.kindOf x=Kf .cell/\∃b,env.cells.lookup x=Kf b)
abbrev FI (hb:Wu) (pr:List Nat) (env:Env) (s:Wj) (c1:aa) (α1:Al) (h1:Wu) (n:Nat) (I:Nat->Sg->Prop) (St:Nat->Wu->Prop) (k:Nat) (s':Wj):Prop:=∃(i:Nat) (τ:Sg) (α':Al) (h':Wu) (tk:Nat),s'={s with heap:=h',toks:=tk}/\1<=tk/\k=n+1-i/\i<=n/\I i τ/\Fst hb pr env τ.l τ.c α' h'/\LeS pr env c1 α1 h1 τ.c α' h'/\¬aD τ.c α' h1.objs.size/\St i h'
def FI.el {h:aa}{j:Al}{f:Wu}{I:Nat->Sg->Prop}{St:Nat->Wu->Prop}{s':Wj}(q:FI hb pr env s h j f n I St k s'){G:Prop}(g:∀(i:Nat) (τ:Sg) (b:Al) (h':Wu) (e:Nat),s'={s with heap:=h',toks:=e}->1<=e->k=n+1-i->i<=n->I i τ->Fst hb pr env τ.l τ.c b h'->LeS pr env h j f τ.c b h'->¬aD τ.c b f.objs.size->St i h'->G):G:=by obtain⟨i,τ,b,h',e,q1,q2,q3,q4,q5,q6,q7,q8,q9⟩:=q;exact g i τ b h' e q1 q2 q3 q4 q5 q6 q7 q8 q9
theorem uV (EO:EnvOk env)(hh:A.handled=Wq){l:cI}{px:Pos}{K:F->Sg->Prop}(hx:jE env x)(hfold:∀v,foldedSetIterable iter env v=pure v)(hi:OkE (model prog w) A hb pr env a7 l c (eval iter env) (λ v M=>gN v/\∃xs,cX v=Kf xs/\∃I:Nat->Sg->Prop,I 0 ⟨l,M⟩/\(∀i d τ,xs[i]?=Kf d->I i τ->OkS (model prog w) A hb pr env ⟨a6 τ.l x (.d d),τ.c⟩ (execs body env) (λ f υ=>match f with
    | .next | .cont=>∃υ',Weak pr υ υ'/\I (i+1) υ'| .brk=>K .next υ| .ret v=>K (.ret v) υ))/\∀τ,I xs.length τ->K .next τ)) :
  OkS (model prog w) A hb pr env ⟨l,c⟩ (exec (.For (.Name x px) iter body [] pos) env) K:=by
 intro α s Q hs F0 hq;refine wpAny_For (hi α s _ hs F0 λ v M α1 g h tk1 htk1 hK T L1 iv=>?_) hfold;refine bc λ G9 p=>?_;obtain⟨sm,xs,hxs,I,r_⟩:=hK;obtain⟨hI0,turn,fin⟩:=r_;refine p ?_;refine ru (s:={s with heap:=h,toks:=tk1}) T.toCst hxs sm iv<|λ o pk=>?_;refine bc λ G9 p=>?_;obtain⟨fp,P,St,W,st0,hns,hfp,hP⟩:=pk;refine p ?_;obtain⟨F2,L2⟩:=T.push o;have hI1:h.get? h.objs.size=Wq:=by cases e:h.get? h.objs.size with|none=>rfl|some o'=>exact absurd (Heap.lt_size e)<|Nat.lt_irrefl _
 have LS1:=L1.leS (env:=env) F0.toCst;have LS2:LeS pr env M α1 h M α1 (h.push o):=L2.leS T.toCst;have nfI:¬iU env h.objs.size:=λ f=>by
  rcases f with f|⟨y,f⟩
  obtain⟨m,hm⟩:=T.ns;exact absurd hm.lt<|by rw[<-f];exact Nat.lt_irrefl _
  obtain⟨o,v,ho,_⟩:=T.cel y _ f;rw[hI1] at ho;contradiction
 have nbI:hb.get? h.objs.size=Wq:=by cases e:hb.get? h.objs.size with|none=>rfl|some o'=>rw[T.base _ _ e] at hI1;contradiction
 refine codeAny_forLoop (FI hb pr env s M α1 h xs.length I St) ?_ (xs.length+1) ⟨0,⟨l,M⟩,α1,h.push o,tk1,rfl,htk1,rfl,Zj _,hI0,F2,LS2,be T.toCst,st0⟩;refine λ k s' q=>q.el λ i τ R h' tk e1 htk e2 hle hI F L noI st=>?_;subst e1;subst e2;obtain⟨_,hnz⟩:=hns i h' st
 have L0:∀{c':aa} {R:Al} {h':Wu} {l':cI},Fst hb pr env l' c' R h'->LeS pr env M α1 h c' R h'->LeS pr env c α s.heap c' R h':=λ F' L'=>
  LS1.trans L' (λ b f=>(F'.fr b f).2)
 have but:∀r:Wu,(∀a o,a∉[h.objs.size]->h'.get? a=Kf o->r.get? a=Kf o)->Fst hb pr env τ.l τ.c R r/\LeS pr env M α1 h τ.c R r:=λ r t=>
  have ks:∀a o,a≠h.objs.size->h'.get? a=Kf o->r.get? a=Kf o:=λ a o n e=>t a o (λ q=>n<|Zw.mp q) e
  ⟨Fst.but hnz ks F noI nfI nbI,L.agree,λ b o' e nf n=>ks b o' (λ q=>by rw[q,hI1] at e;contradiction) (L.kept b o' e nf n),L.grow⟩
 by_cases z:i<xs.length
 ·refine aA htk (bB<|(W A hh).item i _ _ no z st λ v r tk2 hPv st2 t=>?_)
  intro G;obtain⟨F3,L3⟩:=but r t;have hd:xs[i]?=Kf xs[i]:=Qk z;have iv:a7 τ.c R r (.d xs[i]) v:=L3.isD T<|hP i v hPv _ hd;refine Vv<|aA G<|bB<|oH (s:={s with heap:=r,toks:=tk2}) EO F3 hx iv λ h3 tk3 F4 L4=>?_;intro htk3;refine bB<|turn i _ τ hd hI R _ _ htk3 F4 λ f υ α5 g5 h5 U J Y F5 L5 ig=>?_;have L05:LeS pr env M α1 h υ.c α5 h5:=(L3.trans L4<|λ b f=>(F4.fr b f).2).trans L5<|λ b f=>(F5.fr b f).2;obtain⟨⟨o2,ho2⟩,_⟩:=hns (i+1) r st2;have hI4:∀q,r.get? h.objs.size=Kf q->h3.get? h.objs.size=Kf q:=λ q e=>L4.kept _ _ e nfI noI;have noI5:¬aD υ.c α5 h.objs.size:=by
   intro e_;obtain⟨j,hj,e⟩:=e_;rcases L5.grow j hj with q|q
   simp only[e] at q;exact noI q;rw[e] at q;have q:h3.get? h.objs.size=Wq:=q;rw[hI4 _ ho2] at q;contradiction
  have st5:St (i+1) h5:=by
   refine (W A hh).frame _ r h5 st2 λ b hb' o' e=>?_;have nf:¬iU env b:=by
    rcases hfp b hb' with rfl|⟨o₁,hz,g,n⟩
    exact nfI;exact λ f=>a4 T f o₁ hz g
   have nn:¬aD τ.c R b:=by
    rcases hfp b hb' with rfl|⟨o₁,hz,g,n⟩
    exact noI;intro e_;obtain⟨j,hj,e'⟩:=e_;rcases L.grow j hj with q|q
    simp only[e'] at q;exact n q;simp only[e',g] at q;contradiction
   exact L5.kept b o' (L4.kept b o' e nf nn) nf nn
  have more:(∃υ',Weak pr υ υ'/\I (i+1) υ')->∃k',k'<xs.length+1-i/\FI hb pr env s M α1 h xs.length I St k' {s with heap:=h5,toks:=U}:=λ ⟨υ',W',hI'⟩=>
   ⟨_,U10 z,i+1,υ',α5,h5,U,rfl,J,rfl,z,hI',W'.fst F5,W'.leS L05,λ q=>noI5 (mZ (dN W'.c) q),st5⟩
  cases f with|next=>subst ig;exact more Y|cont=>subst ig;exact more Y|brk=>subst ig;exact hq .next υ α5 .next h5 U J Y F5 (L0 F5 L05) rfl|ret v=>obtain⟨u,rfl,iu⟩:=ig;exact hq (.ret v) υ α5 (.ret u) h5 U J Y F5 (L0 F5 L05) ⟨u,rfl,iu⟩
 ·have hin:i=xs.length:=Om.an {hle} {(Om.nl z)};subst hin;refine aA htk<|bB<|(W A hh).done _ _ no st λ r tk2 t=>?_;intro G;obtain⟨F3,L3⟩:=but r t;exact wpAny_execs_nil<|hq .next τ R .next r tk2 G (fin τ hI) F3 (L0 F3 L3) rfl
end
def pL {env:Env}(names:List<|Str×NameKind):∀(acc:List<|Str×Ww),(∀y,(y,NameKind.free)∈names->∃b,env.cells.lookup y=Kf b)->(∀y b,acc.lookup y=Kf b->env.cells.lookup y=Kf b)->∃i,(forIn names acc (λ (x:Str×NameKind) r=>if (x.2==NameKind.free)=true then cellOf env x.1>>=λ a=>pure (ForInStep.yield<|(x.1,a)::r) else pure (ForInStep.yield r)):Sem<|List<|Str×Ww)=pure i/\(∀y b,i.lookup y=Kf b->env.cells.lookup y=Kf b)/\(∀y,(y,NameKind.free)∈names\/(acc.lookup y).isSome=true->(i.lookup y).isSome=true):=by
 induction names with
 |nil=>exact λ acc _ h=>⟨acc,rfl,h,λ y q=>q.elim (λ q=>(Xb q).elim) id⟩
 |cons p r ih=>
  obtain⟨n,k⟩:=p;intro acc j h;rw[List.forIn_cons];by_cases l:(k==NameKind.free)=true;obtain rfl:=beq_iff_eq.mp l;obtain⟨b,w⟩:=j n<|.head _;have e:cellOf env n=pure b:=by unfold cellOf;rw[w]
  obtain⟨i,o,t,u⟩:=ih ((n,b)::acc) (λ y f=>j y (.tail _ f)) (λ y z q=>by rw[Zq] at q;cases f:y==n with|true=>rw[f] at q;rw[beq_iff_eq.mp f,w];exact q|false=>rw[f] at q;exact h y z q);refine⟨i,?_,t,λ y q=>u y ?_⟩;simp only[e];exact o;rcases q with q|q
  rcases Qy.mp q with q|q
  injection q with q _;subst q;right;simp
  exact .inl q;right;rw[Zq];cases f:y==n with|true=>rfl|false=>exact q
  obtain⟨i,o,t,u⟩:=ih acc (λ y f=>j y<|.tail _ f) h;refine⟨i,by dsimp only;rw[Wg l];exact o,t,λ y q=>u y<|q.imp (λ q=>?_) id⟩;rcases Qy.mp q with q|q
  injection q with _ q;subst q;exact absurd rfl l
  exact q
def oN {env:Env}(f:∀y,(y,NameKind.free)∈scope.names->∃b,env.cells.lookup y=Kf b) :∃e,closureFor scope env=pure e/\(∀y b,e.lookup y=Kf b->env.cells.lookup y=Kf b)/\(∀y,(y,NameKind.free)∈scope.names->(e.lookup y).isSome=true):=by
 obtain⟨e,h,i,j⟩:=pL scope.names [] f<|λ y b q=>by contradiction
 refine⟨e,?_,i,λ y k=>j y<|.inl k⟩;unfold closureFor;refine Eq.trans ?_<|congrArg (λ (t:Sem<|List<|Str×Ww)=>t>>=pure) h;rfl
noncomputable def d4 (scope:Scope)(l:cI):cI:=l.filter λ p=>scope.names.lookup p.1==Kf .free
def ol {β:Type}{q:Str×β->Bool}(i:∀x u v,q (x,u)=q (x,v))(l:List<|Str×β):∀(x:Str) (v:β),look (l.filter q) x=Kf v->look l x=Kf v/\q (x,v)=true:=by
 induction l with|nil=>intro _ _ h;cases h|cons q_ r rH=>
  obtain⟨y,u⟩:=q_;intro x v h;rw[List.filter_cons] at h;by_cases b:q (y,u)=true;rw[Wy b] at h;simp only[look] at h ⊢;by_cases e:y=x;rw[Wy e] at h ⊢;cases h;exact⟨rfl,by rw[<-e];exact b⟩;rw[Wg e] at h ⊢;exact rH x v h;rw[Wg b] at h;obtain⟨j,f⟩:=rH x v h;dsimp only[look];have:y≠x:=λ e=>b<|by rw[e,i x u v];exact f
  rw[Wg this];exact⟨j,f⟩
def f9 {l:cI}(h:look (d4 scope l) x=Kf v):look l x=Kf v/\scope.names.lookup x=Kf .free:=by obtain⟨b,e⟩:=ol (λ _ _ _=>rfl) l x v h;exact⟨b,beq_iff_eq.mp e⟩
def fj {env:Env}(j:env.scope.kind=.function){names:List (Str×NameKind)}:∀{x:Str},names.lookup x=Kf .free->env.kindOf x=Kf .cell->(names.map λ (n,k)=>if (k==NameKind.free&&env.scope.kind==.function&&env.kindOf n==Kf .cell) then (n,NameKind.cell) else (n,k)).lookup x=Kf .cell:=by induction names with|nil=>intro _ h _;simp at h|cons q_ r rH=>obtain⟨n,k⟩:=q_;intro x h e;have f:=@rH x;show List.lookup x ((if (k==NameKind.free&&env.scope.kind==.function&&env.kindOf n==Kf .cell)=true then (n,NameKind.cell) else (n,k))::_)=_;cases b:x==n with|true=>simp only[Zq,b] at h;injection h with h;subst h;have:x=n:=beq_iff_eq.mp b;subst this;rw[Wy<|by rw[j,e];rfl];simp|false=>simp only[Zq,b] at h;by_cases i:(k==NameKind.free&&env.scope.kind==.function&&env.kindOf n==Kf .cell)=true;rw[Wy i];simp only[Zq,b];exact f h e;rw[Wg i];simp only[Zq,b];exact f h e
structure ScopeOk (scope:Scope)(x:Str)(env:Env):Prop where
 cell:∀y∈scope.names,y.2≠.cell
 kind:scope.kind=.function
 names:∀y∈scope.names,y.2=.local->scope.names.lookup y.1=Kf .local
 x:scope.names.lookup x=Kf .local
 free:∀y,(y,NameKind.free)∈scope.names->env.kindOf y=Kf .cell/\∃b,env.cells.lookup y=Kf b
def eR {o:O}(b:k∉dom c)(f:O):cset (c++[(k,o)]) k f=c++[(k,f)]:=by induction c with|nil=>show (if k=k then _ else _)=_;rw[Wy rfl];rfl|cons p r ih=>obtain⟨j,u⟩:=p;have h:j≠k:=λ e=>b<|e▸.head _;have i:k∉dom r:=λ e=>b<|.tail _ e;show (if j=k then _ else (j,u)::cset (r++[(k,o)]) k _)=_;rw[Wg h,ih i];rfl
section
variable {w:Wv}{A:Around}{env:Env}
abbrev mB:aa->Al->Wu->Bool->Bool->Prop:=λ _ _ _ b g=>g=b
def xx (j:EnvOk env)(h:ScopeOk scope x env){i:List (Str×Ww)}{C:Ww}(f:∀y b,i.lookup y=Kf b->env.cells.lookup y=Kf b)(k:∀y b,env.cells.lookup y=Kf b->b≠C):EnvOk (compEnvC scope i C env):=
 ⟨h.kind,λ y b e=>k y b (f y b e),λ y z b l o=>j.one y z b (f y b l) (f z b o),by show (scope.kind==.module&&_)=false;rw[h.kind];rfl⟩
def CM (prog:Program)(w:Wv)(A:Around)(hb:Wu)(pr:List Nat)(env:Env)(l:cI)(x:Str)(elt:Wz)(scope:Scope)(kk:Nat)(xs:List D)(Y:Nat->List D->aa->Prop):Prop:=
 ∀i d acc c',xs[i]?=Kf d->Y i acc c'->∀cl C,EnvOk (compEnvC scope cl C env)->
  OkE (model prog w) A hb pr (compEnvC scope cl C env) a7 (a6 (d4 scope l) x<|.d d) (c'++[(kk,.list acc)]) (eval elt<|compEnvC scope cl C env) (λ v c3=>∃d' c4,v=.d d'/\c3=c4++[(kk,.list acc)]/\kk∉dom c4/\Y (i+1) (acc++[d']) c4)
def xA (prog:Program)(w:Wv)(A:Around)(hb:Wu)(pr:List Nat)(env:Env)(l:cI)(x:Str)(elt:Wz)(scope:Scope)(kk:Nat)(v:V)(c1:aa)(K:V->aa->Prop):Prop:=
 gN v/\∃xs,cX v=Kf xs/\xs.length<=big/\kk∉dom c1/\∃Y:Nat->List D->aa->Prop,Y 0 [] c1/\CM prog w A hb pr env l x elt scope kk xs Y/\
  (∀acc c',Y xs.length acc c'->kk∉dom c'/\cK (c'++[(kk,.list acc)]) c' c'/\K (.d<|.lst acc) c')
def oo (h:Wu):h.get? h.objs.size=Wq:=by cases e:h.get? h.objs.size with|none=>rfl|some o'=>exact absurd (Heap.lt_size e)<|Nat.lt_irrefl _
def sq (k:∀o,h.get? b=Kf o->h'.get? b=Kf o)(q:h'.get? b=Wq):h.get? b=Wq:=by cases e:h.get? b with|none=>rfl|some o=>exact (wJ q<|k o e).elim
def gm {l:cI}(F:Fst hb pr env l c α h)(q:h.get? b=Wq):¬iU env b/\¬aD c α b:=by
 refine⟨λ f=>?_,λ ⟨j,k,e⟩=>?_⟩;rcases f with f|⟨y,f⟩
 obtain⟨m,o,p,r,e,_⟩:=F.ns;rw[<-f] at e;exact wJ q e;obtain⟨o,v,i,_⟩:=F.cel y _ f;exact wJ q i;obtain⟨o,i⟩:=F.toCst.ex k;rw[e] at i;exact wJ q i
structure CQ (hb:Wu)(pr:List Nat)(env:Env)(l:cI)(c1:aa)(α1:Al)(h1:Wu)(kk:Nat)(C J:Ww)(c':aa)(acc:List D)(α':Al)(h':Wu):Prop where
 F:Fst hb pr env l (c'++[(kk,.list acc)]) α' h'
 L:Le c1 α1 h1 (c'++[(kk,.list acc)]) α' h'
 nC:¬aD (c'++[(kk,.list acc)]) α' C
 ns:∃m,h'.Ns C m
 at_:α' kk=J
 no:kk∉dom c'
structure CP (hb:Wu)(pr:List Nat)(env:Env)(l:cI)(c1:aa)(α1:Al)(h1:Wu)(kk:Nat)(C J I:Ww)(St:Nat->Wu->Prop)(i:Nat)(c':aa)(acc:List D)(α':Al)(h':Wu):Prop where
 q:CQ hb pr env l c1 α1 h1 kk C J c' acc α' h'
 nI:¬aD (c'++[(kk,.list acc)]) α' I
 st:St i h'
structure CF (prog:Program)(w:Wv)(A:Around)(hb:Wu)(env:Env)(c1:aa)(α1:Al)(h1:Wu)(C I:Ww)(fp:List Ww)(n:Nat)(P:Nat->Wx->Prop)(St:Nat->Wu->Prop):Prop where
 W:Walks prog w A I fp [I] n P St
 ex:∀i h,St i h->(∃o,h.get? I=Kf o)/\∀o,dT o=true->h.get? I≠Kf o
 fp_:∀b∈fp,b=I\/∃o,dT o=true/\h1.get? b=Kf o/\¬aD c1 α1 b
 C1:h1.get? C=Wq
 I1:h1.get? I=Wq
 fC:¬iU env C
 fI:¬iU env I
 bC:hb.get? C=Wq
 bI:hb.get? I=Wq
 IC:I≠C
section
variable {l:cI}{c1:aa}{α1:Al}{h1:Wu}{C J I:Ww}{fp:List Ww}{nn:Nat}{P:Nat->Wx->Prop}{St:Nat->Wu->Prop}{acc:List D}{α':Al}{h2:Wu}
def jq (c':aa)(kk:Nat)(o:O):kk∈dom (c'++[(kk,o)]):=by rw[al];simp
theorem CQ.kept (L:Le c1 α1 h1 (c'++[(kk,.list acc)]) α' h'){f:Ww}(n0:h1.get? f=Wq)(h:∀a o,a≠f->h'.get? a=Kf o->h2.get? a=Kf o):Le c1 α1 h1 (c'++[(kk,.list acc)]) α' h2:=
 ⟨L.dom,L.agree,λ b o e n=>h b o (λ q=>wJ ((congrArg h1.get? q).trans n0) e) (L.kept b o e n),L.grow⟩
section
variable (X:CF prog w A hb env c1 α1 h1 C I fp nn P St)(p:CP hb pr env l c1 α1 h1 kk C J I St i c' acc α' h')
include X p
def CP.butI (b:∀a o,a≠I->h'.get? a=Kf o->h2.get? a=Kf o):CQ hb pr env l c1 α1 h1 kk C J c' acc α' h2:=
 ⟨Fst.but (X.ex i h' p.st).2 b p.q.F p.nI X.fI X.bI,CQ.kept p.q.L X.I1 b,p.q.nC,(by obtain⟨m,o,f,h,e,r⟩:=p.q.ns;exact⟨m,o,f,h,b C o (Ne.symm X.IC) e,r⟩),p.q.at_,p.q.no⟩
theorem CP.fpC (e:b∈fp):b≠C:=λ q=>by
 rcases X.fp_ b e with rfl|⟨f,h,g,n⟩
 exact X.IC q;exact wJ ((congrArg h1.get? q).trans X.C1) g
def CP.butC (nz:∀o,dT o=true->h'.get? C≠Kf o)(f:Heap.SameBut C h' h2)(ns:∃m,h2.Ns C m):CP hb pr env l c1 α1 h1 kk C J I St i c' acc α' h2:=
 ⟨⟨Fst.but nz (cL f) p.q.F p.q.nC X.fC X.bC,CQ.kept p.q.L X.C1<|cL f,p.q.nC,ns,p.q.at_,p.q.no⟩,p.nI,X.W.frame i h' h2 p.st λ b h o e=>cL f b o (CP.fpC X p h) e⟩
theorem CP.fpO {f:aa}{e:List D}{h:Al}(n:¬aD (f++[(kk,.list e)]) h I)(L:Le c1 α1 h1 (f++[(kk,.list e)]) h h2)(k:b∈fp):¬aD (f++[(kk,.list e)]) h b:=by
 rcases X.fp_ b k with rfl|⟨q,r,g,o⟩
 exact n;exact L.not_own g o
theorem CP.le {k:aa}{f:List D}{t:Al}(no:kk∉dom k)(h:Le (c'++[(kk,.list acc)]) α' h' (k++[(kk,.list f)]) t h2)(x:Cst hb pr (k++[(kk,.list f)]) t h2):CP hb pr env l c1 α1 h1 kk C J I St i k f t h2:=by obtain⟨m,o,y,z,e,r⟩:=p.q.ns;obtain⟨⟨M,G⟩,_⟩:=X.ex i h' p.st;exact⟨⟨p.q.F.le h x,p.q.L.trans h,h.not_own e p.q.nC,⟨m,o,y,z,h.kept _ _ e p.q.nC,r⟩,(h.agree kk (jq ..)).trans p.q.at_,no⟩,h.not_own G p.nI,X.W.frame i h' h2 p.st λ b u o e=>h.kept b o e (CP.fpO X p p.nI p.q.L u)⟩
def CP.push {e:Wx}{b:D}(u:IsDs h' (aD (c'++[(kk,.list acc)]) α') acc ws)(x:IsD h' (aD (c'++[(kk,.list acc)]) α') b e)(f:∃ep,h2.get? J=Kf (bp "list" (ws++[e]) ep)) (h:Heap.SameBut J h' h2):CP hb pr env l c1 α1 h1 kk C J I St i c' (acc++[b]) α' h2:=by obtain⟨k,y⟩:=f;have ecs:=eR (o:=.list acc) p.q.no<|.list<|acc++[b];obtain⟨r,t⟩:=p.q.F.set (jq c' kk<|.list acc) (o:=.list<|acc++[b]) (by rw[p.q.at_];exact h)<|λ L=>⟨ws++[e],k,by rw[p.q.at_];exact y,IsDs.append (.cons (L.isD x) .nil)<|L.isDs u⟩;rw[ecs] at r t;exact CP.le X p p.q.no t r.toCst
end
def xz (z:EnvOk env)(G:ScopeOk scope x env){h:List (Str×Ww)}(h2:∀y b,h.lookup y=Kf b->env.cells.lookup y=Kf b)(L:∀y,(y,NameKind.free)∈scope.names->(h.lookup y).isSome=true)(M:hb.get? C=Wq){m:Str->Option Wx} (F:Fst hb pr env l c' α' h') (R:h'.Ns C m) (T:¬aD c' α' C):Fst hb pr (compEnvC scope h C env) (d4 scope l) c' α' h':=by
 refine⟨F.toCst,⟨m,R⟩,λ y b e=>F.cel y b (h2 y b e),λ y v e=>?_,λ b f=>?_⟩;obtain⟨U,p⟩:=f9 e;obtain⟨g,H,i⟩:=F.loc y v U;obtain⟨q,b,k⟩:=G.free y<|mem_of_lookup p;have W:(compEnvC scope h C env).kindOf y=Kf .cell:=fj z.kind p q;have r:h.lookup y=Kf b:=by obtain⟨t,o⟩:=Option.isSome_iff_exists.mp<|L y<|mem_of_lookup p;rw[o,<-k];exact (h2 y t o).symm
 cases H with|loc m' a _ _=>rw[q] at a;contradiction|cel t u a q1 q2 q3=>obtain rfl:=Option.some.inj<|k.symm.trans q1;exact⟨g,.cel b u W r q2 q3,i⟩|free t u a _ _ _=>rw[q] at a;contradiction
 rcases f with f|⟨y,f⟩
 obtain rfl:b=C:=f;exact⟨M,T⟩;exact F.fr b<|.inr ⟨y,h2 y b f⟩
def sY (X:CF prog w A hb env c1 α1 h1 C I fp nn P St)(hn:nn=xs.length){cl:List (Str×Ww)}(EC:EnvOk<|compEnvC scope cl C env)(FI:∀{c':aa} {α':Al} {h':Wu} {m:Str->Option Wx},Fst hb pr env l c' α' h'->h'.Ns C m->¬aD c' α' C->Fst hb pr (compEnvC scope cl C env) (d4 scope l) c' α' h'){x:Str} {px pos:Pos} (SO:ScopeOk scope x env) (G:xs.length<=big) (hP:∀i u,P i u->∀d,xs[i]?=Kf d->IsD h1 (aD c1 α1) d u) {elt iter:Wz} {Y:Nat->List D->aa->Prop} (turn:CM prog w A hb pr env l x elt scope kk xs Y){R:Result->Wj->Prop} {s:Wj} (fin:∀acc c' α' h' z,1<=z->Y xs.length acc c'->CQ hb pr env l c1 α1 h1 kk C J c' acc α' h'->R (.ok .next) {s with heap:=h',toks:=z}){α3:Al} {h3:Wu} {tk3:Nat} (ht3:1<=tk3) (Y0:Y 0 [] c1) (p0:CP hb pr env l c1 α1 h1 kk C J I St 0 c1 [] α3 h3) :codeAny (model prog w) A (.compLoop (.ListComp elt [⟨.Name x px,iter,[],0⟩] scope pos) 0 (.ref I) (.ref J)<|compEnvC scope cl C env) R {s with heap:=h3,toks:=tk3}:=by
 subst hn
 refine codeAny_compLoop_list (λ k s'=>∃(i:Nat) (acc:List D) (c':aa) (α':Al) (h':Wu) (z:Nat),s'={s with heap:=h',toks:=z}/\1<=z/\k=xs.length+1-i/\i<=xs.length/\acc.length<=i/\Y i acc c'/\CP hb pr env l c1 α1 h1 kk C J I St i c' acc α' h') ?_ (xs.length+1)
  ⟨0,[],c1,α3,h3,tk3,rfl,ht3,rfl,Zj _,Zv _,Y0,p0⟩
 intro k s' h9;refine bc λ G9 b=>?_;obtain⟨i,acc,c',α',r_⟩:=h9;obtain⟨h',z,rfl,M,r_⟩:=r_;obtain⟨rfl,hle,r,hI,p⟩:=r_;refine b ?_;by_cases f:i<xs.length;refine aA M (bB<|X.W.item i _ _ no f p.st λ v h2 t hPv st2 y h=>?_);have p2:CP hb pr env l c1 α1 h1 kk C J I St (i+1) c' acc α' h2:=⟨CP.butI X p λ a o n e=>y a o (by simpa using n) e,p.nI,st2⟩;have hd:xs[i]?=Kf xs[i]:=Qk f;obtain⟨m,hm⟩:=p2.q.ns;have FC:=FI p2.q.F hm p.q.nC;refine Vv<|aA h<|bB<|gD (s:={s with heap:=h2,toks:=t}) EC FC (lookup_relabel_local SO.x) (v:=.d xs[i]) (p2.q.L.isD<|hP i v hPv _ hd) λ h5 tk5 F5 hs5 T=>?_;have p5:=CP.butC X p2 (a4 FC<|.inl rfl) hs5 F5.ns;refine bB<|turn i _ acc c' hd hI cl C EC α' _ _ T F5 λ v7 c3 α3' g7 h7 tk7 U hK7 F7 L7 i7=>?_;refine bc λ G9 b=>?_;obtain⟨d',c4,rfl,rfl,hk4,hI4⟩:=hK7;refine b ?_;have p7:=CP.le X p5 hk4 L7 F7.toCst;obtain⟨ws,ep,gk,rk⟩:=F7.toCst.cell kk (.list acc)<|by rw[aY hk4,Wy rfl]
 rw[p7.q.at_] at gk;refine wpAny_list_append_plain (items:=ws.toArray) ⟨ep,gk⟩ (λ h8 hl8 hs8=>?_)<|by rw[Xq,<-rk.length];exact aQ {G,r,f}
 exact⟨_,by exact U10 f,i+1,acc++[d'],c4,α3',h8,tk7,rfl,U,rfl,f,by rw[Qj,List.length_singleton];exact {r},hI4,CP.push X p7 rk i7 (let ⟨ep8,g8⟩:=hl8;⟨ep8,by rw[g8];simp⟩) hs8⟩;have hin:i=xs.length:=Om.an {hle} {(Om.nl f)};subst hin;exact aA M<|bB<|X.W.done _ _ no p.st λ h2 t y h=>fin acc c' α' h2 t h hI<|CP.butI X p λ a o n e=>y a o (by simpa using n) e
def CQ.fin (X:CQ hb pr env l c1 α1 h1 kk C J c' acc α' h')(o:Fst hb pr env l c1 α1 h1)(f:kk∉dom c1)(e:cK (c'++[(kk,.list acc)]) c' c') :Fst hb pr env l c' α' h'/\Le c1 α1 h1 c' α' h'/\a7 c' α' h' (.d<|.lst acc) (.ref J)/\¬aD c' α' C:=by
 have b:∀k∈dom c',k∈dom (c'++[(kk,.list acc)]):=dN e;have p:∀k∈dom c1,k∈dom c':=λ k h=>by
  have h1:=X.L.dom k h;rw[al] at h1;rcases Qu.mp h1 with h1|h1
  exact h1;obtain rfl:k=kk:=by simpa using h1
  exact absurd h f
 have t:Weak pr ⟨l,c'++[(kk,.list acc)]⟩ ⟨[],c'⟩:=⟨trivial,e,λ k f=>p k<|o.prs k f⟩;have r:Le c1 α1 h1 c' α' h':=⟨p,X.L.agree,X.L.kept,λ k f=>X.L.grow k<|b k f⟩;refine⟨o.le r (t.fst X.F).toCst,r,?_,λ q=>X.nC<|mZ b q⟩;have:=n8 (c':=c') X.F.toCst b (v:=.obj kk) (v':=.d<|.lst acc) (g:=.ref<|α' kk) (.inr ⟨kk,acc,rfl,by rw[aY X.no,Wy rfl],rfl,X.no⟩) ⟨rfl,jq ..⟩;rw[X.at_] at this;exact this
end
def sI (EO:EnvOk env)(hh:A.handled=Wq){l:cI}{px cpos:Pos}{elt:Wz}{t:Nat}(i:ScopeOk scope x env){Q':Wx->Wj->Prop} {K:V->aa->Prop} (hs:1<=s.toks) (F0:Fst hb pr env l c α s.heap) (u:∀v,foldedSetIterable iter env v=pure v)(hi:OkE (model prog w) A hb pr env a7 l c (eval iter env)<|λ v I=>xA prog w A hb pr env l x elt scope t v I K)(M:∀v c' J g h' tk C,1<=tk->K v c'->Fst hb pr env l c' J h'->Le c α s.heap c' J h'->a7 c' J h' v g->¬iU env C->¬aD c' J C->hb.get? C=Wq->s.heap.get? C=Wq->(∃m,h'.Ns C m)->compPost (model prog w) A no Wq Q' g C (.ok .next) {s with heap:=h',toks:=tk}) :wpAny (model prog w) A (comprehension (.ListComp elt [⟨.Name x px,iter,[],0⟩] scope pos) scope env cpos (newList []) false (eval iter env) Wq) Q' no s:=by
 obtain⟨cl,hcl,p,T⟩:=oN (scope:=scope) (env:=env)<|λ y hy=>(i.free y hy).2;refine wpAny_comprehension_free rfl u hcl i.kind i.names<|hi α s _ hs F0 λ v I α1 g f U htk1 hK z L1 iv=>?_;refine bc λ G9 h=>?_;obtain⟨sm,xs,hxs,hlen,r_⟩:=hK;obtain⟨G,Y,hY0,turn,fin⟩:=r_;refine h ?_;refine ru (s:={s with heap:=f,toks:=U}) z.toCst hxs sm iv<|λ o pk=>?_;refine bc λ G9 h=>?_;obtain⟨fp,P,St,W,st0,hns,hfp,hP⟩:=pk;refine h ?_;obtain⟨F2,L2⟩:=z.push o;refine wpAny_newObj_type<|wpAny_newFunctionEnv i.cell (by intro y hy;simp at hy) (λ h3 hns3 hsb3=>?_) i.kind;obtain⟨F3,L3⟩:=F2.new (k:=t) G (bp "list" [] 0) (o:=.list [])<|λ L=>⟨[],0,Xj _ rfl,.nil⟩;have hD:fO α1 t (f.push o).objs.size t=(f.push o).objs.size:=Wy rfl;generalize fO α1 t (f.push o).objs.size=α3 at F3 L3 hD;have C3:((f.push o).push<|bp "list" [] 0).get? ((f.push o).push<|bp "list" [] 0).objs.size=Wq:=oo _;have szI:f.objs.size<((f.push o).push<|bp "list" [] 0).objs.size:=by rw[Heap.size_push,Heap.size_push];exact Nat.lt_of_lt_of_le (Nat.lt_succ_self _)<|Nat.le_succ _
 have n1:∀b,((f.push o).push<|bp "list" [] 0).get? b=Wq->f.get? b=Wq:=λ b q=>sq (λ r e=>Xz _<|Xz _ e) q;have k3:∀b r,((f.push o).push<|bp "list" [] 0).get? b=Kf r->h3.get? b=Kf r:=λ b r e=>by rw[hsb3.2 b<|λ q=>wJ (q▸C3) e];exact Xz _ e
 obtain⟨F4,L4⟩:=F3.keeps k3;have I1:=oo f;have nb:∀b,f.get? b=Wq->hb.get? b=Wq:=λ b q=>sq (z.base b) q;have noC:¬aD (I++[(t,.list [])]) α3 ((f.push o).push<|bp "list" [] 0).objs.size:=(gm F3 C3).2;have nfC:=(gm F3 C3).1;have X:CF prog w A hb env I α1 f ((f.push o).push<|bp "list" [] 0).objs.size f.objs.size fp xs.length P St:=⟨W A hh,hns,hfp,n1 _ C3,I1,nfC,(gm z I1).1,nb _<|n1 _ C3,nb _ I1,Nat.ne_of_lt szI⟩;have EC:=xx EO i p (C:=((f.push o).push<|bp "list" [] 0).objs.size) λ y b e q=>nfC<|.inr ⟨y,q▸e⟩;have p0:CP hb pr env l I α1 f t ((f.push o).push<|bp "list" [] 0).objs.size (f.push o).objs.size f.objs.size St 0 I [] α3 h3:=by
  refine⟨⟨F4,L2.trans<|L3.trans L4,noC,⟨_,hns3⟩,hD,G⟩,?_,X.W.frame 0 _ _ st0 λ b _ r e=>k3 b r<|Xz _ e⟩;intro e_;obtain⟨j,hj,e⟩:=e_;rcases L3.grow j hj with q|q
  rw[e] at q;exact (gm z I1).2 q;obtain⟨⟨r,e'⟩,_⟩:=hns 0 _ st0;rw[e] at q;exact wJ q e'
 have loop:=sY (px:=px) (pos:=pos) (iter:=iter) X rfl EC (xz EO i p T X.bC) i hlen hP turn (R:=compPost (model prog w) A no Wq Q' (.ref (f.push o).objs.size) ((f.push o).push (bp "list" [] 0)).objs.size) (s:=s) (λ acc c' J h' tk ht hY q=>by obtain⟨_,hcel,hK⟩:=fin acc c' hY;obtain⟨F',L',iv,nC⟩:=q.fin z G hcel;exact M _ c' J _ h' tk _ ht hK F' (L1.trans L') iv nfC nC X.bC (by cases e:s.heap.get? ((f.push o).push<|bp "list" [] 0).objs.size with|none=>rfl|some r=>by_cases q:aD c α ((f.push o).push<|bp "list" [] 0).objs.size;obtain⟨j,hj,e'⟩:=q;obtain⟨q',hq'⟩:=z.toCst.ex<|L1.dom j hj;rw[L1.agree j hj,e'] at hq';exact (wJ X.C1 hq').elim;exact (wJ X.C1 (L1.kept _ _ e q)).elim) q.ns) (tk3:=U+([]:List (Str×Wx)).length) htk1 hY0 p0;exact codeAny_compStart_list loop<|X.W.self 0 _ _ (notedBy (model prog w) A (compEnvC scope cl ((f.push o).push<|bp "list" [] 0).objs.size env) λ x s'=>compPost (model prog w) A no Wq Q' (.ref (f.push o).objs.size) ((f.push o).push<|bp "list" [] 0).objs.size (.error x) s') p0.st loop
end
def s3 {e:Wz}(h:cN e=false)(r:List Wz)(env:Env):starEach (e::r) env=(false,eval e env)::starEach r env:=by cases e<;>first|rfl|contradiction
def cq (env:Env)(pos:Pos):args.all (λ e=>!cN e)=true->backTo pos (starEach args env)=args.map λ e=>(false,eval e env):=by
 induction args with
 |nil=>exact λ _=>rfl
 |cons e r ih=>intro h;have h:=(Xv _ _).mp h;rw[s3<|by simpa using h.1];exact congrArg ((false,eval e env)::·)<|ih h.2
def cg {A:Around}{f:Wx}{args:List (Bool×Sem Wx)}{Q:Wx->Wj->Prop}{E:Wx->Wj->Prop}(hplain:args.any (·.1)=false)(h:wpAny M A (evalArgs f true args []) (λ a b=>(∃k,Looks M b.heap (keeperOf f) k)/\wpAny M A (call f (first++a.pos) a.kw) Q E b) E s):wpAny M A (callWith pos f first args []) Q E s:=by
 unfold callWith;refine Zb<|Vx<|Vq h (λ x b i=>Zb<|Vj ?_) λ _ _ x=>x;obtain⟨⟨k,j⟩,e⟩:=i
 have tail:∀{t:Sem Wx},wpAny M A t Q E b->wpAny M A (t>>=λ r=>holding [r] point>>=λ _=>pure r) Q E b:=
  λ l=>Zb<|Vq l (λ r u o=>Zb<|Vx<|wpAny_point<|Zp o) λ _ _ x=>x
 have mk:∀v (p:Prop) [Decidable p],wpAny M A (if p then (call f (first++x.pos) x.kw>>=λ r=>holding [r] point>>=λ _=>pure r) else (callMarked v f (first++x.pos) x.kw>>=λ r=>holding [r] point>>=λ _=>pure r)) Q E b:=λ v p _=>by by_cases q:p;rw[Wy q];exact tail e;rw[Wg q];unfold callMarked;exact tail<|Calls.wpAny_keep e
 rw[hplain];refine Zb<|j.here ?_;cases k;exact mk _ _;exact mk _ _;exact tail e;exact tail<|wpAny_operating e
noncomputable def a8 (e:Wz):Bool:=if h:e.ctorIdx=16 then @Expr.Call.elim (λ _=>Bool) e h λ f as _ _=>f.ctorIdx==23&&!as.isEmpty else true
def uK {f:Wz}{b:List Wz}{e:List Keyword}{p:Pos}{i:Str}{env:Env}{t:Sem Wx}(h:(f.ctorIdx==23&&!b.isEmpty)=true):attributeBase (.Call f b e p) i env t=t:=by obtain⟨j,k⟩:=(Xv _ _).mp h;obtain⟨x,q,rfl⟩:=nP<|eq_of_beq j;cases b with|nil=>contradiction|cons a r=>rfl
def sd {A:Around}{Q:Wx->Wj->Prop}{E:Wx->Wj->Prop}{e:Str}{env:Env}{t:Sem Wx}(h:a8 o=true)(b:wpAny M A t Q E s):wpAny M A (attributeBase o e env t) Q E s:=by cases o with|Call f as ks p=>rw[uK h];exact b|_=>exact b
def dJ {A:Around}{Q:Wx->Wj->Prop}{E:Wx->Wj->Prop}{q:Str}{env:Env}(i:a8 o=true)(l:args.all (λ e=>!cN e)=true)
  (j:args.length<30) (b:(apos.endLine==pos.line)=true)
  (h:wpAny M A (eval o env) (λ r t=>wpAny M A (getMethod r q<|do return (<-importBound o env).getD true) (λ p u=>wpAny M A (callWith pos p.1 p.2 (args.map λ e=>(false,eval e env)) []) Q E u) E t) E s) :
  wpAny M A (eval (.Call (.Attribute o q apos) args [] pos) env) Q E s:=by
 rw[arm_eval_Call,cq env pos l]
 refine Zb<|sd i<|Vq h (λ r t w=>Zb<|Vj ?_) λ _ _ e=>e
 have f:methodCallForm (args.length+([]:List Keyword).length) (args.map λ e=>(false,eval e env)) (backToKw pos<|keywordEach [] env)=true:=by
  unfold methodCallForm
  have y:(args.map λ e=>(false,eval e env)).all (λ x=>!x.1)=true:=by simp
  rw[y]
  exact decide_eq_true j
 have k:methodCallPos true o env apos pos=pure pos:=by unfold methodCallPos;simp[b]
 unfold methodCall
 rw[f]
 refine Zb<|Vx<|Vq w (λ p u z=>?_) λ _ _ e=>e
 exact Zb<|Vz k z
section
variable {w:Wv}{A:Around}{env:Env}
def OkArgs (prog:Program)(w:Wv)(A:Around)(hb:Wu)(pr:List Nat)(env:Env)(l:cI):List Wz->aa->(List V->aa->Prop)->Prop
 | [],c,K=>K [] c|e::r,c,K=>OkE (model prog w) A hb pr env a7 l c (eval e env)<|λ v c'=>OkArgs prog w A hb pr env l r c'<|λ vs c''=>K (v::vs) c''
def iV {l:cI}:∀{c:aa} {K:List V->aa->Prop},OkArgs prog w A hb pr env l args c K->OkE (model prog w) A hb pr env IsVs l c (spliced<|args.map λ e=>(false,eval e env)) K:=by
 induction args with
 |nil=>intro c K h;exact λ α s Q i F j=>Calls.spliced_nil<|j [] c α [] s.heap s.toks i h F (.refl ..) .nil
 |cons e r rH=>intro c K h α s Q i F j;refine Calls.spliced_cons<|h α s _ i F λ v I o g J p b q t u x=>?_;refine rH q o _ _ b t λ L M P R T y f k z L2 G=>?_;exact j _ _ _ _ _ _ f k z (u.trans L2)<|.cons (L2.isV x) G
def b4 {l:cI}{f:Wx}{fs:List V}{K:V->aa->Prop}{Q:Wx->Wj->Prop}(hs:1<=s.toks)(F:Fst hb pr env l c α s.heap)(z:IsVs c α s.heap fs first)(i:OkArgs prog w A hb pr env l args c (λ vs c'=>∀q (s':Wj) ws,1<=s'.toks->Fst hb pr env l c' q s'.heap->Le c α s.heap c' q s'.heap->IsVs c' q s'.heap (fs++vs) ws->(∃k,Looks (model prog w) s'.heap (keeperOf f) k)/\∀(Q:Wx->Wj->Prop),(∀v o t g p G,1<=G->K v o->Fst hb pr env l o t p->Le c' q s'.heap o t p->a7 o t p v g->Q g {s' with heap:=p,toks:=G})->wpAny (model prog w) A (call f ws) Q no s'))(hq:∀b c' q g h' G,1<=G->K b c'->Fst hb pr env l c' q h'->Le c α s.heap c' q h'->a7 c' q h' b g->Q g {s with heap:=h',toks:=G}) :wpAny (model prog w) A (callWith pos f first (args.map λ e=>(false,eval e env)) []) Q no s:=by
 have app:∀{c:aa} {α:Al} {h:Wu} {fs vs:List V} {first ws:List Wx},IsVs c α h fs first->IsVs c α h vs ws->IsVs c α h (fs++vs) (first++ws):=by
  intro c α h fs vs first ws a b
  induction a with|nil=>exact b|cons x _ ih=>exact .cons x ih
 refine cg (by simp) ?_;have fin:wpAny (model prog w) A (spliced<|args.map λ e=>(false,eval e env)) (λ ws s₁=>(∃k,Looks (model prog w) s₁.heap (keeperOf f) k)/\wpAny (model prog w) A (call f<|first++ws) Q no s₁) no s:=by refine iV i α s _ hs F λ vs c1 α1 ws h1 J I hK F1 L i1=>?_;obtain⟨M,P⟩:=hK α1 {s with heap:=h1,toks:=J} _ I F1 L<|app (L.isVs z) i1;exact⟨M,P Q λ v R T g U u j y W L2 Y=>hq v R T g U u j y W (L.trans L2) Y⟩
 cases args with|nil=>obtain⟨M,P⟩:=i α s _ hs F (.refl ..)<|app z .nil;exact PySem.evalArgs_none ⟨M,P Q λ v R T g U u j y W L2 Y=>hq v R T g U u j y W L2 Y⟩|cons e r=>exact Calls.evalArgs_plain fin
end
noncomputable def Hw (d:D)(b:Bi):Option Bool:=match d,b with| .int _,.bool=>Kf false| .int _,.int=>Kf true| .bool _,.bool=>Kf true| .bool _,.int=>Kf true| .str _,.bool=>Kf false| .str _,.int=>Kf false| .tup _,.bool=>Kf false|_,_=>Wq
def dI (c:aa)(k:Option Nat)(xs:List D)(K:V->aa->Prop):Prop:=match k with|none=>K (.d<|.lst xs) c|some k=>k∉dom c/\K (.obj k) (c++[(k,.list xs)])
def v1 (vs:List V)(f:V->Prop):Prop:=match vs with
 | []=>False
 |v::r=>(match r with
  | []=>f v|_::_=>False)
def v2 (vs:List V)(f:V->V->Prop):Prop:=match vs with| []=>False|u::r=>v1 r λ v=>f u v
def fu {f:V->Prop}(h:v1 vs f):∃v,vs=[v]/\f v:=by cases vs with|nil=>exact h.elim|cons v r=>cases r with|nil=>exact⟨v,rfl,h⟩|cons _ _=>exact h.elim
def rJ {f:V->V->Prop}(h:v2 vs f):∃u v,vs=[u,v]/\f u v:=by cases vs with|nil=>exact h.elim|cons u r=>obtain⟨v,rfl,h⟩:=fu h;exact⟨u,v,rfl,h⟩
def Bk (c:aa)(v:V)(K:V->aa->Prop):Prop:=match jh v with|some x=>x.length<=big/\K (.d<|.int x.length) c|none=>aC (ca c v) λ p=>p.2.length<=big/\K (.d<|.int p.2.length) c
def GD (u:V)(f:Bi->Prop):Prop:=match u with| .bi b=>f b|_=>False
def vO {f:Bi->Prop}(h:GD u f):∃x,u=.bi x/\f x:=by cases u with|bi x=>exact⟨x,rfl,h⟩|_=>exact h.elim
def zT (c:aa)(u v:V)(K:V->aa->Prop):Prop:=v4 u λ d=>GD v λ b=>aC (Hw d b) λ r=>K (.d<|.bool r) c
def y7 {K:V->aa->Prop}(h:zT c u v K):∃d b r,u=.d d/\v=.bi b/\Hw d b=Kf r/\K (.d<|.bool r) c:=by obtain⟨d,e,h⟩:=cv h;obtain⟨b,f,h⟩:=vO h;obtain⟨r,i,h⟩:=aB h;exact⟨d,b,r,e,f,i,h⟩
def x7 (c:aa)(vs:List V)(K:V->aa->Prop):Prop:=match vs with
 | []=>False
 |u::r=>(match r with
  | []=>fh u u λ b _=>K (.rng 0 b) c
  |_::_=>v2 vs λ u v=>fh u v λ a b=>K (.rng a b) c)
def Ku (c:aa)(k:Option Nat)(b:Bi)(vs:List V)(K:V->aa->Prop):Prop:=match b with
 | .len=>v1 vs λ v=>Bk c v K
 | .isinstance=>v2 vs λ u v=>zT c u v K
 | .max=>v2 vs λ u v=>fh u v λ a b=>K (.d<|.int<|if b > a then b else a) c
 | .min=>v2 vs λ u v=>fh u v λ a b=>K (.d<|.int<|if b<a then b else a) c
 | .list=>v1 vs λ v=>aC (ca c v) λ p=>p.2.length<=big/\dI c k p.2 K
 | .tuple=>v1 vs λ v=>aC (ca c v) λ p=>p.1=false/\p.2.length<=big/\K (.d<|.tup p.2) c
 | .range=>x7 c vs K|_=>False
section
variable {w:Wv}{A:Around}{env:Env}{l:cI}
def Fst.new' (F:Fst hb pr env l c α h)(G:k∉dom c)(y:h.get? a=Wq)(p:∀b o,h.get? b=Kf o->h'.get? b=Kf o){o:O}(z:Le c α h (c++[(k,o)]) (fO α k a) h'->IsO (c++[(k,o)]) (fO α k a) h' a o) :Fst hb pr env l (c++[(k,o)]) (fO α k a) h'/\Le c α h (c++[(k,o)]) (fO α k a) h':=by
 have t:∀j∈dom c,fO α k a j=α j:=λ j f=>by show (if j=k then _ else _)=_;rw[Wg<|λ (e:j=k)=>G<|e▸f]
 have x:fO α k a k=a:=Wy rfl;have L:Le c α h (c++[(k,o)]) (fO α k a) h':=by
  refine⟨λ j f=>by rw[al];exact List.mem_append_left _ f,t,λ b o e _=>p b o e,λ j f=>?_⟩;rw[al] at f;rcases Qu.mp f with f|f
  rw[t j f];exact .inl ⟨j,f,rfl⟩;have:j=k:=by simpa using f
  rw[this,x];exact .inr y
 have C:Cst hb pr (c++[(k,o)]) (fO α k a) h':=by
  refine⟨λ b o e=>p _ _ (F.base b o e),λ j u e=>?_,λ j f=>?_,λ i r j f e=>?_,λ j f=>L.dom j<|F.prs j f⟩;rw[aY G] at e;by_cases f:j=k;rw[Wy f] at e;injection e with e;subst e;rw[f,x];exact z L;rw[Wg f] at e;rw[t j<|aj e];exact L.isO (λ q e=>p _ _ e)<|F.cell j u e;rw[al] at f;rcases Qu.mp f with f|f
  rw[t j f];exact F.fresh j f;have:j=k:=by simpa using f
  rw[this,x];cases e:hb.get? a with|none=>rfl|some o'=>rw[F.base _ _ e] at y;contradiction
  rw[al] at r f;have ne:∀j∈dom c,α j≠a:=λ j f e=>by obtain⟨q,z⟩:=F.toCst.ex f;rw[e,y] at z;contradiction
  rcases Qu.mp r with r|r<;>rcases Qu.mp f with f|f
  rw[t i r,t j f] at e;exact F.inj i r j f e;have:j=k:=by simpa using f
  rw[this,x,t i r] at e;exact absurd e<|ne i r;have:i=k:=by simpa using r
  rw[this,x,t j f] at e;exact absurd e.symm<|ne j f;have I:i=k:=by simpa using r
  have J:j=k:=by simpa using f
  rw[I,J]
 exact⟨F.le L C,L⟩
def rq (h:Wu):h.get? h.objs.size=Wq:=by cases e:h.get? h.objs.size with|none=>rfl|some o'=>exact absurd (Heap.lt_size e)<|Nat.lt_irrefl _
def jg (F:Fst hb pr env l c α s.heap){k:Option Nat}{K:V->aa->Prop}(h:dI c k xs K)(r:IsDs s.heap (aD c α) xs ws)(e:∀b o,s.heap.get? b=Kf o->h'.get? b=Kf o) (q:h'.get? s.heap.objs.size=Kf (bp "list" ws ep)) {Q:Wx->Wj->Prop}(t:∀v c' j g h' f,K v c'->Fst hb pr env l c' j h'->Le c α s.heap c' j h'->a7 c' j h' v g->Q g {s with heap:=h',toks:=f}) (f:Nat):Q (.ref s.heap.objs.size) {s with heap:=h',toks:=f}:=by cases k with|none=>obtain⟨p,i⟩:=F.keeps e;exact t _ c α _ h' f h p i<|.lst q (be F.toCst)<|i.isDs r|some k=>obtain⟨p,i⟩:=F.new' h.1 (rq s.heap) e (o:=.list xs)<|λ L=>⟨ws,ep,q,L.isDs r⟩;exact t _ _ _ _ h' f h.2 p i ⟨by rw[show fO α k s.heap.objs.size k=s.heap.objs.size from Wy rfl],by rw[al];simp⟩
section
variable (F:Fst hb pr env l c α s.heap){K:V->aa->Prop}{Q:Wx->Wj->Prop}(hq:∀v c' α' g h' tk,K v c'->Fst hb pr env l c' α' h'->Le c α s.heap c' α' h'->a7 c' α' h' v g->Q g {s with heap:=h',toks:=tk})
include F hq
def FQ (h:Bk c v K)(i:a7 c α s.heap v g):wpAny (model prog w) A (call (.builtin "len") [g]) Q no s:=by
 have f:=Le.refl c α s.heap;unfold Bk at h
 cases q:jh v with|some x=>rw[q] at h;obtain rfl:=j5 q;obtain⟨_,rfl⟩:=IsD.inv i;exact PySem.P.len_str (Int.not_le.mpr<|wj h.1)<|hq _ c α _ s.heap _ h.2 F f<|.int _ _|none=>
  rw[q] at h;obtain⟨⟨b,p⟩,e,t,h⟩:=aB h;obtain⟨a,j,u,rfl,k,r⟩:=dO F.toCst e i;have hl:j.toArray.size=p.length:=by rw[Xq,<-r.length]
  have o:(j.toArray.size:Int)<2 ^ 63:=hl▸wj t;cases b with|true=>exact len_tuple ⟨_,k,rfl,_,rfl⟩ o<|by rw[hl];exact hq _ c α _ s.heap _ h F f<|.int _ _|false=>exact len_list ⟨_,k,rfl,_,rfl⟩ o<|by rw[hl];exact hq _ c α _ s.heap _ h F f<|.int _ _
def DQ {k:Wx}(h:zT c u v K)(i:a7 c α s.heap u g)(j:a7 c α s.heap v k):wpAny (model prog w) A (call (.builtin "isinstance") [g,k]) Q no s:=by
 have f:=Le.refl c α s.heap;obtain⟨d,b,r,rfl,rfl,e,h⟩:=y7 h;subst j;have i:=IsD.inv i
 cases d with
 |int n=>
  obtain⟨_,rfl⟩:=i;cases b<;>first|contradiction|skip
  exact IsiPair.int_bool<|hq _ c α _ s.heap _ h F f<|.bool _;exact IsiPair.int_int<|hq _ c α _ s.heap s.toks h F f<|.bool _
 |bool n=>
  obtain rfl:g=_:=i;cases b<;>first|contradiction|skip
  exact IsiPair.bool_bool<|hq _ c α _ s.heap s.toks h F f<|.bool _;exact IsiPair.bool_int<|hq _ c α _ s.heap s.toks h F f<|.bool _
 |str x=>
  obtain⟨_,rfl⟩:=i;cases b<;>first|contradiction|skip
  exact IsiPair.str_bool<|hq _ c α _ s.heap _ h F f<|.bool _;exact IsiPair.str_int<|hq _ c α _ s.heap _ h F f<|.bool _
 |tup xs=>
  obtain⟨o,a,p,rfl,k,_⟩:=i;cases b<;>first|contradiction|skip
  exact IsiPair.tuple_bool k rfl<|hq _ c α _ s.heap _ h F f<|.bool _
 |_=>contradiction
def Ar {k:Option Nat}(h:aC (ca c v) λ p=>p.2.length<=big/\dI c k p.2 K)(i:a7 c α s.heap v g):wpAny (model prog w) A (call (.type "list") [g]) Q no s:=by obtain⟨⟨b,t⟩,e,f,h⟩:=aB h;obtain⟨a,u,x,rfl,j,r⟩:=dO F.toCst e i;exact call_list_seq a (T:=if b then "tuple" else "list") (by cases b<;>simp) j rfl rfl (λ h' c' o q=>jg F h r o q hq s.toks)<|by rw[Xq,<-r.length];exact aQ f
def xm (h:aC (ca c v) λ p=>p.1=false/\p.2.length<=big/\K (.d<|.tup p.2) c)(i:a7 c α s.heap v g):wpAny (model prog w) A (call (.type "tuple") [g]) Q no s:=by
 obtain⟨⟨b,z⟩,e,f,o,q⟩:=aB h;have f:b=false:=f;subst f;obtain⟨a,t,G,rfl,u,r⟩:=dO F.toCst e i;refine call_tuple_list ⟨_,u,rfl,_,rfl⟩ (λ h' x=>?_)<|by rw[Xq,<-r.length];exact aQ o
 obtain⟨j,k⟩:=F.keeps x;obtain⟨y,L2⟩:=j.push<|bp "tuple" t 0;exact hq _ c α _ _ s.toks q y (k.trans L2)<|.tup (Xj _ rfl) (be j.toCst)<|(k.trans L2).isDs r
def yx (h:x7 c vs K)(k:IsVs c α s.heap vs ws):wpAny (model prog w) A (call (.type "range") ws) Q no s:=by cases vs with|nil=>exact h.elim|cons u r=>cases r with|nil=>obtain⟨b,_,rfl,_,h⟩:=rC h;obtain⟨w,rfl,i⟩:=k.one;obtain⟨_,rfl⟩:=IsD.inv i;refine call_range_1 ?_;obtain⟨o,p⟩:=F.push<|DN 0 _ s.toks _<|s.toks+1;exact hq _ c α _ _ _ h o p ⟨_,_,_,_,rfl,Xj _ rfl,be F.toCst⟩|cons v r=>obtain⟨q,t,e,h⟩:=rJ (vs:=u::v::r) (f:=λ u v=>fh u v λ a b=>K (.rng a b) c) h;rw[e] at k;obtain⟨w,x,rfl,i,j⟩:=k.two;obtain⟨a,_,b,_,rfl,rfl,h⟩:=dC h i j;refine call_range_2 ?_;obtain⟨o,p⟩:=F.push<|DN _ _ _ _ s.toks;exact hq _ c α _ _ _ h o p ⟨_,_,_,_,rfl,Xj _ rfl,be F.toCst⟩
def D9 (e:A.handled=Wq)(h:v2 vs λ u v=>fh u v λ a b=>K (.d<|.int<|if b > a then b else a) c)(f:IsVs c α s.heap vs ws):wpAny (model prog w) A (call (.builtin "max") ws) Q no s:=by obtain⟨u,v,rfl,h⟩:=rJ h;obtain⟨w,r,rfl,i,j⟩:=f.two;obtain⟨a,_,b,_,rfl,rfl,h⟩:=dC h i j;refine max_two_ints e λ h' tk k=>?_;obtain⟨o,p⟩:=F.keeps k;refine hq _ c α _ h' tk h o p ?_;by_cases q:b > a;rw[Wy q,Wy q];exact .int _ _;rw[Wg q,Wg q];exact .int _ _
def FP (e:A.handled=Wq)(h:v2 vs λ u v=>fh u v λ a b=>K (.d<|.int<|if b<a then b else a) c)(f:IsVs c α s.heap vs ws):wpAny (model prog w) A (call (.builtin "min") ws) Q no s:=by obtain⟨u,v,rfl,h⟩:=rJ h;obtain⟨w,r,rfl,i,j⟩:=f.two;obtain⟨a,_,b,_,rfl,rfl,h⟩:=dC h i j;refine min_two_ints e λ h' tk k=>?_;obtain⟨o,p⟩:=F.keeps k;refine hq _ c α _ h' tk h o p ?_;by_cases q:b<a;rw[Wy q,Wy q];exact .int _ _;rw[Wg q,Wg q];exact .int _ _
end
def Hf (p:A.handled=Wq)(F:Fst hb pr env l c α s.heap){k:Option Nat}{b:Bi}{K:V->aa->Prop}(h:Ku c k b vs K)(e:IsVs c α s.heap vs ws){Q:Wx->Wj->Prop}(f:∀v c' o g h' q,K v c'->Fst hb pr env l c' o h'->Le c α s.heap c' o h'->a7 c' o h' v g->Q g {s with heap:=h',toks:=q}):wpAny (model prog w) A (call b.val ws) Q no s:=by cases b with|len=>obtain⟨v,rfl,h⟩:=fu h;obtain⟨w,rfl,i⟩:=e.one;exact FQ F f h i|isinstance=>obtain⟨u,v,rfl,h⟩:=rJ h;obtain⟨w,r,rfl,i,j⟩:=e.two;exact DQ F f h i j|max=>exact D9 F f p h e|min=>exact FP F f p h e|list=>obtain⟨v,rfl,h⟩:=fu h;obtain⟨w,rfl,i⟩:=e.one;exact Ar F f h i|tuple=>obtain⟨v,rfl,h⟩:=fu h;obtain⟨w,rfl,i⟩:=e.one;exact xm F f h i|range=>exact yx F f h e|_=>exact h.elim
end
variable {spec:Spec}
section
open PySem.Builtin PySem.Builtin.ObjectAttr
def m6:typeLookup (.type "list") "append"=pure (Kf<|.builtin "list.append"):=PySem.slot_list_append.lookup
def eK:typeOf (.builtin "list.append")=pure (.type "method_descriptor"):=by show builtinType _=_;rw[builtinType_eq_fast];kernel_rfl
def slot_mdget:Slot "method_descriptor" "__get__" "method_descriptor.__get__":=
 .of (owner:="method_descriptor") (n:="__get__") (by rw[typeLookup_type,builtinLookup_eq_fast];kernel_rfl) {3} {3} {3}
  (by first|exact .inl {3}|exact .inr<|{3}) (by rw[isSubtype_type];kernel_rfl)
def nG:entryFor table "method_descriptor.__get__"=Kf Builtin.«method_descriptor.__get__»:=entryFor_of_tree<|{2}
def oX (a b c:Wx):argsOk "method_descriptor.__get__" ⟨[a,b,c],[]⟩:=by unfold argsOk;kernel_rfl
def Gf:typeLookup (.type "method_descriptor") "__set__"=pure Wq:=by rw[typeLookup_type,builtinLookup_eq_fast];kernel_rfl
def uE:typeLookup (.type "method_descriptor") "__delete__"=pure Wq:=by rw[typeLookup_type,builtinLookup_eq_fast];kernel_rfl
def uf:isSubtype (.type "list") (.type "list")=pure true:=by rw[isSubtype_type];kernel_rfl
def oh:isSubtype (.type "list") (.type "module")=pure false:=by rw[isSubtype_type];kernel_rfl
def tz:isSubtype (.type "list") (.type "type")=pure false:=by rw[isSubtype_type];kernel_rfl
def lY:takesStores (.builtin "list.append")=pure false:=by unfold takesStores specialOf;rw[eK];show (typeLookup (.type "method_descriptor") "__set__" >>= _)=_;rw[Gf];show (typeLookup (.type "method_descriptor") "__delete__" >>= _)=_;rw[uE];rfl
def pt:specialOf (.builtin "list.append") "__get__"=pure (Kf<|.builtin "method_descriptor.__get__"):=by unfold specialOf;rw[eK];exact slot_mdget.lookup
section
variable {w:Wv}{A:Around}{E:Wx->Wj->Prop}{G:Ww}{xs:Array Wx}
def nu {T:String}{b:Bool}(e:s.heap.get? G=Kf {cls:=.type "list",data:=.seq xs ep}) (f:isSubtype (.type "list") (.type T)=pure b) {Q:Bool->Wj->Prop} (h:Q b s):wpAny (model prog w) A (isInstance (.ref G)<|.type T) Q E s:=
 wpAny_isInstance (T:="list") (U:=T) (b:=b) ⟨_,e,rfl⟩ f h
def t9 {P:Fin->Wj->Prop}(b:s.heap.get? G=Kf {cls:=.type "list",data:=.seq xs ep}) (h:P (.done<|.ret<|.ref s.heap.objs.size) {s with heap:=s.heap.push (nH "list.append" G)}) :wpAny (model prog w) A (Builtin.«method_descriptor.__get__» ⟨[.builtin "list.append",.ref G,.type "list"],[]⟩) P E s:=by
 unfold Builtin.«method_descriptor.__get__»;refine Zb<|Vz (a:=(.builtin "list.append",Kf<|.ref G,Kf<|.type "list")) (by first|rfl|kernel_rfl) ?_;have e:s.TypeIs (.ref G) "list":=⟨_,b,rfl⟩;have l1:=uf;repeat (any_goals (first|assumption|wp_step))
 rw[show (".".intercalate ("list.append".cutAt '.').dropLast)="list" from by decide +kernel];refine Vz (a:=true) l1 ?_;repeat (any_goals (first|assumption|wp_step))
def m4 {R:Fin->Wj->Prop}(b:s.heap.get? G=Kf {cls:=.type "list",data:=.seq xs ep}) (h:R (.done<|.ret<|.ref s.heap.objs.size) {s with heap:=s.heap.push (nH "list.append" G)}) :wpAny (model prog w) A (Builtin.«object.__getattribute__» ⟨[.ref G,.str "append" t],[]⟩) R E s:=by have e:s.TypeIs (.ref G) "list":=⟨_,b,rfl⟩;have f1:=m6;have f:=pt;have f3:=lY;unfold Builtin.«object.__getattribute__»;repeat (any_goals (first|assumption | ((with_reducible show wpAny _ _ (call (Value.builtin "method_descriptor.__get__") _ _) _ _ _);refine wpAny_call_entry slot_mdget eK nG (t9 b ⟨_,rfl,?_⟩)<|oX _ _ _)|wp_step))
def mX (e:s.heap.get? G=Kf {cls:=.type "list",data:=.seq xs ep}) {Q:Wx->Wj->Prop} (h:Q (.ref s.heap.objs.size) {s with heap:=s.heap.push (nH "list.append" G),toks:=s.toks+1}) :wpAny (model prog w) A (getAttr (.ref G) "append" true) Q E s:=by obtain⟨i,g,d,k,j⟩:=s;have f:∀b,(⟨i,g,d,b,j⟩:Wj).TypeIs (.ref G) "list":=λ _=>⟨_,e,rfl⟩;have f3:=F.slot_list_getattribute.lookup;have l:=F.slot_list_getattribute.bind<|.ref G;unfold getAttr getAttrBy;repeat (any_goals (first|assumption|exact f _ | ((with_reducible show wpAny _ _ (call (Value.builtin "list.__getattribute__") _ _) _ _ _);refine wpAny_call_entry F.slot_list_getattribute (f _) am_entry_list_getattribute (m4 e ⟨_,rfl,?_⟩)<|F.args_list_getattribute_2 _ _)|wp_step))
def pK (a b:Wx):(match Manifest.signature? "list.append" with|some sig=>Bind.checkArgs "list.append" {sig with full:=toString (Bind.lastOf "list")++toString "."++toString (Bind.lastOf "list.append")} ⟨[a,b],[]⟩|none=>pure ())=pure ():={2}
def nk:builtinKind "list.append"=Kf .method:={3}
def nF (b:s.heap.get? G=Kf {cls:=.type "list",data:=.seq xs ep}) {Q:Bool->Wj->Prop} (h:Q false s):wpAny (model prog w) A (isType<|.ref G) Q E s:=by have e:s.TypeIs (.ref G) "list":=⟨_,b,rfl⟩;have l2:=tz;unfold isType;repeat (any_goals (first|assumption|wp_step))
def mz {v:Wx}(e:s.heap.get? G=Kf {cls:=.type "list",data:=.seq xs ep}) {Q:Unit->Wj->Prop} (h:Q () s):wpAny (model prog w) A (checkBoundCall "list.append" ⟨[.ref G,v],[]⟩) Q E s:=by have i:s.TypeIs (.ref G) "list":=⟨_,e,rfl⟩;have f:=pK (.ref G) v;unfold checkBoundCall;cases b:Manifest.signature? "list.append" with|none=>exact Zp h|some sig=>rw[b] at f;rw[nk];dsimp only;rw[Wg<|{4}];refine Zb<|nu e oh ?_;rw[Wg<|{3}];refine Zb<|nF e ?_;rw[Wg<|{4}];refine Zb<|wpAny_typeOf i ?_;exact Vz f h
def mv {p:Ww}(b:h.get? p=Kf (nH "list.append" G)):Looks M h (keeperOf<|.ref p) .machine:=by intro A Q E s k q;unfold keeperOf;refine Zb<|wpAny_load (k _ _ b) ?_;exact Zp q
def pP {p:Ww}{v:Wx}(e:s.heap.get? p=Kf (nH "list.append" G)) (b:s.heap.get? G=Kf {cls:=.type "list",data:=.seq xs ep}) (f:xs.size<=sizeLine) {Q:Wx->Wj->Prop}
  (h:∀h',h'.PlainList G (xs.push v)->Heap.SameBut G s.heap h'->Q .none {s with heap:=h'}):wpAny (model prog w) A (call (.ref p) [v]) Q E s:=by
 refine wpAny_call<|codeAny_of_tree ?_
 show wpAny _ A.in1 (callAny (.ref p) ⟨[v],[]⟩) _ _ s
 refine Zb<|wpAny_load e ?_
 show wpAny _ A.in1 (if (Value.type "builtin_function_or_method" != Value.type "method")=true then (do checkBoundCall "list.append" ⟨[.ref G,v],[]⟩;again (.builtin "list.append" ⟨[.ref G,v],[]⟩)) else _) _ _ _
 rw[Wy<|{4}]
 refine Zb<|mz b<|Zp ?_
 refine⟨Code.quiet_builtin _ {3},?_⟩
 refine codeAny_builtin PySem.entry_list_append ?_
 show wpAny _ _ (updateSeq G (·.push v)>>=λ _=>ret .none) _ _ s
 refine Zb ?_
 refine wpAny_updateSeq b rfl<|Zp<|h _ ⟨ep+1,?_⟩<|Heap.SameBut.update ..
 rw[Heap.get?_update_self _ b (by rw[Obj.mapSeq_push_plain];rfl),Obj.mapSeq_push_plain]
end
end
section
open PySem.Builtin
structure TabOk (K:Frag)(d C:Ww)(tr:Nat->Nat):Prop where
 at_:∃dd es ep sl,K.lookup d=Kf ⟨.ref C,dd,.dict es ep,sl⟩/\IntKeys es/\∀c:Nat,c<128->∃t,findBy Value.isInt es (c:Int)=Kf (.int (tr c:Nat) t)/\tr c<128
 seq:noSeq K C=true
 item:findIn K (.ref C) "__getitem__"=Kf (Kf<|.builtin "dict.__getitem__")
 sub:mroIn K C (.type "dict")=Kf true
section
variable {w:Wv}{A:Around}{K:Frag}{d C:Ww}{tr:Nat->Nat}
def yG:builtinKind "dict.__getitem__"=Kf .method:={3}
def uH:splitId "dict.__getitem__"=Kf ("dict","__getitem__"):={3}
def pE {E:Wx->Wj->Prop}{i owner n:String}{self:Wx}{rest:List Wx}{kw:List (Str×Wx)}{Q:Unit->Wj->Prop}(f:builtinKind i=Kf .method) (h:splitId i=Kf (owner,n)) (hi:Looks M s.heap (isInstance self<|.type owner) true) (e:argsOk i ⟨self::rest,kw⟩) (q:Q () s) :wpAny M A (checkBuiltinCall i ⟨self::rest,kw⟩) Q E s:=by simp only[checkBuiltinCall,f,h];refine Zb<|hi.here ?_;simp only[Bool.not_true,Bool.false_eq_true,if_false];cases b:Manifest.signature? i with|none=>exact Zp q|some sig=>simp only[argsOk,b] at e;have j:Bind.checkArgs i sig ⟨self::rest,kw⟩=pure ():=e;show wpAny M A (Bind.checkArgs i sig ⟨self::rest,kw⟩) Q E s;rw[j];exact Zp q
def y8 {E:Wx->Wj->Prop}{k:Int}{o:Obj}{f:Array DictEntry}{v:Wx}{R:PySem.Fin->Wj->Prop}(j:s.heap.get? d=Kf o)(l:o.data=.dict f ep)(q:PySem.IntKeys f)(b:findBy Value.isInt f k=Kf v)(h:R (.done<|.ret v) {s with toks:=s.toks+1}):wpAny (model prog w) A (Builtin.«dict.__getitem__» ⟨[.ref d,.int k t],[]⟩) R E s:=by show wpAny _ _ (dictGet d (.int k t)>>=_) _ _ s;refine Zb ?_;unfold dictGet;refine Vx<|Zb<|wpAny_pyHash_int<|Zb<|wpAny_dictFind_int (s:={s with toks:=s.toks+1}) j l q ?_;rw[findBy_of_findIdx?] at b;cases p:f.findIdx? λ e=>Value.isInt k e.key with|none=>rw[p] at b;contradiction|some i=>rw[p] at b;refine Zb<|wpAny_dictEntries (s:={s with toks:=s.toks+1}) j l<|Zp ?_;dsimp only at b;rw[b];exact Zp h
def ye (T:TabOk K d C tr)(X:K.In s.heap){c:Nat}(k:c<128){Q:Str.Mapped->Wj->Prop}(l:∀o,Q (.char<|tr c) {s with toks:=o}):wpAny (model prog w) A (Str.tableLookup (.ref d) c) Q no s:=by refine bc λ x b=>?_;obtain⟨dd,y,z,sl,hl,p,e⟩:=T.at_;refine b ?_;obtain⟨t,q,f⟩:=e c k;have j:=X _ _ hl;have h:∀{M:Model},Looks M s.heap (typeOf<|.ref d) (.ref C):=(Looks.ld j).andThen .now;have inst:∀{M:Model},Looks M s.heap (isInstance (.ref d)<|.type "dict") true:=h.andThen<|looks_mroIn X T.sub;unfold Str.tableLookup;refine Zb<|wpAny_attempt<|Zb<|wpAny_mkInt ?_;unfold getItem sequenceKey;refine Vx<|Zb<|Zb<|Looks.here (s:={s with toks:=s.toks+1}) h ?_;refine Zb<|Looks.here (s:={s with toks:=s.toks+1}) (anyM_none X T.seq) ?_;rw[Wy<|show (!false)=true from rfl];refine Zp<|Zb ?_;unfold callSpecial? specialOf;refine Zb<|Zb<|Looks.here (s:={s with toks:=s.toks+1}) h<|Looks.here (s:={s with toks:=s.toks+1}) (looks_findIn X T.item) ?_;refine Vx ?_;rw[slot_dict_getitem.bind];refine Zb<|Zp<|Zb<|wpAny_call ?_;refine codeAny_call_builtin slot_dict_getitem.plain entry_dict_getitem ?_;refine pE (s:={s with toks:=s.toks+1}) (i:="dict.__getitem__") (owner:="dict") (n:="__getitem__") (self:=.ref d) (rest:=[.int (c:Int) s.toks]) (kw:=[]) yG uH inst (args_dict_getitem _ _) ?_;refine y8 (s:={s with toks:=s.toks+1}) j rfl p q ?_;refine Zp<|Zp ?_;have r:¬((tr c:Nat):Int)<0:=U17;have u:¬((tr c:Nat):Int) > 1114111:=U16 f;refine Zb<|Vz (a:=Kf ((tr c:Nat):Int)) rfl ?_;show wpAny _ _ (if (decide (((tr c:Nat):Int)<0)||decide (((tr c:Nat):Int) > 1114111))=true then _ else pure (Str.Mapped.char ((tr c:Nat):Int).toNat)) _ _ _;simp only[decide_eq_false r,decide_eq_false u];exact Zp<|l _
def vg {α β δ κ:Type}{E:Wx->Wj->Prop}{f:α->β->Sem (ForInStep β)}(st:δ->κ->β)(sh:Nat->Wj)(I:List α->δ->κ->Prop){Q:β->Wj->Prop}(turn:∀x rest d k e,I (x::rest) d k->wpAny M A (f x<|st d k) (λ r s'=>∃j k' i,r=.yield (st j k')/\s'=sh i/\I rest j k') E (sh e))(fin:∀d k e,I [] d k->Q (st d k) (sh e)) {l:Array α} {b:β} (d:δ) (k:κ) (e:Nat) (hb:b=st d k) (hi:I l.toList d k):wpAny M A (forIn l b f) Q E (sh e):=by rw[hb,<-Array.forIn_toList];refine wpAny_forIn_list _ (λ rest b s'=>∃d k e,b=st d k/\s'=sh e/\I rest d k) _ (λ x rest b s' h=>?_) (λ b s' h=>?_) _ _ ⟨d,k,e,rfl,rfl,hi⟩;obtain⟨d,k,e,rfl,rfl,h⟩:=h;refine Vq (turn x rest d k e h) (λ r s' h=>?_) λ _ _ h=>h;obtain⟨d,k,e,rfl,rfl,h⟩:=h;exact⟨d,k,e,rfl,rfl,h⟩;obtain⟨d,k,e,rfl,rfl,h⟩:=h;exact fin d k e h
def Cx {α:Type}{E:Wx->Wj->Prop}{b:Bool}(h:b=false){x y:Sem α}{Q:α->Wj->Prop}(k:wpAny M A y Q E s):wpAny M A (if b=true then x else y) Q E s:=by rw[h];exact k
def GI {α:Type}{E:Wx->Wj->Prop}{b:Bool}(h:b=true){x y:Sem α}{Q:α->Wj->Prop}(k:wpAny M A x Q E s):wpAny M A (if b=true then x else y) Q E s:=by rw[h];exact k
def D6 {α:Type}{E:Wx->Wj->Prop}{c:Prop} [Decidable c] {x y:Sem α}{Q:α->Wj->Prop}(p:c->wpAny M A x Q E s)(q:¬c->wpAny M A y Q E s):wpAny M A (if c then x else y) Q E s:=by by_cases h:c;rw[Wy h];exact p h;rw[Wg h];exact q h
def mW {l:Nat}(hl:l<=big)(b:n<=l):Str.tooLong n=false:=by unfold Str.tooLong sizeLine;unfold big at hl;exact decide_eq_false<|by omega
noncomputable def Gm (tr:Nat->Nat)(l:List Nat):List PySem.Str:=(l.map λ c=>⟨#[tr c]⟩).reverse
theorem qH:∀(l:List Nat) (acc:Array Nat),(l.map λ c=>(⟨#[tr c]⟩:PySem.Str)).foldl (λ acc p=>acc++p.cps) acc=acc++(l.map tr).toArray
 | [],acc=>by simp|c::r,acc=>by simp only[List.map_cons,List.foldl_cons,qH];apply Array.ext';simp
def Known (tr:Nat->Nat)(kn:List<|Nat×Option Nat):Prop:=∀c a,List.lookup c kn=Kf a->a=Kf (tr c)
def Known.cons {f:List (Nat×Option Nat)}(h:Known tr f){c:Nat}:Known tr ((c,Kf<|tr c)::f):=λ i a e=>by simp only[Zq] at e;cases b:i==c with|true=>rw[b] at e;injection e with e;subst e;rw[beq_iff_eq.mp b]|false=>rw[b] at e;exact h i a e
def mw (T:TabOk K d C tr)(X:K.In s.heap){x:PySem.Str}(J:∀c∈x.cps.toList,c<128)(hl:x.length<=big){Q:Wx->Wj->Prop}(L:∀M i,Q (.str ⟨x.cps.map tr⟩ M) {s with toks:=i}) :wpAny (model prog w) A (call (.builtin "str.translate") [.str x t,.ref d]) Q no s:=by
 refine wpAny_call_entry PySem.F.slot_str_translate (typeIs_str _ _ _) PySem.F.entry_str_translate ?_<|PySem.F.args_str_translate_2 _ _;refine Zb<|Vz (a:=(.str x t,x,.ref d)) rfl ?_;dsimp only;refine D6 (λ P=>?_) λ _=>?_;have j:x.cps=#[]:=Array.eq_empty_of_size_eq_zero (beq_iff_eq.mp P);refine Zb<|wpAny_rule<|Zb ?_;refine Vz (a:=.str x t) rfl<|Zp ⟨_,rfl,?_⟩;have:=L t s.toks
 rwa [show (⟨x.cps.map tr⟩:PySem.Str)=x by cases x with|mk cps=>simp only at j;subst j;simp] at this
 have k:(x.cps.all λ c=>decide<|c<128)=true:=by rw[<-Array.all_toList,Xu];intro c u;exact decide_eq_true<|J c u
 refine Zb (vg (λ done f=>(Gm tr done,done.length,true,f,false)) (λ i=>{s with toks:=i}) (λ rest done f=>x.cps.toList=done++rest/\Known tr f)
  (λ c rest done f i h=>?_) (λ done f i h=>?_) [] [] s.toks (by rw[k];rfl) ⟨rfl,λ c a e=>by simp at e⟩)
 have b:=h.1;have u:c<128:=J c<|by rw[b];simp
 have l:done.length<=x.length:=by
  have:x.cps.toList.length=(done++c::rest).length:=by rw[b]
  simp only[Qj] at this;simp only[Array.length_toList] at this;exact U15 this
 refine Cx (mW hl l)<|GI rfl ?_
 have fin:∀{o f},Known tr f->∃(done':List Nat) (q:List<|Nat×Option Nat) (r:Nat),ForInStep.yield ((⟨#[tr c]⟩:PySem.Str)::Gm tr done,done.length+1,true,f,false)=.yield (Gm tr done',done'.length,true,q,false)/\
   ({s with toks:=o}:Wj)={s with toks:=r}/\x.cps.toList=done'++rest/\Known tr q:=λ y=>
  ⟨done++[c],_,_,by simp[Gm],rfl,by rw[b];simp,y⟩
 dsimp only;cases z:List.lookup c f with|some a=>have R:=h.2 c a z;subst R;exact Zb<|Zp<|Zp<|fin h.2|none=>obtain⟨_,_,_,_,_,_,G⟩:=T.at_;obtain⟨_,_,I⟩:=G c u;refine Zb<|ye (s:={s with toks:=i}) T X u λ o=>?_;simp only[I,if_true];exact Zb<|Zp<|Zp<|fin h.2.cons
 have b:=h.1;rw[Zg] at b;refine Cx (mW hl<|U14<|by rw[<-b];rfl) ?_;have e:((Gm tr done).reverse.foldl (λ acc p=>acc++p.cps) #[])=x.cps.map tr:=by rw[Gm,List.reverse_reverse,qH,<-b];apply Array.ext';simp
 refine Zb<|wpAny_mkStr (Zp ⟨_,rfl,?_⟩) ?_;rw[e];exact L _ _;show (Array.size _)<=sizeLine;rw[e,Array.size_map];exact aQ hl
end
end
section
open PySem.Builtin PySem.Builtin.Str
set_option genCtorIdx true in
inductive Mn where
 |find|rfind|end_|append|pop|count|join|exp
noncomputable def Mn.nm:Mn->PySem.Str
 | .find=>"find"| .rfind=>"rfind"| .end_=>"end"| .append=>"append"| .pop=>"pop"| .count=>"count"| .join=>"join"| .exp=>"expandtabs"
noncomputable def fA (x y:PySem.Str)(i j:Nat):Int:=match occurrences x y i j 1 with|k::_=>(k:Int)| []=>-1
noncomputable def cw (x y:PySem.Str)(i j:Nat):Int:=match lastOccurrence x y i j with|some k=>(k:Int)|none=>-1
def BQ (vs:List V)(f:PySem.Str->Int->Option Int->Prop):Prop:=match vs with
 | []=>False
 |u::r=>g6 u λ y=>(match r with
  | []=>False
  |v::r=>f6 v λ i=>(match r with
   | []=>f y i Wq
   |t::r=>f6 t λ j=>(match r with
    | []=>f y i<|some j|_::_=>False)))
noncomputable def eb (n:Nat)(a:Array Nat×Nat)(c:Nat):Array Nat×Nat:=
 if (c==9)=true then (a.1++Array.replicate (n-a.2 % n) 32,a.2+(n-a.2 % n)) else (a.1.push c,if (c==10||c==13)=true then 0 else a.2+1)
def Bv (x:PySem.Str)(n:Nat):PySem.Str:=if (!x.cps.contains 9)=true then x else ⟨(x.cps.toList.foldl (eb n) (#[],0)).1⟩
def jI (b:1<=n/\n<=8)(a:Array Nat×Nat)(c:Nat):(eb n a c).1.size<=a.1.size+8:=by unfold eb;by_cases h:(c==9)=true;rw[Wy h];show (a.1++Array.replicate (n-a.2 % n) 32).size<=_;rw[Array.size_append,Array.size_replicate];exact U523 b;rw[Wg h];show (a.1.push c).size<=_;rw[Array.size_push];exact {1}
def uz (b:1<=n/\n<=8)(l:List Nat):∀(a:Array Nat×Nat),(l.foldl (eb n) a).1.size<=a.1.size+8*l.length:=by induction l with|nil=>intro a;exact Zv _|cons c l rH=>intro a;have e:=rH<|eb n a c;have f:=jI b a c;show (l.foldl (eb n)<|eb n a c).1.size<=a.1.size+8*(l.length+1);exact U521 e f
theorem ju {α β:Type}{f:α->β->Sem (ForInStep β)}{g:β->α->β}(P:List α->β->Prop)(h:∀c l b,P (c::l) b->f c b=pure (.yield<|g b c)/\P l (g b c)):∀l b,P l b->(forIn l b f:Sem β)=pure (l.foldl g b)
 | [],b,_=>rfl|c::l,b,p=>by obtain⟨e,i⟩:=h c l b p;rw[List.forIn_cons,e];exact ju P h l (g b c) i
def tZ (x:PySem.Str)(t:Tok)(n:Nat)(u:Tok)(i:1<=n/\n<=8)(k:x.length<=1048576):Gives («str.expandtabs» ⟨[.str x t,.int (n:Nat) u],[]⟩) (if (!x.cps.contains 9)=true then .val (.str x t) else .str ⟨(x.cps.toList.foldl (eb n) (#[],0)).1⟩):=by
 unfold «str.expandtabs»;show Gives (if (decide ((n:Int) < -2 ^ 31)||decide ((n:Int) ≥ 2 ^ 31))=true then _ else _) _;rw[Wg<|by simp;exact {0,(Om.zl i.2)}];by_cases h:(!x.cps.contains 9)=true;rw[Wy h,Wy h];exact .rule<|.of_eq rfl;rw[Wg h,Wg h];refine .of_eq ?_;dsimp only;rw[<-Array.forIn_toList];refine (congrArg (·>>=λ __s=>retStr ⟨__s.1⟩)<|ju (g:=eb n) (λ l b=>b.1.size+8*l.length<=16777216) (λ c l b p=>⟨?_,?_⟩) x.cps.toList (#[],0) ?_).trans rfl;have f:=jI i b c;have p:b.1.size+8*(l.length+1)<=16777216:=p;have e:(n:Int) > 0:=by exact {0,(Om.zl i.1)}
 rw[Wy e,Int.toNat_natCast];unfold eb at f ⊢;by_cases j:(c==9)=true;rw[Wy j] at f ⊢;rw[Wy j];refine Wg ?_;unfold tooLong;rw[decide_eq_true_eq,sizeLine_eq];have f:(b.1++Array.replicate (n-b.2 % n) 32).size<=b.1.size+8:=f;rw[Array.size_append,Array.size_replicate] at f;exact U518 p f;rw[Wg j,Wg j];have f:=jI i b c;have p:b.1.size+8*(l.length+1)<=16777216:=p;show (eb n b c).1.size+8*l.length<=_;exact {f,p};show 0+8*x.length<=_;exact {(Xx 8 k)}
def jb (m:Mn)(x:PySem.Str)(vs:List V)(c:aa)(K:V->aa->Prop):Prop:=BQ vs λ y i o=>match o with
 |none=>(match m with
  | .find=>K (.d<|.int<|Txt.find3 x y i) c|_=>False)
 |some j=>(0<=i/\0<=j/\j<=x.length)/\(match m with
  | .find=>K (.d<|.int<|fA x y i.toNat j.toNat) c| .rfind=>K (.d<|.int<|cw x y i.toNat j.toNat) c|_=>False)
def r6 (m:Mn)(x:PySem.Str)(vs:List V)(c:aa)(K:V->aa->Prop):Prop:=match m with
 | .count=>v1 vs λ v=>g6 v λ y=>K (.d<|.int<|Txt.count x y) c
 | .join=>v1 vs λ v=>v4 v λ d=>∃ys:List PySem.Str,d=.lst (ys.map .str)/\x.length=0/\(ys.map (·.length)).sum<=big/\K (.d<|.str<|Txt.join x ys) c
 | .exp=>v1 vs λ v=>f6 v λ i=>∃n:Nat,i=n/\(1<=n/\n<=8)/\x.length<=big/\K (.d<|.str<|Bv x n) c
 | .find=>jb .find x vs c K| .rfind=>jb .rfind x vs c K|_=>False
def rW (m:Mn)(k:Nat)(xs:List D)(vs:List V)(c:aa)(K:V->aa->Prop):Prop:=match m with
 | .append=>v1 vs λ v=>v4 v λ d=>xs.length<=big/\K (.d .none) (cset c k<|.list<|xs++[d])
 | .pop=>v1 vs λ v=>f6 v λ i=>i=0/\xs.length<=big/\∃d r,xs=d::r/\K (.d d) (cset c k<|.list r)
 |_=>False
section
variable {w:Wv}{A:Around}{env:Env}{l:cI}
def ku (x y:PySem.Str)(i j:Int)(t u v z:Tok)(hi:0<=i)(b:0<=j)(hl:j<=x.length):Gives («str.find» ⟨[.str x t,.str y u,.int i v,.int j z],[]⟩) (.int<|fA x y i.toNat j.toNat):=by
 show Gives (match occurrences x y (max 0<|if i<0 then i+x.length else i).toNat (min (max 0<|if j<0 then j+x.length else j).toNat x.length) 1 with|k::_=>retInt k | []=>(do rule "str.find.not-found";retInt (-1))) _
 rw[Wg<|U20 hi,Wg<|U20 b,show max 0 i=i by exact U19 hi,show max 0 j=j by exact U19 b,show min j.toNat x.length=j.toNat by exact U18 hl]
 unfold fA
 cases occurrences x y i.toNat j.toNat 1 with
 |nil=>exact .rule<|.of_eq rfl
 |cons k _=>exact .of_eq rfl
def jT (x y:PySem.Str)(i j:Int)(t u v z:Tok)(hi:0<=i)(b:0<=j)(hl:j<=x.length):Gives («str.rfind» ⟨[.str x t,.str y u,.int i v,.int j z],[]⟩) (.int<|cw x y i.toNat j.toNat):=by
 show Gives (match lastOccurrence x y (max 0<|if i<0 then i+x.length else i).toNat (min (max 0<|if j<0 then j+x.length else j).toNat x.length) with|some k=>retInt k|none=>(do rule "str.rfind.not-found";retInt (-1))) _
 rw[Wg<|U20 hi,Wg<|U20 b,show max 0 i=i by exact U19 hi,show max 0 j=j by exact U19 b,show min j.toNat x.length=j.toNat by exact U18 hl]
 unfold cw
 cases lastOccurrence x y i.toNat j.toNat with
 |none=>exact .rule<|.of_eq rfl
 |some k=>exact .of_eq rfl
def wE {f:PySem.Str->Int->Option Int->Prop}(h:BQ vs f):∃y i,(∃j,f y i (Kf j)/\vs=[.d<|.str y,.d<|.int i,.d<|.int j])\/(f y i Wq/\vs=[.d<|.str y,.d<|.int i]):=by cases vs with|nil=>exact h.elim|cons u r=>obtain⟨y,rfl,b⟩:=cV h;cases r with|nil=>exact b.elim|cons v r=>obtain⟨i,rfl,e⟩:=b8 b;cases r with|nil=>exact⟨y,i,.inr ⟨e,rfl⟩⟩|cons t r=>obtain⟨j,rfl,k⟩:=b8 e;cases r with|nil=>exact⟨y,i,.inl ⟨j,k,rfl⟩⟩|cons _ _=>exact k.elim
noncomputable def Mn.sid:Mn->String
 | .find=>"str.find"| .rfind=>"str.rfind"| .count=>"str.count"| .join=>"str.join"| .exp=>"str.expandtabs"|_=>""
noncomputable def Mn.isS:Mn->Bool
 | .find | .rfind | .count | .join | .exp=>true|_=>false
def xG {x:PySem.Str}{b:Sem Bool}{Q:Wx×List Wx->Wj->Prop}{E:Wx->Wj->Prop}(h:Q (.builtin "str.expandtabs",[.str x t]) s):wpAny M A (getMethod (.str x t) "expandtabs" b) Q E s:=by
 with_reducible exact GM.of (.str x t) (typeIs_str _ _ _) PySem.F.slot_str_expandtabs PySem.F.type_str_expandtabs GM.noRef h
def yC {m:Mn}(e:m.isS=true){x:PySem.Str}{b:Sem Bool}{Q:Wx×List Wx->Wj->Prop}{E:Wx->Wj->Prop}(h:Q (.builtin m.sid,[.str x t]) s):wpAny (model prog w) A (getMethod (.str x t) m.nm b) Q E s:=by cases m with|find=>exact GM.find h|rfind=>exact GM.rfind h|count=>exact GM.count h|join=>exact GM.join h|exp=>exact xG h|_=>contradiction
def IsVs.uncons (i:IsVs c α h (v::vs) ws):∃w b,ws=w::b/\a7 c α h v w/\IsVs c α h vs b:=i.inv
section
variable (F:Fst hb pr env l c α s.heap){x:PySem.Str}{K:V->aa->Prop}(iv:IsVs c α s.heap vs ws){Q:Wx->Wj->Prop}(hq:∀v c' α' g h' tk,K v c'->Fst hb pr env l c' α' h'->Le c α s.heap c' α' h'->a7 c' α' h' v g->Q g {s with heap:=h',toks:=tk})
include F iv hq
def hV {m:Mn}(h:jb m x vs c K):wpAny (model prog w) A (call (.builtin m.sid)<|.str x t::ws) Q no s:=by
 have b:=Le.refl c α s.heap;obtain⟨y,i,⟨j,h,rfl⟩|⟨h,rfl⟩⟩:=wE h;obtain⟨⟨k,o,p⟩,h⟩:=h;obtain⟨u,r,rfl,e,q⟩:=iv.uncons;obtain⟨v,z,rfl,f,i3⟩:=q.two;obtain⟨_,rfl⟩:=IsD.inv e;obtain⟨_,rfl⟩:=IsD.inv f;obtain⟨_,rfl⟩:=IsD.inv i3;cases m with|find=>exact call_gives PySem.F.slot_str_find (typeIs_str _ _ _) PySem.F.entry_str_find (PySem.F.args_str_find_4 _ _ _ _) (ku x y i j t _ _ _ k o p)<|hq _ c α _ s.heap _ h F b<|.int _ _|rfind=>exact call_gives PySem.F.slot_str_rfind (typeIs_str _ _ _) PySem.F.entry_str_rfind (PySem.F.args_str_rfind_4 _ _ _ _) (jT x y i j t _ _ _ k o p)<|hq _ c α _ s.heap _ h F b<|.int _ _|_=>exact h.elim
 obtain⟨w,G,rfl,e,f⟩:=iv.two;obtain⟨_,rfl⟩:=IsD.inv e;obtain⟨_,rfl⟩:=IsD.inv f;cases m with|find=>exact SC.find3<|hq _ c α _ s.heap _ h F b<|.int _ _|_=>exact h.elim
def pM {m:Mn}(h:r6 m x vs c K):wpAny (model prog w) A (call (.builtin m.sid)<|.str x t::ws) Q no s:=by
 have b:=Le.refl c α s.heap
 cases m with
 |count=>obtain⟨v,rfl,h⟩:=fu h;obtain⟨y,rfl,h⟩:=cV h;obtain⟨w,rfl,i⟩:=iv.one;obtain⟨_,rfl⟩:=IsD.inv i;exact SC.count<|hq _ c α _ s.heap _ h F b<|.int _ _|join=>obtain⟨v,rfl,h⟩:=fu h;obtain⟨d,rfl,ys,rfl,r_⟩:=cv h;obtain⟨p,j,h⟩:=r_;obtain⟨w,rfl,i⟩:=iv.one;obtain⟨q,a,u,rfl,g,_,r⟩:=IsD.inv i;refine join_list (ys:=ys) ⟨_,g,rfl,u,rfl⟩ (nj ys q r) ?_ λ z k=>hq _ c α _ s.heap k h F b<|.str _ _;rw[p];unfold big at j;exact U515 j
 |exp=>obtain⟨v,rfl,h⟩:=fu h;obtain⟨i,rfl,n,rfl,r_⟩:=b8 h;obtain⟨o,f,h⟩:=r_;obtain⟨w,rfl,i⟩:=iv.one;obtain⟨_,rfl⟩:=IsD.inv i;refine call_gives PySem.F.slot_str_expandtabs (typeIs_str _ _ _) PySem.F.entry_str_expandtabs (PySem.F.args_str_expandtabs_2 _ _) (tZ x t n _ o f)<|post_val_or_made (y:=x) (λ _=>?_) λ z k=>?_;have:=uz o x.cps.toList (#[],0);have e:x.cps.toList.length=x.length:=rfl;rw[e] at this;unfold big at f;show (x.cps.toList.foldl (eb n) (#[],0)).1.size<=_;rw[sizeLine_eq];have:(x.cps.toList.foldl (eb n) (#[],0)).1.size<=0+8*x.length:=this;exact {(Xx 8 f),this};exact hq _ c α _ s.heap k h F b<|.str _ _
 |find=>exact hV F iv hq (m:=.find) h|rfind=>exact hV F iv hq (m:=.rfind) h|_=>exact h.elim
end
noncomputable def Mn.lid:Mn->String
 | .append=>"list.append"| .pop=>"list.pop"|_=>""
noncomputable def Mn.isLi:Mn->Bool
 | .append | .pop=>true|_=>false
def mS {v:Wx}{b:Sem Bool}{Q:Wx×List Wx->Wj->Prop}{E:Wx->Wj->Prop}(e:s.TypeIs v "list") (f:∀a,v=.ref a->∃o,s.heap.get? a=Kf o/\o.dict=Wq) (h:Q (.builtin "list.append",[v]) s) :wpAny M A (getMethod v "append" b) Q E s:=by
 with_reducible exact getMethod_builtin e PySem.F.plainAttrs_list PySem.F.slot_list_append PySem.F.type_list_append f h
def vT {v:Wx}{b:Sem Bool}{Q:Wx×List Wx->Wj->Prop}{E:Wx->Wj->Prop}(e:s.TypeIs v "list") (f:∀a,v=.ref a->∃o,s.heap.get? a=Kf o/\o.dict=Wq) (h:Q (.builtin "list.pop",[v]) s) :wpAny M A (getMethod v "pop" b) Q E s:=by
 with_reducible exact getMethod_builtin e PySem.F.plainAttrs_list PySem.F.slot_list_pop PySem.F.type_list_pop f h
def vf {m:Mn}(j:m.isLi=true)(b:s.heap.get? a=Kf (bp "list" ws ep)) {i:Sem Bool} {Q:Wx×List Wx->Wj->Prop} {E:Wx->Wj->Prop} (h:Q (.builtin m.lid,[.ref a]) s) :wpAny (model prog w) A (getMethod (.ref a) m.nm i) Q E s:=by have f:s.TypeIs (.ref a) "list":=⟨_,b,rfl⟩;cases m with|append=>exact mS f (λ _ e=>by injection e with e;subst e;exact⟨_,b,rfl⟩) h|pop=>exact vT f (λ _ e=>by injection e with e;subst e;exact⟨_,b,rfl⟩) h|_=>contradiction
def F9 (F:Fst hb pr env l c α s.heap)(f:k∈dom c){d:D}{r:List D}{u0:Wx}{b:List Wx}(h:s.heap.get? (α k)=Kf (bp "list" (u0::b) ep)) (e:(d::r).length<=big) (q:IsD s.heap (aD c α) d u0) (r0:IsDs s.heap (aD c α) r b)  {Q:Wx->Wj->Prop}(u:∀{h'},Fst hb pr env l (cset c k<|.list r) α h'->Le c α s.heap (cset c k<|.list r) α h'->IsD h' (aD (cset c k<|.list r) α) d u0->Q u0 {s with heap:=h'}):wpAny (model prog w) A (call (.builtin "list.pop") [.ref<|α k,.int 0 t]) Q no s:=by
 have i:(u0::b).toArray.size<=sizeLine:=aQ<|Zk (Nat.le_of_eq<|congrArg Nat.succ r0.length.symm) e;refine call_meets PySem.F.slot_list_pop ⟨_,h,rfl⟩ PySem.F.entry_list_pop (PySem.F.args_list_pop_2 _ _) (PySem.MeetsSeq.list_pop_at (α k) (u0::b).toArray ep 0 _ 0 u0 {4} (by rw[Xq];simp[seqIndex?]) (by simp) i) ⟨h,?_⟩;have x:(s.heap.update (α k)<|Obj.mapSeq λ j=>j.eraseIdxIfInBounds 0).get? (α k)=Kf (bp "list" b<|ep+1):=by rw[Heap.get?_update_self _ h<|by rfl];simp[Obj.mapSeq]
 obtain⟨y,p⟩:=F.set f (o:=.list r) (Heap.SameBut.update s.heap (α k)<|Obj.mapSeq λ j=>j.eraseIdxIfInBounds 0)<|λ L=>⟨b,ep+1,x,L.isDs r0⟩;exact u y p<|p.isD q
def qg (F:Fst hb pr env l c α s.heap){m:Mn}(G:ae c k=Kf (.list xs)){K:V->aa->Prop}(h:rW m k xs vs c K)(I:IsVs c α s.heap vs ws){Q:Wx->Wj->Prop}(J:∀v c' f g h' T,K v c'->Fst hb pr env l c' f h'->Le c α s.heap c' f h'->a7 c' f h' v g->Q g {s with heap:=h',toks:=T}):wpAny (model prog w) A (call (.builtin m.lid)<|.ref (α k)::ws) Q no s:=by
 obtain⟨M,U,P,j⟩:=F.toCst.cell k _ G;have b:=aj G
 cases m with
 |append=>
  obtain⟨v,rfl,p⟩:=fu h;obtain⟨d,rfl,R⟩:=cv p;obtain⟨w,rfl,i⟩:=I.one;refine wpAny_list_append_plain (items:=M.toArray) ⟨U,P⟩ (λ h8 q u=>?_)<|by rw[Xq,<-j.length];exact aQ R.1
  obtain⟨x,y⟩:=F.set b (o:=.list _) u (λ L=>by obtain⟨z,W⟩:=q;refine⟨M++[w],z,by rw[W];simp,(IsDs.append (.cons (L.isD i) .nil) (L.isDs j))⟩);exact J _ _ _ _ _ s.toks R.2 x y .none
 |pop=>obtain⟨v,rfl,p⟩:=fu h;obtain⟨n,rfl,rfl,e,r_⟩:=b8 p;obtain⟨d,r,rfl,Y⟩:=r_;obtain⟨w,rfl,i⟩:=I.one;obtain⟨t,rfl⟩:=IsD.inv i;obtain⟨u0,us',rfl,i0,r0⟩:=j.inv;exact F9 F b P e i0 r0 λ x y i=>J _ _ _ _ _ s.toks Y x y i
 |_=>exact h.elim
def k5:Slot "re.Match" "end" "re.Match.end":=
 .of (owner:="re.Match") (n:="end") (by rw[typeLookup_type,builtinLookup_eq_fast];kernel_rfl) {3} {3} {3}
  (by first|exact .inl {3}|exact .inr<|{3}) (by rw[isSubtype_type];kernel_rfl)
def uc:typeOf (.builtin "re.Match.end")=pure (.type "method_descriptor"):=by show builtinType _=_;rw[builtinType_eq_fast];kernel_rfl
def pX:entryFor table "re.Match.end"=Kf Builtin.«re.Match.end»:=entryFor_of_tree<|{2}
def s8 (a:Wx):argsOk "re.Match.end" ⟨[a],[]⟩:=by unfold argsOk;kernel_rfl
def nZ:PlainAttrs "re.Match":=⟨⟨"object.__getattribute__",by rw[typeLookup_type,builtinLookup_eq_fast];kernel_rfl,{3}⟩,by rw[typeLookup_type,builtinLookup_eq_fast];kernel_rfl⟩
def yk {r:Ww}{e:Int}(m:IsM s.heap own r e){b:Sem Bool}{Q:Wx×List Wx->Wj->Prop}{E:Wx->Wj->Prop}(h:Q (.builtin "re.Match.end",[.ref r]) s) :wpAny M A (getMethod (.ref r) "end" b) Q E s:=by
 obtain⟨j,tup,i,k,g1,_⟩:=m.ob;have f:s.TypeIs (.ref r) "re.Match":=⟨_,g1,rfl⟩
 with_reducible exact getMethod_builtin f nZ k5 uc (λ a q=>by injection q with q;subst q;exact⟨_,g1,rfl⟩) h
def Dk {r:Ww}{e:Int}(m:IsM s.heap own r e){Q:Wx->Wj->Prop}{E:Wx->Wj->Prop}(h:∀t b,Q (.int e t) {s with toks:=b}):wpAny (model prog w) A (call (.builtin "re.Match.end") [.ref r]) Q E s:=by
 obtain⟨j,tup,i,k,g1,g2,g3,_⟩:=m.ob;refine wpAny_call_entry k5 ⟨_,g1,rfl⟩ pX ?_<|s8 _;unfold Builtin.«re.Match.end» Re.reOneGroup;refine Zb<|Zb<|Vz (a:=(.ref r,[])) rfl ?_;unfold Re.reFound;refine Zb<|Zb<|wpAny_fieldsOf g1 rfl ?_;rw[g2];refine Zb ?_;show wpAny _ _ (seqItems? (.ref tup)>>=λ o=>pure<|(o.getD #[]).map Re.reRawOf) _ _ _;refine Zb<|wpAny_seqItems g3 rfl<|Zp<|Zp<|Zp ?_;have f:(#[Value.int i 0,Value.int e 0].map Re.reRawOf).getD 1 (-1)=e:=by simp only[List.map_toArray,List.map_cons,List.map_nil];rfl
 refine Zb<|wpAny_mkInt<|Zp ⟨_,rfl,?_⟩;show Q (.int ((#[Value.int i 0,Value.int e 0].map Re.reRawOf).getD 1<|-1) s.toks) _;rw[f];exact h s.toks<|s.toks+1
end
end
inductive IE where
 |c (d:D)|v (i:Nat)|g (u:V)
 |bin (op:Operator) (a b:IE)
 |cmp (op:CmpOp) (a b:IE)
 |not (a:IE)
 |and (a b:IE)|or (a b:IE)
 |ite (t a b:IE)
 |item (a i:IE)
 |slice (a lo hi:IE)
 |attr (a:IE) (nm:Str)
 |bnd (a:IE) (k:Nat)
 |tup (es:List IE)|lst (es:List IE) (k:Option Nat)
 |call (f:IE) (es:List IE) (k:Option Nat)
 |meth (o:IE) (m:Mn) (es:List IE)
 |umeth (o:IE) (f:Ww) (nm:Str) (es:List IE)
 |make (C:Ww) (es:List IE) (k dk:Nat)
 |repl (o:IE) (y z:Str)
 |trans (o:IE) (d:Ww)
 |comp (elt iter:IE) (frees:List Nat) (kk:Nat)
inductive IS where
 |asg (i:Nat) (e:IE)
 |asg2 (i j:Nat) (e:IE)
 |asgA2 (o:IE) (nm:Str) (j:Nat) (e:IE)
 |asgA (o:IE) (nm:Str) (e:IE)
 |unp2 (i j:Nat) (a b:IE)
 |unpT (is:List Nat) (e:IE)
 |unpA (o1:IE) (n1:Str) (o2:IE) (n2:Str) (a b:IE)
 |del_ (a:IE) (i:IE)
 |if_ (t:IE) (a b:List IS)
 |while_ (t:IE) (a b:List IS)
 |for_ (i:Nat) (it:IE) (a:List IS)
 |ret (e:Option IE)
 |assert (t:IE)
 |expr (e:IE)
 |cont|brk
structure Tb where
 names:List Str
 kinds:List (Str×NameKind)
 G:Str->Option V
 cell:Pos->Option Nat
 mak:Str->Pos->Option (Ww×Nat×Nat)
 meth:Str->Option Ww
noncomputable def aR:List Str->Str->Option Nat
 | [],_=>Wq|y::r,x=>if y=x then Kf 0 else (aR r x).map (·+1)
noncomputable def jR (x:Str):Bool:=!(x==("__debug__":Str))&&!(x==("__classdict__":Str))
def d9 (T:Tb)(x:Str):Option IE:=
 if jR x then (match aR T.names x with
  |some i=>Kf<|.v i|none=>if T.kinds.lookup x=Kf .globalImplicit then (T.G x).map .g else Wq) else Wq
def Fp (nm:Str):Option Mn:=[Mn.find,.rfind,.end_,.append,.pop,.count,.join,.exp].find? λ m=>nm==m.nm
def bD (es:List Wz):Bool:=es.all λ e=>!cN e
def lB (T:Tb)(x:Str)(scope:Scope):Option (List Str×List Nat):=
 let fs:=(scope.names.filter λ p=>p.2==.free).map (·.1)
 (fs.mapM<|aR T.names).map λ is=>(fs,is)
noncomputable def iR (T:Tb)(x:Str)(scope:Scope):Bool:=
 (scope.names.all λ p=>p.2 != .cell)&&scope.kind==.function&&(scope.names.all λ p=>p.2 != .local||scope.names.lookup p.1==Kf .local)&&scope.names.lookup x==Kf .local &&
 (scope.names.all λ p=>p.2 != .free||(T.kinds.lookup p.1==Kf .cell&&scope.names.lookup p.1==Kf .free)) &&
 decide ((x::(scope.names.filter λ p=>p.2==.free).map (·.1)).Nodup)
def mm (e:Wz):Bool:=gK e
noncomputable def wK:Const->Option IE
 | .int i=>Kf<|.c<|.int i| .str x=>Kf<|.c<|.str x| .bool b=>Kf<|.c<|.bool b| .none=>Kf<|.c .none|_=>Wq
def E7 (a:Wz):Option IE:=match jc a with|some (.int i)=>Kf<|.c<|.int<|-i|_=>Wq
def Kv (f:Wz->Option IE)(op:UnaryOp)(a:Wz):Option IE:=match op with
 | .Not=>do return .not (<-f a)
 | .USub=>E7 a
 |_=>Wq
noncomputable def qK (f:Wz->Option IE)(op:BoolOp):List Wz->Option IE
 | []=>Wq
 |a::r=>match r with
  | []=>f a
  |_::_=>match op with
   | .And=>do return .and (<-f a) (<-qK f op r)
   | .Or=>do return .or (<-f a) (<-qK f op r)
noncomputable def Cv (f:Wz->Option IE)(op:BoolOp)(es:List Wz):Option IE:=match es with|_::_::_=>qK f op es|_=>Wq
def Ht (f:Wz->Option IE)(T:Tb)(a:Wz)(ops:List CmpOp)(bs:List Wz):Option IE:=match ops,bs with
 | [op],[b]=>if gK b then do return .cmp op (<-f a) (<-f b) else Wq
 |_,_=>Wq
noncomputable def Fu (f:Wz->Option IE):Option Wz->Option IE
 |none=>Kf<|.c .none|some e=>f e
def Dq (f:Wz->Option IE)(T:Tb)(a i:Wz):Option IE:=
 if dK i then (do return .item (<-f a) (<-f i))
 else match qq i with
  |some (lo,hi,Wq)=>do return .slice (<-f a) (<-Fu f lo) (<-Fu f hi)
  |_=>Wq
def vc (f:Wz->Option IE)(T:Tb)(a:Wz)(nm:Str)(pos:Pos):Option IE:=
 if a8 a then (if nm=Mn.append.nm then do return .bnd (<-f a) (<-T.cell pos) else do return .attr (<-f a) nm) else Wq
noncomputable def fk (f:Wz->Option IE):List Wz->Option (List IE)
 | []=>Kf []
 |e::r=>do return (<-f e)::(<-fk f r)
noncomputable def two (args:List Wz):Option (Wz×Wz):=match args with| [a,b]=>Kf (a,b)|_=>Wq
noncomputable def one (args:List Wz):Option Wz:=match args with| [a]=>Kf a|_=>Wq
def sP (a:Wz):Option Str:=match jc a with|some (.str x)=>Kf x|_=>Wq
set_option backward.match.sparseCases false in
noncomputable def Ik (e:IE):Option Wx:=match e with
 | .g u=>(match u with
  | .val w=>Kf w|_=>Wq)
 |_=>Wq
def Df (e:IE):Option Ww:=Ik e>>=EK
def ss {e:IE}(h:Df e=Kf a):e=.g (.val<|.ref a):=by
 cases e with
 |g u=>cases u with|val w=>exact congrArg (λ w=>IE.g<|.val w)<|lU h|_=>contradiction
 |_=>contradiction
def vX (f:Wz->Option IE)(T:Tb)(o:Wz)(nm:Str)(args:List Wz):Option IE:=
 if nm=Qq "replace" then (do
  let (a,b) <-two args
  let y <-sP a
  let z <-sP b
  return .repl (<-f o) y z)
 else if nm=Qq "translate" then (do
  let (t,_) <-cn (<-one args)
  let n <-d9 T t
  let d <-Df n
  return .trans (<-f o) d)
 else match Fp nm with
  |some m=>do return .meth (<-f o) m (<-fk f args)
  |none=>do return .umeth (<-f o) (<-T.meth nm) nm (<-fk f args)
def JX (f:Wz->Option IE)(T:Tb)(x:Str)(args:List Wz)(pos:Pos):Option IE:=match T.mak x pos with
 |some (C,k,dk)=>(do
  let n <-d9 T x
  let C' <-Df n
  if C'=C then do return .make C (<-fk f args) k dk else Wq)
 |none=>do return .call (<-d9 T x) (<-fk f args) (T.cell pos)
def uZ (f:Wz->Option IE)(T:Tb)(g:Wz)(args:List Wz)(kws:List Keyword)(pos:Pos):Option IE:=
 if kws.isEmpty&&bD args then (match eJ g with
  |some (o,nm,apos)=>if a8 o&&decide (args.length<30)&&(apos.endLine==pos.line) then vX f T o nm args else Wq
  |none=>match cn g with|some (x,_)=>JX f T x args pos|none=>Wq)
 else Wq
noncomputable def Hn (T:Tb)(x:Str)(fs:List Str)(scope:Scope):Tb:={T with names:=x::fs,kinds:=scope.names}
def KD (f:Tb->Wz->Option IE)(T:Tb)(elt:Wz)(gs:List Comprehension)(scope:Scope)(pos:Pos):Option IE:=match gs with
 | [g]=>do
  let (x,_) <-cn g.target
  if g.is_async==0&&iR T x scope&&mm g.iter&&jR x&&g.ifs.isEmpty then do
   let (fs,is) <-lB T x scope
   return .comp (<-f (Hn T x fs scope) elt) (<-f T g.iter) is (<-T.cell pos)
  else Wq
 |_=>Wq
set_option backward.match.sparseCases false in
def aH:Nat->Tb->Wz->Option IE
 |0,_,_=>Wq
 |n+1,T,e=>match e with
  | .Constant k _ _=>wK k
  | .Name x _=>d9 T x
  | .BinOp a op b _=>do return .bin op (<-aH n T a) (<-aH n T b)
  | .UnaryOp op a _=>Kv (aH n T) op a
  | .BoolOp op es _=>Cv (aH n T) op es
  | .Compare a ops bs _=>Ht (aH n T) T a ops bs
  | .Subscript a i _=>Dq (aH n T) T a i
  | .Attribute a nm pos=>vc (aH n T) T a nm pos
  | .Tuple es _ _=>if bD es then do return .tup (<-fk (aH n T) es) else Wq
  | .List es pos=>if bD es then do return .lst (<-fk (aH n T) es) (T.cell pos) else Wq
  | .IfExp t a b _=>do return .ite (<-aH n T t) (<-aH n T a) (<-aH n T b)
  | .Call g args kws pos=>uZ (aH n T) T g args kws pos
  | .ListComp elt gs scope pos=>KD (aH n) T elt gs scope pos
  |_=>Wq
noncomputable def rX (T:Tb)(x:Str):Bool:=T.kinds.lookup x==Kf .local||T.kinds.lookup x==Kf .cell
def bU (T:Tb)(x:Str):Option Nat:=if rX T x then aR T.names x else Wq
def oj (T:Tb)(x:Str)(px:Pos)(y:Str)(py:Pos)(a b:Wz):Bool:=
 T.kinds.lookup x==Kf .local&&T.kinds.lookup y==Kf .local&&py.line==px.line&&!(x==y)&&!cN a&&!cN b&&!([a,b].all<|foldedForSure 8)&&!([a,b].all<|constantsAlone 8)
def gY (T:Tb):List Wz->Option (List Nat)
 | []=>Kf []
 |e::r=>cn e>>=λ q=>do return (<-bU T q.1)::(<-gY T r)
def HO (f:Wz->Option IE)(T:Tb)(t value:Wz):Option IS:=
 xC t>>=λ es=>match xC value with
  |none=>if bR value then Wq else (do return .unpT (<-gY T es) (<-f value))
  |some vs=>two es>>=λ q=>two vs>>=λ r=>match cn q.1 with
   |some q1=>cn q.2>>=λ q2=>if oj T q1.1 q1.2 q2.1 q2.2 r.1 r.2 then (do return .unp2 (<-bU T q1.1) (<-bU T q2.1) (<-f r.1) (<-f r.2)) else Wq
   |none=>eJ q.1>>=λ q1=>eJ q.2>>=λ q2=>if bD [r.1,r.2] then (do return .unpA (<-f q1.1) q1.2.1 (<-f q2.1) q2.2.1 (<-f r.1) (<-f r.2)) else Wq
def FD (f:Wz->Option IE)(T:Tb)(t value:Wz):Option IS:=match cn t with
 |some (x,_)=>if bR value then Wq else do return .asg (<-bU T x) (<-f value)
 |none=>match eJ t with
  |some (o,nm,_)=>if bR value then Wq else do return .asgA (<-f o) nm (<-f value)
  |none=>HO f T t value
def asg2 (f:Wz->Option IE)(T:Tb)(t1 t2 value:Wz):Option IS:=do
 let (y,_) <-cn t2
 if bR value then Wq else match cn t1 with
  |some (x,_)=>do return .asg2 (<-bU T x) (<-bU T y) (<-f value)
  |none=>do
   let (o,nm,_) <-eJ t1
   return .asgA2 (<-f o) nm (<-bU T y) (<-f value)
def Hi (f:Wz->Option IE)(T:Tb)(ts:List Wz)(value:Wz):Option IS:=match ts with| [t]=>FD f T t value| [t1,t2]=>asg2 f T t1 t2 value|_=>Wq
def Ig (f:Wz->Option IE)(g:List Stmt->Option (List IS))(T:Tb)(t it:Wz)(a b:List Stmt):Option IS:=do
 let (x,_) <-cn t
 if b.isEmpty&&mm it then do return .for_ (<-bU T x) (<-f it) (<-g a) else Wq
def Ei (f:Wz->Option IE)(ts:List Wz):Option IS:=
 one ts>>=λ t=>GF t>>=λ q=>do return .del_ (<-f q.1) (<-f q.2)
noncomputable def Hv (f:Wz->Option IE):Option Wz->Option IS
 |none=>Kf<|.ret Wq
 |some e=>do return .ret (Kf<|<-f e)
set_option backward.match.sparseCases false in
mutual
noncomputable def oq:Nat->Tb->Stmt->Option IS
 |0,_,_=>Wq
 |n+1,T,st=>match st with
  | .Assign ts value _=>Hi (aH n T) T ts value
  | .If t a b _=>do return .if_ (<-aH n T t) (<-aV n T a) (<-aV n T b)
  | .While t a b _=>do return .while_ (<-aH n T t) (<-aV n T a) (<-aV n T b)
  | .For t it a b _=>Ig (aH n T) (aV n T) T t it a b
  | .Return e _=>Hv (aH n T) e
  | .Delete ts _=>Ei (aH n T) ts
  | .Assert t m _=>if m.isNone then do return .assert (<-aH n T t) else Wq
  | .Expr e _=>if bR e then Wq else do return .expr (<-aH n T e)
  | .Continue _=>Kf .cont
  | .Break _=>Kf .brk
  |_=>Wq
noncomputable def aV:Nat->Tb->List Stmt->Option (List IS)
 |0,_,_=>Wq
 |_+1,_,[]=>Kf []
 |n+1,T,st::r=>do return (<-oq n T st)::(<-aV n T r)
end
abbrev Sl:=List<|Option V
noncomputable def av (l:Sl)(i:Nat):Option V:=match l[i]? with|some o=>o|none=>Wq
structure Pm where
 C:Ww
 attr:Str->Bool
 fn:Ww->Spec
 isFn:Ww->Bool
 init:Ww
 td:Ww
 tr:Nat->Nat
def fo (c c':aa):Prop:=∀k∈dom c,k∈dom c'
noncomputable def LA:V->Option D
 | .d x=>Kf x|_=>Wq
noncomputable def iA:List V->Option (List D)
 | []=>Kf []| .d x::r=>(iA r).map (x::·)|_::_=>Wq
def G3 (P:Pm)(c:aa)(a:Ww)(vs:List V)(K:V->aa->Prop):Prop:=P.isFn a=true/\P.fn a vs c (λ v c'=>fo c c'/\K v c')
def G2 (c:aa)(j:Nat)(vs:List V)(K:V->aa->Prop):Prop:=iE (ae c j) λ id g=>id="list.append"/\v1 vs λ v=>v4 v λ d=>dB (ae c g) λ xs=>xs.length<=big/\K (.d .none) (cset c g<|.list<|xs++[d])
def d8 (P:Pm)(c:aa)(k:Option Nat)(u:V)(vs:List V)(K:V->aa->Prop):Prop:=match u with
 | .bi b=>Ku c k b vs K| .val w=>aC (EK w) λ a=>G3 P c a vs K
 | .obj j=>G2 c j vs K|_=>False
def i8 (c:aa)(u:V)(m:Mn)(vs:List V)(K:V->aa->Prop):Prop:=match u with
 | .d x=>sD x λ x=>m.isS=true/\r6 m x vs c K
 | .obj k=>m.isLi=true/\dB (ae c k) λ xs=>rW m k xs vs c K
 | .mt e=>m=.end_/\vs=[]/\K (.d<|.int e) c|_=>False
noncomputable def GS:Mn->Bool
 | .end_=>true|_=>false
def cH (c:aa)(u:V)(m:Mn):Prop:=match u with
 | .d x=>sD x λ _=>m.isS=true
 | .obj k=>m.isLi=true/\dB (ae c k) λ _=>True
 | .mt _=>GS m=true|_=>False
def jw (P:Pm)(c:aa)(u:V)(K:List (Str×V)->Prop):Prop:=jn u λ k=>fJ (ae c k) λ C dk=>C=P.C/\DY (ae c dk) K
def Ct (rE:IE->Sl->aa->(V->aa->Prop)->Prop)(elt:IE)(fr:Sl)(kk:Nat)(K:V->aa->Prop)(v:V)(c1:aa):Prop:=
 gN v/\∃xs,cX v=Kf xs/\xs.length<=big/\kk∉dom c1/\∃I:Nat->List D->aa->Prop,I 0 [] c1/\
  (∀i d acc c',xs[i]?=Kf d->I i acc c'->kk∉dom c'/\
   rE elt (Kf (.d d)::fr) (c'++[(kk,.list acc)]) λ v c3=>∃d' c4,v=.d d'/\c3=c4++[(kk,.list acc)]/\kk∉dom c4/\I (i+1) (acc++[d']) c4)/\
  (∀acc c',I xs.length acc c'->kk∉dom c'/\cK (c'++[(kk,.list acc)]) c' c'/\K (.d<|.lst acc) c')
def K5 (P:Pm)(rE:IE->Sl->aa->(V->aa->Prop)->Prop)(rT:IE->Sl->aa->(Bool->aa->Prop)->Prop)(rEs:List IE->Sl->aa->(List V->aa->Prop)->Prop)(e:IE)(l:Sl)(c:aa)(K:V->aa->Prop):Prop:=
 match e with
  | .c d=>K (.d d) c| .v i=>aC (av l i) λ v=>K v c
  | .g u=>K u c| .bin op a b=>rE a l c λ u c1=>rE b l c1 λ v c2=>s9 c2 op u v λ d=>K (.d d) c2
  | .cmp op a b=>rE a l c λ u c1=>rE b l c1 λ v c2=>gH c2 op u v λ r=>K (.d<|.bool r) c2
  | .not a=>rE a l c λ u c1=>bJ c1 u λ r=>K (.d<|.bool !r) c1
  | .and a b=>rE a l c λ u c1=>bJ c1 u λ r=>(r=false->K u c1)/\(r=true->rE b l c1 K)
  | .or a b=>rE a l c λ u c1=>bJ c1 u λ r=>(r=true->K u c1)/\(r=false->rE b l c1 K)
  | .item a i=>rE a l c λ u c1=>rE i l c1 λ v c2=>f8 c2 u v λ d=>K (.d d) c2
  | .slice a lo hi=>rE a l c λ u c1=>rE lo l c1 λ v c2=>rE hi l c2 λ w c3=>mo c3 u v w λ d=>K (.d d) c3
  | .attr a nm=>rE a l c λ u c1=>P.attr nm=true/\jw P c1 u λ fs=>aC (look fs nm) λ v=>kQ v=true/\K v c1
  | .bnd a k=>rE a l c λ u c1=>jn u λ j=>dB (ae c1 j) λ _=>k∉dom c1/\K (.obj k) (c1++[(k,.bound "list.append" j)])
  | .tup es=>rEs es l c λ vs c1=>aC (iA vs) λ ds=>ds.length<=big/\K (.d<|.tup ds) c1
  | .lst es k=>rEs es l c λ vs c1=>aC (iA vs) λ ds=>ds.length<=big/\dI c1 k ds K
  | .call f es k=>rE f l c λ u c1=>rEs es l c1 λ vs c2=>d8 P c2 k u vs K
  | .meth o m es=>rE o l c λ u c1=>cH c1 u m/\rEs es l c1 λ vs c2=>i8 c2 u m vs K
  | .umeth o f nm es=>rE o l c λ u c1=>(jw P c1 u λ fs=>look fs nm=Wq)/\rEs es l c1 λ vs c2=>P.isFn f=true/\P.fn f (u::vs) c2 (λ v c3=>fo c2 c3/\K v c3)
  | .make C es _ _=>C=P.C/\rEs es l c λ vs c1=>∃k dk,k∉dom c1/\dk∉dom c1/\k≠dk/\P.fn P.init (.obj k::vs) (c1++[(dk,.ns [])]++[(k,.inst C dk)]) (λ v c2=>v=.d .none/\fo (c1++[(dk,.ns [])]++[(k,.inst C dk)]) c2/\K (.obj k) c2)
  | .repl o y z=>rE o l c λ u c1=>g6 u λ x=>x.length<=big/\z.length<=14/\(y==z)=false/\K (.d<|.str<|Txt.replace x y z) c1
  | .trans o d=>rE o l c λ u c1=>g6 u λ x=>d=P.td/\(∀ch∈x.cps.toList,ch<128)/\x.length<=big/\K (.d<|.str ⟨x.cps.map P.tr⟩) c1
  | .comp elt iter frees kk=>rE iter l c<|Ct rE elt (frees.map<|av l) kk K| .ite t a b=>rT t l c λ r c1=>(r=true->rE a l c1 K)/\(r=false->rE b l c1 K)
set_option backward.match.sparseCases false in
def Lj (rE:IE->Sl->aa->(V->aa->Prop)->Prop)(rT:IE->Sl->aa->(Bool->aa->Prop)->Prop)(e:IE)(l:Sl)(c:aa)(K:Bool->aa->Prop):Prop:=
 match e with
  | .cmp op a b=>rE a l c λ u c1=>rE b l c1 λ v c2=>gH c2 op u v λ r=>K r c2
  | .not a=>rT a l c λ r c1=>K (!r) c1
  | .and a b=>rT a l c λ r c1=>(r=false->K false c1)/\(r=true->rT b l c1 K)
  | .or a b=>rT a l c λ r c1=>(r=true->K true c1)/\(r=false->rT b l c1 K)
  | .c ..=>False| .ite ..=>False|e=>rE e l c λ u c1=>bJ c1 u λ r=>K r c1
mutual
def aU (P:Pm):Nat->IE->Sl->aa->(V->aa->Prop)->Prop
 |0,_,_,_,_=>False|n+1,e,l,c,K=>K5 P (aU P n) (fN P n) (ka P n) e l c K
def fN (P:Pm):Nat->IE->Sl->aa->(Bool->aa->Prop)->Prop
 |0,_,_,_,_=>False|n+1,e,l,c,K=>Lj (aU P n) (fN P n) e l c K
def ka (P:Pm):Nat->List IE->Sl->aa->(List V->aa->Prop)->Prop
 |0,_,_,c,K=>False|n+1,es,l,c,K=>match es with| []=>K [] c|e::r=>aU P n e l c λ v c1=>ka P n r l c1 λ vs c2=>K (v::vs) c2
end
structure Sg' where
 l:Sl
 c:aa
def yU (l:Sl)(c c':aa):Nat->Sl->Prop
 |_,[]=>True|i,Wq::r=>yU l c c' (i+1) r|i,Kf v'::r=>(∃v,av l i=Kf v/\vW c c' v v')/\yU l c c' (i+1) r
structure Wk (pr:List Nat)(σ τ:Sg'):Prop where
 l:yU σ.l σ.c τ.c 0 τ.l
 len:τ.l.length=σ.l.length
 c:cK σ.c τ.c τ.c
 pr:∀k∈pr,k∈dom τ.c
def bf (P:Pm)(c:aa)(u:V)(nm:Str)(v:V)(K:aa->Prop):Prop:=jn u λ k=>fJ (ae c k) λ C dk=>C=P.C/\P.attr nm=true/\DY (ae c dk) λ fs=>fs.length<=1000/\K (cset c dk<|.ns<|a6 fs nm v)
def w5 (u:V)(K:List D->Prop):Prop:=v4 u λ x=>match x with| .tup xs=>K xs|_=>False
def s4 {K:List D->Prop}(h:w5 u K):∃xs,u=.d (.tup xs)/\K xs:=by obtain⟨x,rfl,h⟩:=cv h;cases x with|tup xs=>exact⟨xs,rfl,h⟩|_=>exact h.elim
noncomputable def oL:Sl->List Nat->List D->Sl
 |l,i::is,x::xs=>oL (l.set i<|some<|.d x) is xs|l,_,_=>l
def z6 (c:aa)(u v:V)(K:aa->Prop):Prop:=jn u λ k=>f6 v λ i=>i=-1/\dB (ae c k) λ xs=>xs≠[]/\xs.length<=big/\K (cset c k<|.list xs.dropLast)
def Lc (P:Pm)(pr:List Nat)(rE:IE->Sl->aa->(V->aa->Prop)->Prop)(rT:IE->Sl->aa->(Bool->aa->Prop)->Prop)(rB:List IS->Sg'->(F->Sg'->Prop)->Prop)(st:IS)(σ:Sg')(K:F->Sg'->Prop):Prop:=
 match st with
  | .asg i e=>rE e σ.l σ.c λ v c1=>K .next ⟨σ.l.set i<|some v,c1⟩
  | .asg2 i j e=>rE e σ.l σ.c λ v c1=>K .next ⟨(σ.l.set i<|some v).set j<|some v,c1⟩
  | .asgA o nm e=>rE e σ.l σ.c λ v c1=>rE o σ.l c1 λ u c2=>bf P c2 u nm v λ c3=>K .next ⟨σ.l,c3⟩
  | .asgA2 o nm j e=>rE e σ.l σ.c λ v c1=>rE o σ.l c1 λ u c2=>bf P c2 u nm v λ c3=>K .next ⟨σ.l.set j<|some v,c3⟩
  | .unp2 i j a b=>rE a σ.l σ.c λ u c1=>rE b σ.l c1 λ v c2=>(∃x y,u=.d x/\v=.d y)/\K .next ⟨(σ.l.set j<|some v).set i<|some u,c2⟩
  | .unpT is e=>rE e σ.l σ.c λ u c1=>w5 u λ xs=>xs.length=is.length/\K .next ⟨oL σ.l is xs,c1⟩
  | .unpA o1 n1 o2 n2 a b=>rE a σ.l σ.c λ u c1=>rE b σ.l c1 λ v c2=>dd u v λ x y=>rE o1 σ.l c2 λ u1 c3=>bf P c3 u1 n1 (.d x) λ c4=>rE o2 σ.l c4 λ u2 c5=>bf P c5 u2 n2 (.d y) λ c6=>K .next ⟨σ.l,c6⟩
  | .del_ a i=>rE a σ.l σ.c λ u c1=>rE i σ.l c1 λ v c2=>z6 c2 u v λ c3=>K .next ⟨σ.l,c3⟩
  | .if_ t a b=>rT t σ.l σ.c λ r c1=>(r=true->rB a ⟨σ.l,c1⟩ K)/\(r=false->rB b ⟨σ.l,c1⟩ K)
  | .while_ t a b=>∃(I:Nat->Sg'->Prop) (k:Nat),I k σ/\∀k τ,I k τ->rT t τ.l τ.c λ r c1=>
    (r=true->rB a ⟨τ.l,c1⟩ λ f υ=>match f with
     | .next | .cont=>∃k' υ',k'<k/\Wk pr υ υ'/\I k' υ'| .brk=>K .next υ| .ret v=>K (.ret v) υ)/\(r=false->rB b ⟨τ.l,c1⟩ K)
  | .for_ i it a=>rE it σ.l σ.c λ v c1=>gN v/\∃xs,cX v=Kf xs/\∃I:Nat->Sg'->Prop,I 0 ⟨σ.l,c1⟩/\
    (∀j d τ,xs[j]?=Kf d->I j τ->i<τ.l.length/\rB a ⟨τ.l.set i (Kf (.d d)),τ.c⟩ λ f υ=>match f with
     | .next | .cont=>∃υ',Wk pr υ υ'/\I (j+1) υ'| .brk=>K .next υ| .ret v=>K (.ret v) υ)/\∀τ,I xs.length τ->K .next τ
  | .ret Wq=>K (.ret<|.d .none) σ| .ret (Kf e)=>rE e σ.l σ.c λ v c1=>K (.ret v) ⟨σ.l,c1⟩
  | .assert t=>rT t σ.l σ.c λ r c1=>r=true/\K .next ⟨σ.l,c1⟩
  | .expr e=>rE e σ.l σ.c λ v c1=>K .next ⟨σ.l,c1⟩
  | .cont=>K .cont σ| .brk=>K .brk σ
mutual
def oK (P:Pm)(pr:List Nat):Nat->IS->Sg'->(F->Sg'->Prop)->Prop
 |0,_,_,_=>False|n+1,st,σ,K=>Lc P pr (aU P n) (fN P n) (aJ P pr n) st σ K
def aJ (P:Pm)(pr:List Nat):Nat->List IS->Sg'->(F->Sg'->Prop)->Prop
 |0,_,_,_=>False|n+1,b,σ,K=>match b with| []=>K .next σ|st::r=>oK P pr n st σ λ f τ=>match f with | .next=>aJ P pr n r τ K|f=>K f τ
end
noncomputable def ad:List Str->Sl->cI
 |x::xs,Kf v::l=>(x,v)::ad xs l|_::xs,Wq::l=>ad xs l|_,_=>[]
def eY {names:List Str}:∀(l:Sl) (x:Str),x∉names->look (ad names l) x=Wq:=by induction names with|nil=>intro l x _;cases l<;>rfl|cons y ys ih=>intro l x h;have f:y≠x:=λ e=>h<|e▸.head _;have b:x∉ys:=λ e=>h<|.tail _ e;cases l with|nil=>rfl|cons o l=>cases o with|none=>exact ih l x b|some v=>show (if y=x then _ else _)=_;rw[Wg f];exact ih l x b
def qj {names:List Str}:∀{x:Str} {i:Nat},aR names x=Kf i->x∈names/\i<names.length:=by induction names with|nil=>intro x i h;contradiction|cons y ys ih=>intro x i h;dsimp only[aR] at h;by_cases e:y=x;rw[Wy e] at h;injection h with h;subst h;exact⟨e▸.head _,by simp⟩;rw[Wg e] at h;obtain⟨j,b,rfl⟩:=Option.map_eq_some_iff.mp h;obtain⟨f,k⟩:=ih b;exact⟨.tail _ f,by simp;exact k⟩
def hX {names:List Str}:∀{x:Str},aR names x=Wq->x∉names:=by
 induction names with|nil=>intro x _ h;simp at h|cons y ys ih=>
  intro x h b;dsimp only[aR] at h;by_cases e:y=x;rw[Wy e] at h;contradiction;rw[Wg e] at h;rcases Qy.mp b with q|q
  exact e q.symm;exact ih (Option.map_eq_none_iff.mp h) q
def cW {names:List Str}(f:names.Nodup):∀(l:Sl) {x:Str} {i:Nat},aR names x=Kf i->look (ad names l) x=av l i:=by
 induction names with|nil=>intro l x i h;contradiction|cons y ys ih=>
  intro l x i h;obtain⟨k,b⟩:=List.nodup_cons.mp f;dsimp only[aR] at h;by_cases e:y=x;rw[Wy e] at h;injection h with h;subst h;cases l with|nil=>rfl|cons o l=>cases o with|none=>show look (ad ys l) x=Wq;exact eY l x<|e▸k|some v=>show (if y=x then _ else _)=_;rw[Wy e];rfl
  rw[Wg e] at h;obtain⟨j,p,rfl⟩:=Option.map_eq_some_iff.mp h;cases l with|nil=>rfl|cons o l=>have:=ih b l p;cases o with|none=>exact this|some v=>show (if y=x then _ else _)=_;rw[Wg e];exact this
def wu (l:Sl)(i j:Nat)(v:Option V)(h:i<l.length):av (l.set i v) j=if j=i then v else av l j:=by unfold av;rw[List.getElem?_set];by_cases e:i=j;subst e;simp[h];rw[Wg e,Wg<|λ q=>e q.symm]
def pf {names:List Str}:∀{x y:Str} {i:Nat},aR names x=Kf i->aR names y=Kf i->x=y:=by induction names with|nil=>intro x y i h;contradiction|cons z zs ih=>intro x y i b e;dsimp only[aR] at b e;by_cases f:z=x<;>by_cases k:z=y;exact f.symm.trans k;rw[Wy f] at b;rw[Wg k] at e;injection b with b;subst b;obtain⟨j,_,q⟩:=Option.map_eq_some_iff.mp e;contradiction;rw[Wg f] at b;rw[Wy k] at e;injection e with e;subst e;obtain⟨j,_,q⟩:=Option.map_eq_some_iff.mp b;contradiction;rw[Wg f] at b;rw[Wg k] at e;obtain⟨j,o,rfl⟩:=Option.map_eq_some_iff.mp b;obtain⟨p,l,q⟩:=Option.map_eq_some_iff.mp e;injection q with q;subst q;exact ih o l
def i9 {names:List Str}(k:names.Nodup){l:Sl}(hl:l.length=names.length)(h:aR names x=Kf i)(v:V)(y:Str) :look (ad names<|l.set i<|some v) y=look (a6 (ad names l) x v) y:=by rw[dG];obtain⟨o,p⟩:=qj h;cases b:aR names y with|none=>have f:=hX b;rw[eY _ _ f,eY _ _ f,Wg<|λ (e:y=x)=>f<|e▸o]|some j=>rw[cW k _ b,cW k _ b,wu _ _ _ _<|by rw[hl];exact p];by_cases e:y=x;subst e;rw[b] at h;injection h with h;subst h;rw[Wy rfl,Wy rfl];rw[Wg e,Wg<|λ (q:j=i)=>e<|pf (q▸b) h]
theorem Fst.look {env:Env}{l l':cI}(F:Fst hb pr env l c α h)(e:∀x v,look l' x=Kf v->Mine.look l x=Kf v):Fst hb pr env l' c α h:=
 ⟨F.toCst,F.ns,F.cel,λ x v q=>F.loc x v (e x v q),F.fr⟩
theorem OkE.look {A:Around}{env:Env}{l l':cI}{β γ:Type}{I:aa->Al->Wu->β->γ->Prop}{t:Sem γ}{K:β->aa->Prop}(e:∀x,Mine.look l' x=Mine.look l x)(h:OkE M A hb pr env I l c t K):OkE M A hb pr env I l' c t K:=
 λ α s Q j F o=>h α s Q j (F.look λ x v q=>by rw[e];exact q) λ b p r g u w y k f le i=>o b p r g u w y k (f.look λ x v q=>by rw[<-e];exact q) le i
def OkE.mono {A:Around}{env:Env}{l:cI}{β γ:Type}{I:aa->Al->Wu->β->γ->Prop}{t:Sem γ}{K e:β->aa->Prop}(h:OkE M A hb pr env I l c t K) (j:∀b c',K b c'->e b c'):OkE M A hb pr env I l c t e:=
 λ α s Q o F p=>h α s Q o F λ b c' q g r u w k f le i=>p b c' q g r u w (j b c' k) f le i
def d5 (prog:Program)(w:Wv)(hb:Wu)(x:Str)(v:V):Prop:=
 ∃g,(∀c α h,a7 c α h v g)/\∀(env:Env) (A:Around) (s:Wj) (Q:Wx->Wj->Prop),EnvOk env->env.globals=mainGlobals->env.builtins=builtinsNs->env.kindOf x=Kf .globalImplicit->
  (∀b o,hb.get? b=Kf o->s.heap.get? b=Kf o)->Q g s->wpAny (model prog w) A (loadName env x) Q no s
structure Cx0 (prog:Program)(w:Wv)(hb:Wu)(K:Frag)(T:Tb)(P:Pm)(dep:Nat):Prop where
 kin:K.In hb
 glob:∀x v,T.G x=Kf v->d5 prog w hb x v
 cls:ClsOk K P.C
 attr:∀nm,P.attr nm=true->findIn K (.ref P.C) nm=Kf Wq
 meth:∀nm f,T.meth nm=Kf f->findIn K (.ref P.C) nm=Kf (Kf<|.ref f)/\typeIn K (.ref f)=Kf (.type "function")
 fn:∀a,P.isFn a=true->(∃k,Looks (model prog w) hb (keeperOf<|.ref a) k)/\FnOk prog w hb dep a (P.fn a)
 makes:makesIn K P.C=true
 ini:findIn K (.ref P.C) "__init__"=Kf (Kf<|.ref P.init)/\typeIn K (.ref P.init)=Kf (.type "function")
 inif:FnOk prog w hb dep P.init (P.fn P.init)
 keep:keepIn K (.ref P.C)=true
 tab:∃C',TabOk K P.td C' P.tr
structure CxE (env:Env)(T:Tb):Prop where
 eo:EnvOk env
 gl:env.globals=mainGlobals
 bl:env.builtins=builtinsNs
 kg:∀x,T.kinds.lookup x=Kf .globalImplicit->env.kindOf x=Kf .globalImplicit
 kl:∀x,T.kinds.lookup x=Kf .local->env.kindOf x=Kf .local
 kc:∀x,T.kinds.lookup x=Kf .cell->env.kindOf x=Kf .cell/\∃b,env.cells.lookup x=Kf b
 nd:T.names.Nodup
section
variable {w:Wv}{A:Around}{env:Env}{T:Tb}{P:Pm}
def gh (h:jR x=true):(x==("__debug__":Str))=false/\(x==("__classdict__":Str))=false:=by unfold jR at h;simp only[Xv,Bool.not_eq_true'] at h;exact h
def gG {T:Tb}{e:IE}(h:d9 T x=Kf e):jR x=true/\((∃i,aR T.names x=Kf i/\e=.v i)\/∃v,T.kinds.lookup x=Kf .globalImplicit/\T.G x=Kf v/\e=.g v):=by obtain⟨b,h⟩:=qh h;refine⟨b,?_⟩;cases q:aR T.names x with|some i=>rw[q] at h;exact .inl ⟨i,rfl,(Option.some.inj h).symm⟩|none=>rw[q] at h;obtain⟨f,h⟩:=qh h;obtain⟨v,j,e⟩:=Option.map_eq_some_iff.mp h;exact .inr ⟨v,f,j,e.symm⟩
def d7 (X:Cx0 prog w hb K₀ T P dep)(E:CxE env T){p:Pos}{e:IE}(h:d9 T x=Kf e){l:Sl}{K:V->aa->Prop}(b:aU P n e l c K) :OkE (model prog w) A hb pr env a7 (ad T.names l) c (eval (.Name x p) env) K:=by
 obtain⟨t,h⟩:=gG h;obtain⟨r,u⟩:=gh t
 cases n with|zero=>exact False.elim b|succ n=>
  rcases h with ⟨i,y,rfl⟩|⟨v,z,j,rfl⟩
  obtain⟨v,j,b⟩:=aB (f:=λ v=>K v c) (o:=av l i) b;exact λ α s Q k F q=>wpAny_Name (BC E.eo F (by rw[cW E.nd _ y];exact j) u λ g i=>q v c α g s.heap s.toks k b F (.refl ..) i) r;obtain⟨g,G,I⟩:=X.glob x v j;exact λ α s Q k F q=>wpAny_Name (I env A s Q E.eo E.gl E.bl (E.kg x z) F.base<|q v c α g s.heap s.toks k b F (.refl ..)<|G _ _ _) r
def r8 (e:iA vs=Kf ds)(i:IsVs c α h vs ws):IsDs h (aD c α) ds ws:=by induction i generalizing ds with|nil=>exact Option.some.inj e▸.nil| @cons v w vs ws i r ih=>cases v with|d x=>obtain⟨b,f,rfl⟩:=Option.map_eq_some_iff.mp e;exact .cons i<|ih f|_=>contradiction
def cP {α β γ:Type}{a:Option α}{b:Option β}{f:α->β->γ}{r:γ}(h:(do return f (<-a) (<-b))=Kf r):∃x y,a=Kf x/\b=Kf y/\r=f x y:=by
 cases a with
 |none=>contradiction
 |some x=>cases b with
  |none=>contradiction
  |some y=>injection h with h;subst h;exact⟨x,y,rfl,rfl,rfl⟩
def fq {α γ:Type}{a:Option α}{f:α->γ}{r:γ}(h:(do return f (<-a))=Kf r):∃x,a=Kf x/\r=f x:=by
 cases a with
 |none=>contradiction
 |some x=>injection h with h;subst h;exact⟨x,rfl,rfl⟩
def gu {α β δ γ:Type}{a:Option α}{b:Option β}{d:Option δ}{f:α->β->δ->γ}{r:γ}(h:(do return f (<-a) (<-b) (<-d))=Kf r):∃x y z,a=Kf x/\b=Kf y/\d=Kf z/\r=f x y z:=by
 cases a with
 |none=>contradiction
 |some x=>cases b with
  |none=>contradiction
  |some y=>cases d with
   |none=>contradiction
   |some z=>injection h with h;subst h;exact⟨x,y,z,rfl,rfl,rfl,rfl⟩
end
section
variable {w:Wv}{A:Around}{env:Env}{T:Tb}{P:Pm}
def yb {l:cI}{K:V->aa->Prop}{d:D}{k:Const}{p:Pos}(e:(match k with | .int i=>d=.int i | .str x=>d=.str x | .bool b=>d=.bool b | .none=>d=.none|_=>False))(h:K (.d d) c) :OkE (model prog w) A hb pr env a7 l c (eval (.Constant k n p) env) K:=by refine OkE.mk λ α s Q j F f=>?_;cases k with|int i=>subst e;exact wpAny_Constant_int<|f _ c α _ s.heap _ h F (.refl ..)<|.int _ _|str x=>subst e;exact wpAny_Constant_str<|f _ c α _ s.heap _ h F (.refl ..)<|.str _ _|bool b=>subst e;exact Zp<|f _ c α _ s.heap s.toks h F (.refl ..)<|.bool _|none=>subst e;exact Zp<|f _ c α _ s.heap s.toks h F (.refl ..) .none|_=>exact e.elim
def m9 (X:Cx0 prog w hb K₀ T P dep)(R:Room (dep+1) A){l:cI}{k:Option Nat}{K:V->aa->Prop}(h:d8 P c k u vs K){f:Wx}(hs:1<=s.toks)(F:Fst hb pr env l c α s.heap) (M:a7 c α s.heap u f) (U:IsVs c α s.heap vs ws) {Q:Wx->Wj->Prop}(W:∀v e q g p r,1<=r->K v e->Fst hb pr env l e q p->Le c α s.heap e q p->a7 e q p v g->Q g {s with heap:=p,toks:=r}):wpAny (model prog w) A (call f ws) Q no s:=by
 refine aA hs ?_
 cases u with
 |bi b=>obtain rfl:f=_:=M;exact Hf R.handled F h U λ v x y g z r G F' I i t=>W v x y g z r t G F' I i
 |val w'=>obtain⟨a,ha,Y,hP⟩:=aB h;obtain rfl:=lU ha;obtain rfl:f=_:=M;obtain⟨_,FO⟩:=X.fn a Y;refine wpAny_call ?_;refine FO A (R.less<|Nat.le_succ _) vs ws c α s _ _ hs ⟨F.base,F.cell,F.fresh,F.inj,λ _ hk=>by cases hk⟩ U hP λ v x y g z r G J I i=>?_;intro t;have C'':Cst hb pr x y z:=⟨J.base,J.cell,J.fresh,J.inj,λ k hk=>G.1 k<|F.prs k hk⟩;exact W v x y g z r t G.2 (F.le I C'') I i
 |obj j=>obtain⟨id,g,hj,rfl,p1⟩:=io h;obtain⟨v,rfl,p2⟩:=fu p1;obtain⟨d,rfl,p3⟩:=cv p2;obtain⟨xs,hg,h1,h2⟩:=dh p3;obtain⟨w',rfl,i⟩:=U.one;obtain⟨rfl,hjm⟩:=M;obtain⟨hb',hgm⟩:=F.toCst.cell j _ hj;obtain⟨us,ep,gk,rk⟩:=F.toCst.cell g _ hg;refine pP (xs:=us.toArray) hb' gk (by rw[Xq,<-rk.length];exact aQ h1) λ h8 hl8 hs8=>?_;intro t;obtain⟨F8,L8⟩:=F.set hgm (o:=.list (xs++[d])) hs8 (λ L=>by obtain⟨ep8,g8⟩:=hl8;exact⟨us++[w'],ep8,by rw[g8];simp,(IsDs.append (.cons (L.isD i) .nil) (L.isDs rk))⟩);exact W _ _ _ _ _ s.toks t h2 F8 L8 .none
 |_=>exact h.elim
def gQ (X:Cx0 prog w hb K₀ T P dep){f:Wx}(C:Cst hb pr c α h)(e:a7 c α h u f)(l:(∃b,u=.bi b)\/(∃a,u=.val (.ref a)/\P.isFn a=true)\/∃j g,u=.obj j/\ae c j=Kf (.bound "list.append" g)) :∃k,Looks (model prog w) h (keeperOf f) k:=by
 rcases l with ⟨b,rfl⟩|⟨a,rfl,o⟩|⟨j,g,rfl,p⟩
 subst e;exact⟨.machine,by cases b<;>exact Looks.of_pure rfl⟩;subst e;obtain⟨⟨k,q⟩,_⟩:=X.fn a o;exact⟨k,q.keeps C.base⟩;obtain⟨rfl,_⟩:=e;obtain⟨i,_⟩:=C.cell j _ p;exact⟨.machine,mv i⟩
def yF (P:Pm)(c:aa)(u:V):Prop:=(∃b,u=.bi b)\/(∃a,u=.val (.ref a)/\P.isFn a=true)\/∃j g,u=.obj j/\ae c j=Kf (.bound "list.append" g)
def ji {k:Option Nat}{K:V->aa->Prop}(h:d8 P c k u vs K):yF P c u:=by cases u with|bi b=>exact .inl ⟨_,rfl⟩|val w=>obtain⟨a,e,h⟩:=aB h;exact .inr<|.inl ⟨a,congrArg V.val<|lU e,h.1⟩|obj j=>obtain⟨id,g,f,rfl,h⟩:=io h;exact .inr<|.inr ⟨_,_,rfl,f⟩|_=>exact h.elim
end
section
variable {w:Wv}{A:Around}{env:Env}{T:Tb}{P:Pm}{l:cI}
abbrev Ev (prog:Program) (w:Wv) (A:Around) (hb:Wu) (pr:List Nat) (env:Env) (l:cI) (c:aa) (e:Wz) (K:V->aa->Prop):Prop:=OkE (model prog w) A hb pr env a7 l c (eval e env) K
abbrev sW (prog:Program) (w:Wv) (A:Around) (hb:Wu) (pr:List Nat) (env:Env) (l:cI) (c:aa) (e:Wz) (K:Bool->aa->Prop):Prop:=OkE (model prog w) A hb pr env mB l c (isTrue e env<|eval e env) K
def HY {a b:Wz}{op:Operator}{p:Pos}{K:V->aa->Prop}(h:Ev prog w A hb pr env l c a λ u k=>Ev prog w A hb pr env l k b λ v e=>s9 e op u v λ d=>K (.d d) e):Ev prog w A hb pr env l c (.BinOp a op b p) K:=by intro α s Q q F r;refine wpAny_BinOp<|h α s _ q F λ u k t g1 h1 t1 f x y z G=>?_;refine x t _ _ f y λ v e I g2 o t2 j J L L2 M=>?_;refine aA (s:={s with heap:=o,toks:=t2}) j<|Fm (s:={s with heap:=o,toks:=t2}) L J (L2.isV G) M λ d g R U W Y L' i ht=>?_;exact r _ e I g R U ht W Y ((z.trans L2).trans L') i
def gB {e:Wz}(h:gK e=true):behindInMarks op e=false:=by cases e<;>first|rfl|exact absurd h Bool.false_ne_true
def GE (R:Room (dep+1) A){a b:Wz}{p:Pos}(f:gK b=true){K:V->aa->Prop}(h:Ev prog w A hb pr env l c a λ u k=>Ev prog w A hb pr env l k b λ v e=>gH e op u v λ r=>K (.d<|.bool r) e) :Ev prog w A hb pr env l c (.Compare a [op] [b] p) K:=by intro α s Q t F x;refine wpAny_Compare1 (h α s _ t F λ u k y g1 Y t1 i z G I J=>?_)<|gB f;refine z y _ _ i G λ v e L g2 o t2 j M q L2 U=>?_;exact v9 (s:={s with heap:=o,toks:=t2}) q.toCst R.hu M (L2.isV J) U λ r W=>x _ e L _ o t2 j W q (I.trans L2)<|.bool _
def Fq (R:Room (dep+1) A){a b:Wz}{p:Pos}(f:gK b=true){K:Bool->aa->Prop}(h:Ev prog w A hb pr env l c a λ u k=>Ev prog w A hb pr env l k b λ v e=>gH e op u v λ r=>K r e) :sW prog w A hb pr env l c (.Compare a [op] [b] p) K:=by intro α s Q t F x;refine wpAny_isTrue_Compare1 (h α s _ t F λ u k y g1 Y t1 i z G I J=>?_)<|gB f;refine z y _ _ i G λ v e L g2 o t2 j M q L2 U=>?_;exact v9 (s:={s with heap:=o,toks:=t2}) q.toCst R.hu M (L2.isV J) U λ r W=>wpAny_truthy_bool<|x _ e L _ o t2 j W q (I.trans L2) rfl
def HM {a:Wz}{p:Pos}{K:V->aa->Prop}(h:Ev prog w A hb pr env l c a λ u b=>bJ b u λ r=>K (.d<|.bool !r) b):Ev prog w A hb pr env l c (.UnaryOp .Not a p) K:=by intro α s Q k F o;refine PyProof.Rows.UnaryOp_<|h α s _ k F λ u b q g1 e i f t j x y=>?_;refine not_of<|aA (s:={s with heap:=e,toks:=i}) f<|fT (s:={s with heap:=e,toks:=i}) j.toCst t y λ r z G I=>?_;exact o _ b q _ e z I G j x<|.bool _
def FU {a:Wz}{p:Pos}{K:Bool->aa->Prop}(h:sW prog w A hb pr env l c a λ r b=>K (!r) b):sW prog w A hb pr env l c (.UnaryOp .Not a p) K:=by intro α s Q f F i;refine isTrue_not<|h α s _ f F λ r b j g1 k o e q t u x=>?_;subst x;exact i _ b j _ k o e q t u rfl
def HX {i:Int}{p q:Pos}{K:V->aa->Prop}(h:K (.d<|.int<|-i) c):Ev prog w A hb pr env l c (.UnaryOp .USub (.Constant (.int i) k q) p) K:=by refine OkE.mk λ α s Q e F b=>?_;refine PyProof.Rows.UnaryOp_<|wpAny_Constant_int ?_;exact PySem.P.neg_int<|b _ c α _ s.heap _ h F (.refl ..)<|.int _ _
def rz {E:Wx->Wj->Prop}{op:BoolOp}{a b:Wz}{r:List Wz}{p:Pos}{Q:Wx->Wj->Prop}
  (h:wpAny M A (eval a env) (λ v f=>wpAny M A (truthy v) (λ t e=>match op,t with | .And,false | .Or,true=>Q v e|_,_=>wpAny M A (boolOp p op<|evalEach (b::r) env) Q E e) E f) E s):wpAny M A (eval (.BoolOp op (a::b::r) p) env) Q E s:=by
 show wpAny M A (do let v <-eval a env;standAt p;let t <-holding [v] (truthy v);match op,t with | .And,false | .Or,true=>pure v|_,_=>boolOp p op<|evalEach (b::r) env) Q E s
 refine Zb<|Vq h (λ v f j=>Zb<|Vj<|Zb<|Vx<|Vq j (λ t e i=>?_) λ _ _ x=>x) λ _ _ x=>x
 cases op<;>cases t<;>first|exact Zp i|exact i
def Gq {a b:Wz}{r:List Wz}{p:Pos}{K:V->aa->Prop}(h:Ev prog w A hb pr env l c a λ u e=>bJ e u λ t=>(t=false->K u e)/\(t=true->OkE (model prog w) A hb pr env a7 l e (boolOp p .And<|evalEach (b::r) env) K)) :Ev prog w A hb pr env l c (.BoolOp .And (a::b::r) p) K:=by intro α s Q L F o;refine rz<|h α s _ L F λ u e q g1 f x i M j y z=>?_;refine aA (s:={s with heap:=f,toks:=x}) i<|fT (s:={s with heap:=f,toks:=x}) j.toCst M z λ t G I J=>?_;cases t with|false=>exact o u e q g1 f G J (I.1 rfl) j y z|true=>exact I.2 rfl q {s with heap:=f,toks:=G} Q J j λ v R U g2 W t2 k Y F2 L2 i2=>o v R U g2 W t2 k Y F2 (y.trans L2) i2
def Jk {a b:Wz}{r:List Wz}{p:Pos}{K:V->aa->Prop}(h:Ev prog w A hb pr env l c a λ u e=>bJ e u λ t=>(t=true->K u e)/\(t=false->OkE (model prog w) A hb pr env a7 l e (boolOp p .Or<|evalEach (b::r) env) K)) :Ev prog w A hb pr env l c (.BoolOp .Or (a::b::r) p) K:=by intro α s Q L F o;refine rz<|h α s _ L F λ u e q g1 f x i M j y z=>?_;refine aA (s:={s with heap:=f,toks:=x}) i<|fT (s:={s with heap:=f,toks:=x}) j.toCst M z λ t G I J=>?_;cases t with|true=>exact o u e q g1 f G J (I.1 rfl) j y z|false=>exact I.2 rfl q {s with heap:=f,toks:=G} Q J j λ v R U g2 W t2 k Y F2 L2 i2=>o v R U g2 W t2 k Y F2 (y.trans L2) i2
def xf {a:Wz}{r:List Wz}{p:Pos}{K:Bool->aa->Prop}(h:sW prog w A hb pr env l c a λ t e=>(t=false->K false e)/\(t=true->OkE (model prog w) A hb pr env mB l e (isTrue (.BoolOp .And r p) env whole) K)) :OkE (model prog w) A hb pr env mB l c (isTrue (.BoolOp .And (a::r) p) env whole) K:=by intro α s Q u F i;refine isTrue_and<|h α s _ u F λ t e j g1 x y b k o q z=>?_;cases z;cases t with|false=>exact i false e j _ x y b (k.1 rfl) o q rfl|true=>exact k.2 rfl j _ Q b o λ v G I g2 J t2 f L M L2 R=>i v G I g2 J t2 f L M (q.trans L2) R
def B7 {a:Wz}{r:List Wz}{p:Pos}{K:Bool->aa->Prop}(h:sW prog w A hb pr env l c a λ t e=>(t=true->K true e)/\(t=false->OkE (model prog w) A hb pr env mB l e (isTrue (.BoolOp .Or r p) env whole) K)) :OkE (model prog w) A hb pr env mB l c (isTrue (.BoolOp .Or (a::r) p) env whole) K:=by intro α s Q u F i;refine isTrue_or<|h α s _ u F λ t e j g1 x y b k o q z=>?_;cases z;cases t with|true=>exact i true e j _ x y b (k.1 rfl) o q rfl|false=>exact k.2 rfl j _ Q b o λ v G I g2 J t2 f L M L2 R=>i v G I g2 J t2 f L M (q.trans L2) R
def yL {p:Pos}{K:Bool->aa->Prop}(h:K true c):OkE (model prog w) A hb pr env mB l c (isTrue (.BoolOp .And [] p) env whole) K:=
 λ α s Q b F e=>isTrue_and_nil<|e true c α true s.heap s.toks b h F (.refl ..) rfl
def zV {p:Pos}{K:Bool->aa->Prop}(h:K false c):OkE (model prog w) A hb pr env mB l c (isTrue (.BoolOp .Or [] p) env whole) K:=
 λ α s Q b F e=>isTrue_or_nil<|e false c α false s.heap s.toks b h F (.refl ..) rfl
def x3 {e:Wz}{K:Bool->aa->Prop}(o:isTrue e env (eval e env)=(do let v <-eval e env;standAt e.pos;holding [v] (truthy v)))(h:Ev prog w A hb pr env l c e λ u b=>bJ b u λ r=>K r b):sW prog w A hb pr env l c e K:=by
 intro α s Q p F q
 refine isTrue_plain (h α s _ p F λ u b x g1 f j i y k z G=>?_) o
 refine aA (s:={s with heap:=f,toks:=j}) i<|fT (s:={s with heap:=f,toks:=j}) k.toCst y G λ t I J L=>?_
 exact q _ b x _ f I L J k z rfl
def Dn {a i:Wz}{p:Pos}(hi:dK i=true){K:V->aa->Prop}(h:Ev prog w A hb pr env l c a λ u k=>Ev prog w A hb pr env l k i λ v b=>f8 b u v λ d=>K (.d d) b):Ev prog w A hb pr env l c (.Subscript a i p) K:=by intro α s Q q F r;refine Subscript_<|h α s _ q F λ u k t g1 W Y e x y z G=>?_;refine x t _ _ e y λ v b I g2 f t2 j J o L2 L=>?_;refine aA (s:={s with heap:=f,toks:=t2}) j<|item_ok (s:={s with heap:=f,toks:=t2}) o.toCst hi J (L2.isV G) L λ d g M R id U=>?_;exact r _ b I g f M U R o (z.trans L2) id
def zp {a:Wz}{lo hi:Option Wz}{p q:Pos}{K:V->aa->Prop}(h:Ev prog w A hb pr env l c a λ u i=>OkE (model prog w) A hb pr env a7 l i (evalPart lo env) λ v j=>OkE (model prog w) A hb pr env a7 l j (evalPart hi env) λ x c3=>mo c3 u v x λ d=>K (.d d) c3) :Ev prog w A hb pr env l c (.Subscript a (.Slice lo hi Wq q) p) K:=by intro α s Q r F t;refine Subscript_<|h α s _ r F λ u i y g1 h1 t1 b z G I J=>?_;refine wpAny_Slice<|z y _ _ b G λ v j L g2 h2 t2 e M R L2 U=>?_;refine M L _ _ e R λ x c3 W g3 k o f Y F3 L3 i3=>?_;refine evalPart_none_step ?_;refine aA (s:={s with heap:=k.push _,toks:=o}) f<|xM (s:={s with heap:=k,toks:=o}) (lo:=a) (hi:=a) F3 Y (L3.isV<|L2.isV J) (L3.isV U) i3 λ d g h' tk hK F' L' id ht=>?_;exact t _ c3 W g h' tk ht hK F' (((I.trans L2).trans L3).trans L') id
def vS {f:List Wz}{p:Pos}(i:bD f=true){K:V->aa->Prop}(h:OkArgs prog w A hb pr env l f c λ vs j=>aC (iA vs) λ ds=>ds.length<=big/\K (.d<|.tup ds) j):Ev prog w A hb pr env l c (.Tuple f k p) K:=by
 intro α s Q u F x;refine Tuple_ ?_;rw[cq env p i];refine iV h α s _ u F λ vs j y q L z o b r G I=>?_;obtain⟨ds,e,b⟩:=aB b;have id:=r8 e I;refine wpAny_newObj_type ?_<|by show q.toArray.size<=sizeLine;rw[Xq,<-id.length];exact aQ b.1
 obtain⟨J,t⟩:=r.push<|bp "tuple" q 0;exact x _ j y _ _ z o b.2 J (G.trans t)<|.tup (Xj _ rfl) (be r.toCst)<|t.isDs id
def HL {f:List Wz}{k:Option Nat}{p:Pos}(j:bD f=true){K:V->aa->Prop}(h:OkArgs prog w A hb pr env l f c λ vs r=>aC (iA vs) λ ds=>ds.length<=big/\dI r k ds K):Ev prog w A hb pr env l c (.List f p) K:=by
 intro α s Q x F y;refine List_ ?_;rw[cq env p j];refine iV h α s _ x F λ vs r α1 z G t o b I J L=>?_;obtain⟨ds,e,b⟩:=aB b;have id:=r8 e L;refine wpAny_newObj_type ?_<|by show z.toArray.size<=sizeLine;rw[Xq,<-id.length];exact aQ b.1
 refine jg (s:={s with heap:=G,toks:=t}) (ep:=0) (K:=λ v q=>K v q) (Q:=λ g u=>1<=u.toks->Q g u) I b.2 id (λ _ _ e=>Xz _ e) (Xj _ rfl) (λ v q M g R U W Y L' i ht=>?_) t o;exact y v q M g R U ht W Y (J.trans L') i
def Ce {E:Wx->Wj->Prop}{a:Wz}{b:Str}{p:Pos}(i:a8 a=true){Q:Wx->Wj->Prop}(h:wpAny (model prog w) A (eval a env) (λ o f=>wpAny (model prog w) A (getAttr o b true) Q E f) E s):wpAny (model prog w) A (eval (.Attribute a b p) env) Q E s:=by
 have e:eval (.Attribute a b p) env=(do
   let o <-attributeBase a b env (eval a env)
   standAt p.atName
   let r <-holding [o] (getAttr o b true)
   letTemporaryGo a o r
   pure r):=rfl
 rw[e]
 exact Zb<|sd i<|Vq h (λ o f j=>Zb<|Vj<|Zb<|Vx<|Vq j (λ r q k=>Zb<|wpAny_letTemporaryGo<|Zp k) λ _ _ x=>x) λ _ _ x=>x
def mO {b:List (Str×V)->Prop}(h:jw P c u b):∃k dk fs,u=.obj k/\ae c k=Kf (.inst P.C dk)/\ae c dk=Kf (.ns fs)/\b fs:=by obtain⟨k,e,h⟩:=eP h;obtain⟨C,dk,f,rfl,h⟩:=jW h;obtain⟨fs,i,h⟩:=oF h;exact⟨k,dk,fs,e,f,i,h⟩
def Ej (X:Cx0 prog w hb K₀ T P dep){a:Wz}{b:Str}{p:Pos}(z:a8 a=true){K:V->aa->Prop}(h:Ev prog w A hb pr env l c a λ u f=>P.attr b=true/\jw P f u λ fs=>aC (look fs b) λ v=>kQ v=true/\K v f) :Ev prog w A hb pr env l c (.Attribute a b p) K:=by intro α s Q G F I;refine Ce z<|h α s _ G F λ u f J g1 o x q r y L M=>?_;obtain⟨R,r⟩:=r;obtain⟨k,dk,fs,rfl,U,t,j⟩:=mO r;obtain⟨v,e,j⟩:=aB j;obtain⟨rfl,_⟩:=M;refine aA (s:={s with heap:=o,toks:=x}) q<|yZ (s:={s with heap:=o,toks:=x}) y X.kin U t X.cls (X.attr b R) e j.1 λ g W i Y=>?_;exact I v f J g o W Y j.2 y L i
def Hz {a:Wz}{p:Pos}(x:a8 a=true){K:V->aa->Prop}(h:Ev prog w A hb pr env l c a λ u f=>jn u λ j=>dB (ae f j) λ _=>k∉dom f/\K (.obj k) (f++[(k,.bound "list.append" j)])):Ev prog w A hb pr env l c (.Attribute a Mn.append.nm p) K:=by intro α s Q y F z;refine Ce x<|h α s _ y F λ u f q g1 r G i b t I J=>?_;obtain⟨j,rfl,b⟩:=eP b;obtain⟨W,M,b⟩:=dh b;obtain⟨rfl,e⟩:=J;obtain⟨Y,ep,R,rk⟩:=t.toCst.cell j _ M;refine mX R ?_;obtain⟨U,L2⟩:=t.new b.1 (nH "list.append"<|q j) (o:=.bound "list.append" j)<|λ L=>⟨by rw[Xj _ rfl,L.agree j e],L.dom j e⟩;exact z _ _ _ _ _ (G+1) (Nat.le_succ_of_le i) b.2 U (I.trans L2) ⟨by rw[show fO q k r.objs.size k=r.objs.size from Wy rfl],by rw[al];simp⟩
end
section
variable {w:Wv}{A:Around}{env:Env}{T:Tb}{P:Pm}{l:cI}
theorem OkArgs.mono :∀{c:aa} {K f:List V->aa->Prop},OkArgs prog w A hb pr env l args c K->(∀vs c',K vs c'->f vs c')->OkArgs prog w A hb pr env l args c f:=by induction args with|nil=>intro _ _ _ h b;exact b _ _ h|cons e r rH=>intro _ _ _ h b;exact OkE.mono h λ v c' q=>rH q λ vs i k=>b _ _ k
def ES (X:Cx0 prog w hb K₀ T P dep)(R:Room (dep+1) A){p:Pos}{k:Option Nat}(b:bD args=true){K:V->aa->Prop}(h:Ev prog w A hb pr env l c (.Name x p) λ u o=>OkArgs prog w A hb pr env l args o λ vs q=>d8 P q k u vs K):Ev prog w A hb pr env l c (.Call (.Name x p) args [] pos) K:=by intro α s Q z F G;refine Call_Name (cq env pos b)<|h α s _ z F λ u o α1 g1 I J e L M U r=>?_;refine b4 (s:={s with heap:=I,toks:=J}) (fs:=[]) e M .nil (L.mono λ vs q t α2 s2 ws f y L2 W=>?_) λ v Y α' g h' tk ht hK F' L' i=>G v Y α' g h' tk ht hK F' (U.trans L') i;refine⟨gQ X y.toCst (L2.isV r)<|ji t,λ Q j=>?_⟩;exact m9 X R t f y (L2.isV r) W j
def bK (id:String):∃k,Looks M h (keeperOf<|.builtin id) k:=⟨.machine,Looks.of_pure rfl⟩
def Fx {m:Mn}(hsup:a8 o=true)(hst:bD args=true)(hfew:args.length<30)(M:(apos.endLine==pos.line)=true){K:V->aa->Prop}(h:Ev prog w A hb pr env l c o λ u c1=>cH c1 u m/\OkArgs prog w A hb pr env l args c1 λ vs c2=>i8 c2 u m vs K):Ev prog w A hb pr env l c (.Call (.Attribute o m.nm apos) args [] pos) K:=by
 intro α s Q hs F hq;refine dJ hsup hst hfew M<|h α s _ hs F λ u c1 α1 g1 h1 t1 R Y F1 L1 i1=>?_;obtain⟨L,Y⟩:=Y
 cases u with
 |d x=>obtain⟨x,e,L⟩:=cV (u:=.d x) L;rw[e] at i1 Y;have i1':=i1;obtain⟨t,rfl⟩:=IsD.inv i1';refine yC L ?_;refine b4 (s:={s with heap:=h1,toks:=t1}) (fs:=[.d<|.str x]) R F1 (.cons i1 .nil) (Y.mono λ vs c2 U α2 s2 ws b F2 L2 iv=>?_) λ v q y g z f j G I J i=>hq v q y g z f j G I (L1.trans J) i;refine⟨bK _,λ Q p=>?_⟩;obtain⟨w0,ws',rfl,i0,ir⟩:=iv.inv;obtain⟨t',rfl⟩:=IsD.inv i0;exact aA b<|pM F2 ir (λ v q y g z f G I J i j=>p v q y g z f j G I J i) U.2
 |obj k=>obtain⟨L,U⟩:=L;obtain⟨xs,hx,_⟩:=dh U;obtain⟨rfl,hkm⟩:=i1;obtain⟨us,ep,gk,rk⟩:=F1.toCst.cell k _ hx;refine vf L gk ?_;refine b4 (s:={s with heap:=h1,toks:=t1}) (fs:=[.obj k]) R F1 (.cons ⟨rfl,hkm⟩ .nil) (Y.mono λ vs c2 W α2 s2 ws b F2 L2 iv=>?_) λ v q y g z f j G I J i=>hq v q y g z f j G I (L1.trans J) i;refine⟨bK _,λ Q p=>?_⟩;obtain⟨w0,ws',rfl,i0,ir⟩:=iv.inv;obtain⟨rfl,_⟩:=i0;obtain⟨ys,hy,W⟩:=dh W.2;exact aA b<|qg F2 hy W ir λ v q y g z f G I J i j=>p v q y g z f j G I J i
 |mt e=>
  obtain⟨r,rfl,im⟩:=i1;have em:m=.end_:=by cases m<;>first|rfl|exact absurd L Bool.false_ne_true
  subst em;refine yk im ?_;refine b4 (s:={s with heap:=h1,toks:=t1}) (fs:=[.mt e]) R F1 (.cons ⟨r,rfl,im⟩ .nil) (Y.mono λ vs c2 U α2 s2 ws b F2 L2 iv=>?_) λ v q y g z f j G I J i=>hq v q y g z f j G I (L1.trans J) i;refine⟨bK _,λ Q p=>?_⟩;obtain⟨_,rfl,U⟩:=U;obtain⟨w',rfl,i0⟩:=iv.one;obtain⟨r2,rfl,im2⟩:=i0;exact aA b<|Dk im2 λ t f j=>p _ c2 α2 _ s2.heap f j U F2 (Le.refl ..)<|.int _ _
 |_=>exact L.elim
def An (X:Cx0 prog w hb K₀ T P dep)(R:Room (dep+1) A){q:Str}{f:Ww}(hf:T.meth q=Kf f)(e:a8 o=true)(r:bD args=true)(j:args.length<30)(b:(apos.endLine==pos.line)=true){K:V->aa->Prop}(h:Ev prog w A hb pr env l c o λ u t=>(jw P t u λ fs=>look fs q=Wq)/\OkArgs prog w A hb pr env l args t λ vs x=>P.isFn f=true/\P.fn f (u::vs) x (λ v c3=>fo x c3/\K v c3)):Ev prog w A hb pr env l c (.Call (.Attribute o q apos) args [] pos) K:=by intro α s Q hs F hq;refine dJ e r j b<|h α s _ hs F λ u t α1 g1 M U y z W L1 i1=>?_;obtain⟨hi,z⟩:=z;obtain⟨k,dk,fs,rfl,hk,G,hv⟩:=mO hi;obtain⟨rfl,I⟩:=i1;obtain⟨m1,m2⟩:=X.meth q f hf;refine qJ (s:={s with heap:=M,toks:=U}) W X.kin hk G X.cls m1 m2 hv ?_;refine b4 (s:={s with heap:=M,toks:=U}) (fs:=[.obj k]) y W (.cons ⟨rfl,I⟩ .nil) (z.mono λ vs x p α2 s2 ws J Y L2 iv=>?_) λ v c' α' g h' tk ht hK F' L' i=>hq v c' α' g h' tk ht hK F' (L1.trans L') i;refine⟨gQ X (u:=.val<|.ref f) Y.toCst rfl<|.inr<|.inl ⟨f,rfl,p.1⟩,λ Q L=>?_⟩;exact m9 X R (u:=.val<|.ref f) (k:=Wq) (vs:=.obj k::vs) p J Y rfl iv L
def D5 {z:Str}{r G:Nat}{I pz:Pos}(f:a8 o=true)(b:(apos.endLine==pos.line)=true){K:V->aa->Prop}(h:Ev prog w A hb pr env l c o λ u i=>g6 u λ x=>x.length<=big/\z.length<=14/\(y==z)=false/\K (.d<|.str<|Txt.replace x y z) i):Ev prog w A hb pr env l c (.Call (.Attribute o (Qq "replace") apos) [.Constant (.str y) r I,.Constant (.str z) G pz] [] pos) K:=by intro α s Q J F L;refine dJ f rfl (by simp) b<|h α s _ J F λ u i M g1 q e j R U W Y=>?_;obtain⟨x,rfl,hx,hz,p,hK⟩:=cV R;obtain⟨t,rfl⟩:=IsD.inv Y;refine GM.replace ?_;refine cg rfl<|Calls.evalArgs_plain<|Calls.spliced_cons<|wpAny_mkText<|Calls.spliced_cons<|wpAny_mkText<|Calls.spliced_nil ?_;refine⟨bK _,?_⟩;refine aA (s:={s with heap:=q,toks:=e+1+1}) (by show 1<=e+1+1;exact {1}) ?_;refine SC.replaceW (u:=e) (v:=e+1) (Nat.ne_of_gt j) (Nat.succ_ne_zero e) (Nat.ne_of_lt<|Nat.lt_succ_self e) p hx hz<|λ t' k ht=>?_;exact L _ i M _ q k ht hK U W<|.str _ _
def lJ {E:Wx->Wj->Prop}{b:Sem Bool}{Q:Wx×List Wx->Wj->Prop}(h:Q (.builtin "str.translate",[.str x t]) s):wpAny M A (getMethod (.str x t) "translate" b) Q E s:=by
 with_reducible exact GM.of (.str x t) (typeIs_str _ _ _) PySem.F.slot_str_translate PySem.F.type_str_translate GM.noRef h
def Bq (X:Cx0 prog w hb K₀ T P dep){d:Ww}{p:Pos}(f:a8 o=true)(b:(apos.endLine==pos.line)=true){K:V->aa->Prop}(z:∀e (r:V->aa->Prop),r (.val<|.ref d) e->Ev prog w A hb pr env l e (.Name x p) r)(h:Ev prog w A hb pr env l c o λ u e=>g6 u λ x=>d=P.td/\(∀ch∈x.cps.toList,ch<128)/\x.length<=big/\K (.d<|.str ⟨x.cps.map P.tr⟩) e):Ev prog w A hb pr env l c (.Call (.Attribute o (Qq "translate") apos) [.Name x p] [] pos) K:=by intro α s Q G F I;refine dJ f rfl (by simp) b<|h α s _ G F λ u e J g1 h1 t1 i L M R U=>?_;obtain⟨x',rfl,rfl,j,W,Y⟩:=cV L;obtain⟨t,rfl⟩:=IsD.inv U;refine lJ ?_;refine cg rfl<|Calls.evalArgs_plain<|Calls.spliced_cons<|z e (λ v c'=>v=.val (.ref P.td)/\c'=e) ⟨rfl,rfl⟩ J _ _ i M λ v c2 α2 g2 k t2 q k2 y L2 i2=>Calls.spliced_nil ?_;obtain⟨rfl,rfl⟩:=k2;subst i2;refine⟨bK _,?_⟩;obtain⟨C',TO⟩:=X.tab;refine aA (s:={s with heap:=k,toks:=t2}) q ?_;refine mw (s:={s with heap:=k,toks:=t2}) TO (X.kin.keeps y.base) j W<|λ t' tk ht=>?_;exact I _ c2 α2 _ k tk ht Y y (R.trans L2)<|.str _ _
end
def mE {it:Wz}{env:Env}(h:mm it=true)(v:Wx):foldedSetIterable it env v=pure v:=by cases it<;>first|rfl|exact absurd h Bool.false_ne_true
section
variable {w:Wv}{A:Around}{env:Env}{T:Tb}{P:Pm}{l:cI}
theorem Room.under {C:Ww}(R:Room (dep+1) A):Room dep (A.under<|.builtin "type.__call__" ⟨.ref C::vals,[]⟩):=by refine⟨R.handled,?_,?_⟩;have b:(A.under<|.builtin "type.__call__" ⟨.ref C::vals,[]⟩).depth=A.depth+1:=rfl;have:=R.depth;rw[b];exact {this};have b:(A.under<|.builtin "type.__call__" ⟨.ref C::vals,[]⟩).units=A.units+1:=rfl;have:=R.units;rw[b];exact {this}
def Dz (X:Cx0 prog w hb K₀ T P dep)(R:Room (dep+1) A){p:Pos}(hst:bD args=true){K:V->aa->Prop}(hx:∀f (K':V->aa->Prop),K' (.val<|.ref P.C) f->Ev prog w A hb pr env l f (.Name x p) K')(h:OkArgs prog w A hb pr env l args c λ vs f=>∃k dk,k∉dom f/\dk∉dom f/\k≠dk/\P.fn P.init (.obj k::vs) (f++[(dk,.ns [])]++[(k,.inst P.C dk)]) (λ v r=>v=.d .none/\fo (f++[(dk,.ns [])]++[(k,.inst P.C dk)]) r/\K (.obj k) r)) :Ev prog w A hb pr env l c (.Call (.Name x p) args [] pos) K:=by
 intro α s Q hs F hq;refine Call_Name (cq env pos hst)<|hx c (λ v t=>v=.val (.ref P.C)/\t=c) ⟨rfl,rfl⟩ α s _ hs F λ u f α1 g1 h1 t1 ht1 k1 F1 L1 i1=>?_;obtain⟨rfl,rfl⟩:=k1;subst i1;refine b4 (s:={s with heap:=h1,toks:=t1}) (fs:=[]) ht1 F1 .nil (h.mono λ vs r hk α2 b ws z G L2 iv=>?_) λ v t α' g h' tk ht I F' J i=>hq v t α' g h' tk ht I F' (L1.trans J) i;obtain⟨kk,_,hkk⟩:=looks_keep (M:=model prog w) X.keep<|X.kin.keeps G.base;refine⟨⟨kk,hkk⟩,λ Q hq'=>?_⟩;obtain⟨k,dk,hk1,hk2,hne,hfn⟩:=hk;obtain⟨F3,L3⟩:=G.new hk2 emptyDict (o:=.ns [])<|λ L=>⟨emptyDict,#[],0,Xj _ rfl,rfl,λ e he=>by simp at he,rfl,λ x=>rfl⟩;have U:k∉dom (r++[(dk,.ns [])]):=by rw[al];simp[hk1,hne]
 have W:dk∈dom (r++[(dk,O.ns [])]):=by rw[al];simp
 have adk:fO α2 dk b.heap.objs.size dk=b.heap.objs.size:=Wy rfl;obtain⟨y,L4⟩:=F3.new U (instObj P.C b.heap.objs.size) (o:=.inst P.C dk)<|λ L=>⟨by rw[L.agree dk W,adk,Xj _ rfl],L.dom dk W⟩;have ak:fO (fO α2 dk b.heap.objs.size) k (b.heap.push emptyDict).objs.size k=b.heap.objs.size+1:=by rw[show fO (fO α2 dk b.heap.objs.size) k (b.heap.push emptyDict).objs.size k=(b.heap.push emptyDict).objs.size from Wy rfl,Heap.size_push]
 refine aA z<|wpAny_call ?_;have R':=R.under (C:=P.C) (vals:=ws);have ik:a7 (r++[(dk,.ns [])]++[(k,.inst P.C dk)]) (fO (fO α2 dk b.heap.objs.size) k (b.heap.push emptyDict).objs.size) ((b.heap.push emptyDict).push<|instObj P.C b.heap.objs.size) (.obj k) (.ref<|b.heap.objs.size+1):=⟨by rw[ak],by rw[al];simp⟩;obtain⟨hp,g,d,tk,os⟩:=b;refine make_core (makes_of (X.kin.keeps G.base) X.makes) (looks_findIn (X.kin.keeps G.base) X.ini.1) (λ self=>bind_fn (X.kin.keeps G.base) self X.ini.2) (.inl rfl) ?_;refine X.inif _ R' (.obj k::vs) (.ref (hp.objs.size+1)::ws) _ _ ⟨(hp.push emptyDict).push<|instObj P.C hp.objs.size,g,d,tk,os⟩ _ _ z ⟨y.base,y.cell,y.fresh,y.inj,λ _ q=>by cases q⟩ (.cons ik<|(L3.trans L4).isVs iv) hfn λ v t α' gg h' tk' I C' J i=>?_;obtain⟨rfl,Y,I⟩:=I;cases i;refine⟨rfl,λ ht=>?_⟩;have C'':Cst hb pr t α' h':=⟨C'.base,C'.cell,C'.fresh,C'.inj,λ j hj=>Y j<|y.prs j hj⟩;exact hq' (.obj k) t α' _ h' tk' ht I (y.le J C'') ((L3.trans L4).trans J)<|J.isV ik
def Ed (E:CxE env T)(R:Room (dep+1) A){elt:Wz}{px:Pos}{t:Nat}(u:ScopeOk scope x env)(h:mm iter=true){K:V->aa->Prop}(hi:Ev prog w A hb pr env l c iter λ v y=>xA prog w A hb pr env l x elt scope t v y K):Ev prog w A hb pr env l c (.ListComp elt [⟨.Name x px,iter,[],0⟩] scope pos) K:=by
 intro α s Q z F G;have I:∀v,foldedSetIterable iter env v=pure v:=mE h;show wpAny _ _ (comprehension _ scope env _ (newList []) false (eval iter env) Wq) _ _ _;refine sI E.eo R.handled u z F I hi λ v J L g M U C W Y F' j i nf no nb hC k=>?_;obtain⟨m,k⟩:=k;refine⟨m,k,λ p f=>?_⟩;have nz:∀o,dT o=true->M.get? C≠Kf o:=λ o r e=>by obtain⟨o',es,ep,ho,hd,_⟩:=k;rw[ho] at e;cases e;unfold dT at r;rw[hd] at r;cases r
 exact G v J L g p U W Y (F'.but nz (cL f) no nf nb) ⟨j.dom,j.agree,λ b o e n=>cL f b o (λ q=>by rw[q,hC] at e;contradiction) (j.kept b o e n),j.grow⟩<|iK nz (cL f) i
end
def gy {env:Env}{k₀:NameKind}(e:k₀≠.free){names:List (Str×NameKind)}:∀{x:Str},names.lookup x=Kf k₀->(names.map λ (n,k)=>if (k==NameKind.free&&env.scope.kind==.function&&env.kindOf n==Kf .cell) then (n,NameKind.cell) else (n,k)).lookup x=Kf k₀:=by
 induction names with|nil=>intro _ h;simp at h|cons q_ r rH=>
  obtain⟨n,k⟩:=q_;intro x h;have f:=@rH x;show List.lookup x ((if (k==NameKind.free&&env.scope.kind==.function&&env.kindOf n==Kf .cell)=true then (n,NameKind.cell) else (n,k))::_)=_
  cases b:x==n with
  |true=>
   simp only[Zq,b] at h;cases h;have:(k₀==NameKind.free)=false:=by cases k₀<;>first|rfl|exact absurd rfl e
   simp[Zq,b,this]
  |false=>simp only[Zq,b] at h;by_cases i:(k==NameKind.free&&env.scope.kind==.function&&env.kindOf n==Kf .cell)=true;rw[Wy i];simp only[Zq,b];exact f h;rw[Wg i];simp only[Zq,b];exact f h
def pV {names:List Str}{fs:List Str}:∀{b:List Nat},fs.mapM (aR names)=Kf b->fs.length=b.length/\∀(j:Nat) y,fs[j]?=Kf y->∃i,b[j]?=Kf i/\aR names y=Kf i:=by induction fs with|nil=>intro b h;simp at h;subst h;exact⟨rfl,λ j y e=>by simp at e⟩|cons f fs rH=>intro b h;rw[List.mapM_cons] at h;cases k:aR names f with|none=>rw[k] at h;cases h|some i=>cases l:fs.mapM (aR names) with|none=>rw[k,l] at h;cases h|some is'=>rw[k,l] at h;cases h;obtain⟨o,p⟩:=rH l;refine⟨by simp[o],λ j y e=>?_⟩;cases j with|zero=>injection e with e;subst e;exact⟨i,rfl,k⟩|succ j=>exact p j y e
section
variable {w:Wv}{P:Pm}
def mM {env:Env}{T:Tb}(E:CxE env T)(i:iR T x scope=true){fs:List Str}(f:fs=(scope.names.filter λ p=>p.2==.free).map (·.1)) :ScopeOk scope x env/\(x::fs).Nodup/\(∀y∈fs,scope.names.lookup y=Kf .free)/\∀j C,EnvOk (compEnvC scope j C env)->CxE (compEnvC scope j C env) {T with names:=x::fs,kinds:=scope.names}:=by
 unfold iR at i;simp only[Xv,Xu] at i;obtain⟨⟨⟨⟨⟨l,q⟩,r⟩,t⟩,o⟩,u⟩:=i;have h:(x::fs).Nodup:=by rw[f];exact of_decide_eq_true u
 have z:scope.kind=.function:=beq_iff_eq.mp q;refine⟨⟨λ y b=>by simpa using l y b,z,λ y b e=>?_,beq_iff_eq.mp t,λ y b=>?_⟩,h,λ y b=>?_,λ j C G=>⟨G,E.gl,E.bl,λ y e=>gy {4} e,λ y e=>lookup_relabel_local e,λ y e=>?_,h⟩⟩;have:=r y b;simpa [e] using this;have:=o (y,.free) b;simp only[bne_self_eq_false,Bool.false_or,Xv] at this;exact E.kc y<|beq_iff_eq.mp this.1;rw[f] at b;obtain⟨p,k,rfl⟩:=List.mem_map.mp b;obtain⟨k,I⟩:=List.mem_filter.mp k;have:=o p k;rw[beq_iff_eq.mp I] at this;simp only[bne_self_eq_false,Bool.false_or,Xv] at this;exact beq_iff_eq.mp this.2;have:=l _ (mem_of_lookup e);contradiction
def SE (prog:Program)(w:Wv)(hb:Wu)(P:Pm)(T:Tb)(env:Env)(A:Around)(pr:List Nat)(e:Wz)(ie:IE):Prop:=
 (∀n l c K,aU P n ie l c K->Ev prog w A hb pr env (ad T.names l) c e K)/\(∀n l c K,fN P n ie l c K->sW prog w A hb pr env (ad T.names l) c e K)
def vB (prog:Program)(w:Wv)(hb:Wu)(P:Pm)(K₀:Frag)(dep m:Nat):Prop:=
 ∀(T:Tb) (env:Env) (A:Around) (pr:List Nat),Cx0 prog w hb K₀ T P dep->CxE env T->Room (dep+1) A->∀e ie,aH m T e=Kf ie->SE prog w hb P T env A pr e ie
section
variable {T:Tb}{env:Env}{A:Around}{f:Wz->Option IE}(hf:∀a ia,f a=Kf ia->SE prog w hb P T env A pr a ia)
include hf
def e8:∀{i:List Wz} {ies:List IE},fk f i=Kf ies->∀n l c K,ka P n ies l c K->OkArgs prog w A hb pr env (ad T.names l) i c K:=by
 intro i
 induction i with
 |nil=>intro ies h n l c K b;injection h with h;subst h;cases n with|zero=>exact b.elim|succ n=>exact b
 |cons e r ih=>intro ies h n l c K b;obtain⟨x,y,j,o,rfl⟩:=cP h;cases n with|zero=>exact b.elim|succ n=>exact OkE.mono ((hf e x j).1 n l c _ b) λ v p k=>ih o n l p _ k
def wz {o:Option Wz}{b:IE}(h:Fu f o=Kf b)(n:Nat)(l:Sl)(c:aa)(K:V->aa->Prop)(i:aU P n b l c K):OkE (model prog w) A hb pr env a7 (ad T.names l) c (evalPart o env) K:=by
 cases o with
 |none=>injection h with h;subst h;cases n with|zero=>exact i.elim|succ n=>exact λ α s Q j F k=>evalPart_none_step<|k _ c α _ s.heap s.toks j i F (.refl ..) .none
 |some e=>have:=(hf e b h).1 n l c K i;exact λ α s Q j F k=>evalPart_some_step<|this α s Q j F k
end
end
def uD {β:Type}{q:Str×β->Bool}(l:List<|Str×β):∀(x:Str),(∀v,q (x,v)=true)->look (l.filter q) x=look l x:=by induction l with|nil=>intro _ _;exact rfl|cons q_ r rH=>obtain⟨y,u⟩:=q_;intro x h;rw[List.filter_cons];by_cases e:y=x;subst e;rw[Wy<|h u];dsimp only[look];simp;by_cases b:q (y,u)=true;rw[Wy b];dsimp only[look];rw[Wg e,Wg e];exact rH x h;rw[Wg b];dsimp only[look];rw[Wg e];exact rH x h
def p9 {names:List Str}:∀{x:Str} {i:Nat},aR names x=Kf i->names[i]?=Kf x:=by induction names with|nil=>intro x i h;contradiction|cons y ys ih=>intro x i h;dsimp only[aR] at h;by_cases e:y=x;rw[Wy e] at h;injection h with h;subst h;rw[e];rfl;rw[Wg e] at h;cases b:aR ys x with|none=>rw[b] at h;contradiction|some j=>rw[b] at h;injection h with h;subst h;exact ih b
def tT {names:List Str}(h:y∈names):∃i,aR names y=Kf i:=by cases e:aR names y with|none=>exact absurd h<|hX e|some i=>exact⟨i,rfl⟩
def tQ {T:Tb}(G:T.names.Nodup){fs:List Str}{f:List Nat}(k:fs=(scope.names.filter λ p=>p.2==.free).map (·.1))(r:fs.mapM (aR T.names)=Kf f)(t:(x::fs).Nodup)(b:∀y∈fs,scope.names.lookup y=Kf .free)(l:Sl)(d:D)(y:Str) :look (ad (x::fs)<|some (.d d)::f.map (av l)) y=look (a6 (d4 scope<|ad T.names l) x<|.d d) y:=by simp only[dG];show look ((x,V.d d)::ad fs (f.map<|av l)) y=_;dsimp only[look];by_cases e:x=y;subst e;simp;rw[Wg e,Wg<|λ q=>e q.symm];by_cases h:y∈fs;obtain⟨j,w⟩:=tT h;rw[cW (List.nodup_cons.mp t).2 _ w];obtain⟨z,I⟩:=pV r;obtain⟨i,J,u⟩:=I j y<|p9 w;unfold d4;rw[uD _ _ (λ v=>by rw[b y h];rfl),cW G l u];show (match (f.map<|av l)[j]? with|some o=>o|none=>Wq)=_;rw[Xy,J];rfl;rw[eY _ _ h];cases L:look (d4 scope<|ad T.names l) y with|none=>rfl|some v=>obtain⟨_,u⟩:=f9 L;exact absurd (by rw[k];exact List.mem_map.mpr ⟨(y,.free),List.mem_filter.mpr ⟨mem_of_lookup u,rfl⟩,rfl⟩) h
section
variable {w:Wv}{P:Pm}
theorem Cx0.names {T:Tb}(X:Cx0 prog w hb K₀ T P dep)(ns:List Str)(b:List<|Str×NameKind):Cx0 prog w hb K₀ {T with names:=ns,kinds:=b} P dep:=
 ⟨X.kin,X.glob,X.cls,X.attr,X.meth,X.fn,X.makes,X.ini,X.inif,X.keep,X.tab⟩
def nc (ihE:vB prog w hb P K₀ dep m){T:Tb}{env:Env}{A:Around}(X:Cx0 prog w hb K₀ T P dep)(E:CxE env T)(R:Room (dep+1) A){x:Str} {scope:Scope} (t:iR T x scope=true) {fs:List Str} {h:List Nat} (b:lB T x scope=Kf (fs,h)) {elt:Wz} {j:IE}(u:aH m {T with names:=x::fs,kinds:=scope.names} elt=Kf j){n:Nat} {l:Sl} {o:Nat} {v:V} {r:aa} {K:V->aa->Prop}(z:Ct (aU P n) j (h.map<|av l) o K v r) :xA prog w A hb pr env (ad T.names l) x elt scope o v r K:=by
 have e:fs=(scope.names.filter λ p=>p.2==.free).map (·.1)/\fs.mapM (aR T.names)=Kf h:=by unfold lB at b;dsimp only at b;cases q:((scope.names.filter λ p=>p.2==.free).map (·.1)).mapM (aR T.names) with|none=>rw[q] at b;contradiction|some is'=>rw[q] at b;injection b with b;injection b with b hf_;subst b hf_;exact⟨rfl,q⟩
 obtain⟨SO,k,f,G⟩:=mM E t e.1;obtain⟨J,L,M,U,r_⟩:=z;obtain⟨W,I,Y,h6,h7⟩:=r_;exact⟨J,L,M,U,W,I,Y,λ i d acc c' hd hI cl C EO=>OkE.look (λ y=>(tQ E.nd e.1 e.2 k f l d y).symm) ((ihE _ _ A pr (X.names (x::fs) scope.names) (G cl C EO) R elt j u).1 n (Kf (.d d)::h.map (av l)) _ _ (h6 i d acc c' hd hI).2),h7⟩
end
section
variable {w:Wv}{P:Pm}
def sQ {e:IE}(f:(match e with | .cmp .. | .not .. | .and .. | .or .. | .c .. | .ite ..=>false|_=>true)=true){l:Sl}{K:Bool->aa->Prop}(h:fN P n e l c K) :∃n,aU P n e l c λ u b=>bJ b u λ r=>K r b:=by cases n with|zero=>exact False.elim h|succ n=>cases e<;>first | (simp at f;done) | (exact⟨n,h⟩)
def fH {T:Tb}{env:Env}{A:Around}{e:Wz}{b:IE}(i:∀env',isTrue e env' (eval e env')=(do let v <-eval e env';standAt e.pos;holding [v] (truthy v)))
  (hi:(match b with | .cmp .. | .not .. | .and .. | .or .. | .c .. | .ite ..=>false|_=>true)=true)
  (h:∀n l c K,aU P (n+1) b l c K->Ev prog w A hb pr env (ad T.names l) c e K) :
  SE prog w hb P T env A pr e b:=by
 have f:∀n l c K,aU P n b l c K->Ev prog w A hb pr env (ad T.names l) c e K:=λ n l c K k=>by
  cases n with
  |zero=>exact False.elim k
  |succ n=>exact h n l c K k
 refine⟨f,λ n l c K k=>?_⟩
 obtain⟨m,k⟩:=sQ hi k
 exact x3 (i env)<|f m l c _ k
def B2 {T:Tb}{env:Env}{A:Around}{e:Wz}{d:D}(h:∀l c (K:V->aa->Prop),K (.d d) c->Ev prog w A hb pr env l c e K) :SE prog w hb P T env A pr e (.c d):=by
 refine⟨λ n l c K k=>?_,λ n l c K k=>?_⟩;cases n with|zero=>exact False.elim k|succ n=>exact h _ c K k
 cases n with|zero=>exact False.elim k|succ n=>exact False.elim k
def bm {α β:Type}{a:Option α}{f:α->Option β}{r:β}(h:(a>>=f)=Kf r):∃x,a=Kf x/\f x=Kf r:=by cases a with|none=>contradiction|some x=>exact⟨x,rfl,h⟩
def BN {α β δ ε γ:Type}{a:Option α}{b:Option β}{d:Option δ}{e:Option ε}{f:α->β->δ->ε->γ}{r:γ}(h:(do return f (<-a) (<-b) (<-d) (<-e))=Kf r):∃x y z u,a=Kf x/\b=Kf y/\d=Kf z/\e=Kf u/\r=f x y z u:=by
 obtain⟨x,i,h⟩:=bm h
 obtain⟨y,j,h⟩:=bm h
 obtain⟨z,k,h⟩:=bm h
 obtain⟨u,l,h⟩:=bm h
 exact⟨x,y,z,u,i,j,k,l,(Option.some.inj h).symm⟩
def AI {b:Str}{m:Mn}(h:Fp b=Kf m):b=m.nm:=eq_of_beq<|List.find?_some (p:=λ m:Mn=>b==m.nm) h
def gS {K b:Bool->Prop}(h:uL c v K)(e:∀r,K r->b r):uL c v b:=by unfold uL at h ⊢;cases q:ca c v with|none=>rw[q] at h;exact h.elim|some p=>rw[q] at h;exact⟨h.1,e _ h.2⟩
def hH {K f:Bool->Prop}(h:bJ c v K)(b:∀r,K r->f r):bJ c v f:=by
 cases v with
 |d x=>cases x with|str x=>exact⟨h.1,b _ h.2⟩|tup xs=>exact gS (c:=c) (v:=.d<|.tup xs) (K:=K) h b|lst xs=>exact gS (c:=c) (v:=.d<|.lst xs) (K:=K) h b|_=>exact b _ h
 |mt e=>exact b _ h|obj k=>exact gS (c:=c) (v:=.obj k) (K:=K) h b|_=>exact h.elim
section
variable {A:Around}{env:Env}{names:List Str}
def JW {a b:Wz}{r:List Wz}{p:Pos}{f h:IE}(j:∀n l c K,aU P n f l c K->Ev prog w A hb pr env (ad names l) c a K)(e:∀n l c K,aU P n h l c K->OkE (model prog w) A hb pr env a7 (ad names l) c (boolOp p .And<|evalEach (b::r) env) K) (n:Nat) (l:Sl) (c:aa) (K:V->aa->Prop) (k:aU P n (.and f h) l c K) :Ev prog w A hb pr env (ad names l) c (.BoolOp .And (a::b::r) p) K:=by cases n with|zero=>exact False.elim k|succ n=>exact Gq<|OkE.mono (j _ _ _ _ k) λ u t o=>hH o λ r i=>⟨i.1,λ q=>e _ _ _ _<|i.2 q⟩
def Ll {a b:Wz}{r:List Wz}{p:Pos}{f h:IE}(j:∀n l c K,aU P n f l c K->Ev prog w A hb pr env (ad names l) c a K)(e:∀n l c K,aU P n h l c K->OkE (model prog w) A hb pr env a7 (ad names l) c (boolOp p .Or<|evalEach (b::r) env) K) (n:Nat) (l:Sl) (c:aa) (K:V->aa->Prop) (k:aU P n (.or f h) l c K) :Ev prog w A hb pr env (ad names l) c (.BoolOp .Or (a::b::r) p) K:=by cases n with|zero=>exact False.elim k|succ n=>exact Jk<|OkE.mono (j _ _ _ _ k) λ u t o=>hH o λ r i=>⟨i.1,λ q=>e _ _ _ _<|i.2 q⟩
def Kj {a b:Wz}{r:List Wz}{p:Pos}{f h:IE}(j:∀n l c K,fN P n f l c K->sW prog w A hb pr env (ad names l) c a K)(e:∀whole n l c K,fN P n h l c K->OkE (model prog w) A hb pr env mB (ad names l) c (isTrue (.BoolOp .And (b::r) p) env whole) K) (whole:Sem Wx) (n:Nat) (l:Sl) (c:aa) (K:Bool->aa->Prop) (k:fN P n (.and f h) l c K) :OkE (model prog w) A hb pr env mB (ad names l) c (isTrue (.BoolOp .And (a::b::r) p) env whole) K:=by cases n with|zero=>exact False.elim k|succ n=>exact xf<|OkE.mono (j _ _ _ _ k) λ r o i=>⟨i.1,λ q=>e _ _ _ _ _<|i.2 q⟩
def KZ {a b:Wz}{r:List Wz}{p:Pos}{f h:IE}(j:∀n l c K,fN P n f l c K->sW prog w A hb pr env (ad names l) c a K)(e:∀whole n l c K,fN P n h l c K->OkE (model prog w) A hb pr env mB (ad names l) c (isTrue (.BoolOp .Or (b::r) p) env whole) K) (whole:Sem Wx) (n:Nat) (l:Sl) (c:aa) (K:Bool->aa->Prop) (k:fN P n (.or f h) l c K) :OkE (model prog w) A hb pr env mB (ad names l) c (isTrue (.BoolOp .Or (a::b::r) p) env whole) K:=by cases n with|zero=>exact False.elim k|succ n=>exact B7<|OkE.mono (j _ _ _ _ k) λ r o i=>⟨i.1,λ q=>e _ _ _ _ _<|i.2 q⟩
def JZ {a:Wz}{p:Pos}{e:IE}(f:∀n l c K,fN P n e l c K->sW prog w A hb pr env (ad names l) c a K)(whole:Sem Wx)(n:Nat)(l:Sl)(c:aa)(K:Bool->aa->Prop)(k:fN P n e l c K) :OkE (model prog w) A hb pr env mB (ad names l) c (isTrue (.BoolOp .And [a] p) env whole) K:=
 xf (OkE.mono (f _ _ _ _ k) λ r h b=>⟨λ q=>by rw[q] at b;exact b,λ q=>yL<|by rw[q] at b;exact b⟩)
def KY {a:Wz}{p:Pos}{e:IE}(f:∀n l c K,fN P n e l c K->sW prog w A hb pr env (ad names l) c a K)(whole:Sem Wx)(n:Nat)(l:Sl)(c:aa)(K:Bool->aa->Prop)(k:fN P n e l c K) :OkE (model prog w) A hb pr env mB (ad names l) c (isTrue (.BoolOp .Or [a] p) env whole) K:=
 B7 (OkE.mono (f _ _ _ _ k) λ r h b=>⟨λ q=>by rw[q] at b;exact b,λ q=>zV<|by rw[q] at b;exact b⟩)
end
def qA {e:List Wz}{q:Wz×Wz}(h:two e=Kf q):e=[q.1,q.2]:=by cases e with|nil=>contradiction|cons a r=>cases r with|nil=>contradiction|cons b r=>cases r with|nil=>cases h;rfl|cons _ _=>contradiction
def yK {b:List Wz}{q:Wz}(h:one b=Kf q):b=[q]:=by cases b with|nil=>contradiction|cons a r=>cases r with|nil=>cases h;rfl|cons _ _=>contradiction
def rG {e:Wz}(h:sP e=Kf x):∃n p,e=.Constant (.str x) n p:=by unfold sP at h;cases q:jc e with|none=>rw[q] at h;cases h|some k=>rw[q] at h;obtain⟨n,p,rfl⟩:=kC q;cases k<;>first | (cases h;exact⟨n,p,rfl⟩)|cases h
section
variable {T:Tb}{env:Env}{A:Around}{f:Wz->Option IE}(hf:∀a ia,f a=Kf ia->SE prog w hb P T env A pr a ia)
def wn {k:Const}{p:Pos}{b:IE}(h:wK k=Kf b):SE prog w hb P T env A pr (.Constant k n p) b:=by cases k<;>first | (cases h;exact B2 λ l c K k=>yb rfl k)|cases h
def AM (X:Cx0 prog w hb K₀ T P dep)(E:CxE env T){p:Pos}{b:IE}(h:d9 T x=Kf b):SE prog w hb P T env A pr (.Name x p) b:=by refine fH (T:=T) (λ _=>rfl) ?_ λ n l c K k=>d7 X E h k;rcases (gG h).2 with ⟨i,_,rfl⟩|⟨v,_,_,rfl⟩<;>rfl
def FT {a:Wz}{p:Pos}{b:IE}(h:E7 a=Kf b):SE prog w hb P T env A pr (.UnaryOp .USub a p) b:=by unfold E7 at h;cases q:jc a with|none=>rw[q] at h;cases h|some k=>rw[q] at h;obtain⟨n,p,rfl⟩:=kC q;cases k<;>first | (cases h;exact B2 λ l c K k=>HX k)|cases h
include hf
def Ds {a b:Wz}{op:Operator}{p:Pos}{e:IE}(h:(do return IE.bin op (<-f a) (<-f b))=Kf e):SE prog w hb P T env A pr (.BinOp a op b p) e:=by
 obtain⟨x,y,i,j,rfl⟩:=cP h
 refine fH (T:=T) (λ _=>rfl) rfl λ n l c K k=>?_
 exact HY<|OkE.mono ((hf _ _ i).1 _ _ _ _ k) λ u q o=>(hf _ _ j).1 _ _ _ _ o
def Ha {op:UnaryOp}{a:Wz}{p:Pos}{b:IE}(h:Kv f op a=Kf b):SE prog w hb P T env A pr (.UnaryOp op a p) b:=by
 cases op with
 |Not=>
  obtain⟨x,e,rfl⟩:=fq h;refine⟨λ n l c K k=>?_,λ n l c K k=>?_⟩;cases n with|zero=>exact False.elim k|succ n=>exact HM<|(hf _ _ e).1 _ _ _ _ k
  cases n with|zero=>exact False.elim k|succ n=>exact FU<|(hf _ _ e).2 _ _ _ _ k
 |USub=>exact FT h|_=>contradiction
def HB {p:Pos}(op:BoolOp):∀(r:List Wz) (a:Wz) {e:IE},qK f op (a::r)=Kf e->(∀n l c K,aU P n e l c K->OkE (model prog w) A hb pr env a7 (ad T.names l) c (boolOp p op<|evalEach (a::r) env) K)/\(∀whole n l c K,fN P n e l c K->OkE (model prog w) A hb pr env mB (ad T.names l) c (isTrue (.BoolOp op (a::r) p) env whole) K):=by
 intro r
 induction r with
 |nil=>intro a e h;have h:f a=Kf e:=h;cases op with|And=>exact⟨(hf _ _ h).1,JZ (hf _ _ h).2⟩|Or=>exact⟨(hf _ _ h).1,KY (hf _ _ h).2⟩
 |cons b r ih=>intro a e h;cases op with|And=>obtain⟨x,y,i,j,rfl⟩:=cP (f:=λ x y=>IE.and x y) h;exact⟨JW (p:=p) (hf _ _ i).1 (ih b j).1,Kj (hf _ _ i).2 (ih b j).2⟩|Or=>obtain⟨x,y,i,j,rfl⟩:=cP (f:=λ x y=>IE.or x y) h;exact⟨Ll (p:=p) (hf _ _ i).1 (ih b j).1,KZ (hf _ _ i).2 (ih b j).2⟩
def A9 {op:BoolOp}{e:List Wz}{p:Pos}{i:IE}(h:Cv f op e=Kf i):SE prog w hb P T env A pr (.BoolOp op e p) i:=by cases e with|nil=>contradiction|cons a r=>cases r with|nil=>contradiction|cons b r=>have q:=HB (p:=p) hf op (b::r) a h;exact⟨q.1,q.2 _⟩
def Ew (X:Cx0 prog w hb K₀ T P dep)(R:Room (dep+1) A){a:Wz}{ops:List CmpOp}{j:List Wz}{p:Pos}{o:IE}(h:Ht f T a ops j=Kf o):SE prog w hb P T env A pr (.Compare a ops j p) o:=by
 obtain⟨i,b,rfl,rfl⟩:∃i b,ops=[i]/\j=[b]:=by
  cases ops with
  |nil=>contradiction
  |cons i r=>cases r with
   |cons _ _=>contradiction
   |nil=>cases j with
    |nil=>contradiction
    |cons b r=>cases r with
     |nil=>exact⟨i,b,rfl,rfl⟩
     |cons _ _=>contradiction
 have h:(if gK b then (do return .cmp i (<-f a) (<-f b)) else Wq)=Kf o:=h
 obtain⟨e,h⟩:=qh h
 obtain⟨x,y,t,z,rfl⟩:=cP h
 refine⟨λ n l c K k=>?_,λ n l c K k=>?_⟩
 ·cases n with
  |zero=>exact False.elim k
  |succ n=>exact GE R e<|OkE.mono ((hf _ _ t).1 _ _ _ _ k) λ u G q=>(hf _ _ z).1 _ _ _ _ q
 ·cases n with
  |zero=>exact False.elim k
  |succ n=>exact Fq R e<|OkE.mono ((hf _ _ t).1 _ _ _ _ k) λ u G q=>(hf _ _ z).1 _ _ _ _ q
def Ep (X:Cx0 prog w hb K₀ T P dep){a i:Wz}{p:Pos}{G:IE}(h:Dq f T a i=Kf G):SE prog w hb P T env A pr (.Subscript a i p) G:=by unfold Dq at h;by_cases b:dK i=true;rw[Wy b] at h;obtain⟨x,y,j,o,rfl⟩:=cP h;refine fH (T:=T) (λ _=>rfl) rfl λ n l c K k=>?_;exact Dn b<|OkE.mono ((hf _ _ j).1 _ _ _ _ k) λ u I r=>(hf _ _ o).1 _ _ _ _ r;rw[Wg b] at h;cases t:qq i with|none=>rw[t] at h;contradiction|some q=>obtain⟨M,R,st⟩:=q;rw[t] at h;obtain⟨p,rfl⟩:=tK t;cases st with|some e=>contradiction|none=>obtain⟨x,y,z,j,o,J,rfl⟩:=gu h;refine fH (T:=T) (λ _=>rfl) rfl λ n l c K k=>?_;exact zp<|OkE.mono ((hf _ _ j).1 _ _ _ _ k) λ u I r=>OkE.mono (wz hf o _ _ _ _ r) λ v U L=>wz hf J _ _ _ _ L
def zJ (X:Cx0 prog w hb K₀ T P dep){a:Wz}{i:Str}{p:Pos}{o:IE}(h:vc f T a i p=Kf o):SE prog w hb P T env A pr (.Attribute a i p) o:=by unfold vc at h;obtain⟨b,h⟩:=qh h;by_cases e:i=Mn.append.nm;rw[Wy e] at h;obtain⟨x,y,j,q,rfl⟩:=cP h;refine fH (T:=T) (λ _=>rfl) rfl λ n l c K k=>?_;rw[e];exact Hz b<|(hf _ _ j).1 _ _ _ _ k;rw[Wg e] at h;obtain⟨x,j,rfl⟩:=fq h;refine fH (T:=T) (λ _=>rfl) rfl λ n l c K k=>?_;exact Ej X b<|(hf _ _ j).1 _ _ _ _ k
def Ea {b:List Wz}{p:Pos}{i:IE}(h:(if bD b then (do return IE.tup (<-fk f b)) else Wq)=Kf i):SE prog w hb P T env A pr (.Tuple b k p) i:=by
 obtain⟨e,h⟩:=qh h
 obtain⟨x,j,rfl⟩:=fq h
 refine fH (T:=T) (λ _=>rfl) rfl λ n l c K k=>?_
 exact vS e<|e8 hf j _ _ _ _ k
def El {b:List Wz}{p:Pos}{i:IE}(h:(if bD b then (do return IE.lst (<-fk f b) (T.cell p)) else Wq)=Kf i):SE prog w hb P T env A pr (.List b p) i:=by
 obtain⟨e,h⟩:=qh h
 obtain⟨x,j,rfl⟩:=fq h
 refine fH (T:=T) (λ _=>rfl) rfl λ n l c K k=>?_
 exact HL e<|e8 hf j _ _ _ _ k
def AU {a b:Wz}{z:Str}(h:a8 o=true)(e:(apos.endLine==pos.line)=true)(j:sP a=Kf y)(i:sP b=Kf z){x:IE}(p:f o=Kf x):SE prog w hb P T env A pr (.Call (.Attribute o (Qq "replace") apos) [a,b] [] pos) (.repl x y z):=by obtain⟨q,r,rfl⟩:=rG j;obtain⟨t,u,rfl⟩:=rG i;refine fH (T:=T) (λ _=>rfl) rfl λ n l c K k=>?_;exact D5 h e<|(hf _ _ p).1 _ _ _ _ k
def BI (X:Cx0 prog w hb K₀ T P dep)(E:CxE env T)(R:Room (dep+1) A){t:Str}(i:a8 o=true)(G:bD args=true)(p:args.length<30)(e:(apos.endLine==pos.line)=true){Y:IE}(h:vX f T o t args=Kf Y) :SE prog w hb P T env A pr (.Call (.Attribute o t apos) args [] pos) Y:=by
 unfold vX at h;by_cases J:t=Qq "replace";rw[Wy J] at h;subst J;obtain⟨q,L,h⟩:=bm h;obtain⟨y,hy,h⟩:=bm h;obtain⟨z,hz,h⟩:=bm h;obtain⟨x,r,rfl⟩:=fq h;rw[qA L];exact AU hf i e hy hz r;rw[Wg J] at h;by_cases M:t=Qq "translate";rw[Wy M] at h;subst M;obtain⟨a,ha,h⟩:=bm h;obtain⟨q,L,h⟩:=bm h;rw[yK ha,bL L];obtain⟨n',j,h⟩:=bm h;obtain⟨d,hd,h⟩:=bm h;obtain⟨x,r,rfl⟩:=fq h;rw[ss hd] at j;exact fH (T:=T) (λ _=>rfl) rfl λ n l c K k=>Bq X i e (λ c1 K' k'=>d7 X E j (n:=1) k')<|(hf _ _ r).1 _ _ _ _ k;rw[Wg M] at h
 cases U:Fp t with
 |some m=>rw[U] at h;obtain⟨x,y,r,W,rfl⟩:=cP (f:=λ a b=>IE.meth a m b) h;refine fH (T:=T) (λ _=>rfl) rfl λ n l c K k=>?_;rw[AI U];exact Fx i G p e<|OkE.mono ((hf _ _ r).1 _ _ _ _ k) λ u c1 I=>⟨I.1,e8 hf W _ _ _ _ I.2⟩
 |none=>rw[U] at h;obtain⟨x,y,z,r,W,h3,rfl⟩:=gu (f:=λ a b d=>IE.umeth a b t d) h;refine fH (T:=T) (λ _=>rfl) rfl λ n l c K k=>?_;exact An X R W i G p e<|OkE.mono ((hf _ _ r).1 _ _ _ _ k) λ u c1 I=>⟨I.1,e8 hf h3 _ _ _ _ I.2⟩
def H0 (X:Cx0 prog w hb K₀ T P dep)(E:CxE env T)(R:Room (dep+1) A){p:Pos}(i:bD args=true){o:IE}(h:JX f T x args pos=Kf o):SE prog w hb P T env A pr (.Call (.Name x p) args [] pos) o:=by
 unfold JX at h
 cases r:T.mak x pos with
 |some q=>obtain⟨C,k,U⟩:=q;rw[r] at h;obtain⟨W,e,h⟩:=bm h;obtain⟨t,G,h⟩:=bm h;obtain⟨rfl,h⟩:=qh h;obtain⟨y,j,rfl⟩:=fq h;rw[ss G] at e;refine fH (T:=T) (λ _=>rfl) rfl λ n l c K k=>?_;obtain⟨rfl,k⟩:=(k:t=P.C/\_);exact Dz X R i (λ I Y J=>d7 X E e (n:=1) J)<|e8 hf j _ _ _ _ k
 |none=>rw[r] at h;obtain⟨y,z,j,L,rfl⟩:=cP (f:=λ a b=>IE.call a b<|T.cell pos) h;refine fH (T:=T) (λ _=>rfl) rfl λ n l c K k=>?_;exact ES X R i<|OkE.mono (d7 X E j k) λ u I M=>e8 hf L _ _ _ _ M
def zB (X:Cx0 prog w hb K₀ T P dep)(E:CxE env T)(R:Room (dep+1) A){g:Wz}{kws:List Keyword}{r:IE}(h:uZ f T g args kws pos=Kf r):SE prog w hb P T env A pr (.Call g args kws pos) r:=by unfold uZ at h;obtain⟨e,h⟩:=qh h;obtain⟨t,i⟩:=Bool.and_eq_true_iff.mp e;rw[List.isEmpty_iff.mp t];cases l:eJ g with|some q=>obtain⟨o,u,apos⟩:=q;rw[l] at h;rw[eC l];obtain⟨e,h⟩:=qh h;obtain⟨e,b⟩:=Bool.and_eq_true_iff.mp e;obtain⟨j,k⟩:=Bool.and_eq_true_iff.mp e;exact BI hf X E R j i (of_decide_eq_true k) b h|none=>rw[l] at h;cases p:cn g with|none=>rw[p] at h;contradiction|some q=>rw[p] at h;rw[bL p];exact H0 hf X E R i h
end
def GT (ihE:vB prog w hb P K₀ dep m){T:Tb}{env:Env}{A:Around}(X:Cx0 prog w hb K₀ T P dep)(E:CxE env T)(R:Room (dep+1) A){elt:Wz}{o:List Comprehension}{t:IE}(h:KD (aH m) T elt o scope pos=Kf t) :SE prog w hb P T env A pr (.ListComp elt o scope pos) t:=by
 obtain⟨g,rfl⟩:∃g,o=[g]:=by cases o with|nil=>contradiction|cons g r=>cases r with|nil=>exact⟨g,rfl⟩|cons _ _=>contradiction
 obtain⟨x,iter,ifs,asy⟩:=g;obtain⟨q,y,h⟩:=bm h;obtain⟨b,h⟩:=qh h;obtain⟨b,p⟩:=Bool.and_eq_true_iff.mp b;obtain⟨b,_⟩:=Bool.and_eq_true_iff.mp b;obtain⟨b,i⟩:=Bool.and_eq_true_iff.mp b;obtain⟨j,u⟩:=Bool.and_eq_true_iff.mp b;obtain⟨r,z,h⟩:=bm h;obtain⟨e,it,k,G,hit,M,rfl⟩:=gu (f:=λ e it k=>IE.comp e it r.2 k) h;rw[(beq_iff_eq.mp j:asy=0),(bL y:x=_),(List.isEmpty_iff.mp p:ifs=[])];obtain⟨I,_⟩:=mM E u rfl;exact fH (T:=T) (λ _=>rfl) rfl λ n l c K J=>Ed E R I i<|OkE.mono ((ihE T env A pr X E R iter it hit).1 _ _ _ _ J) λ v U L=>nc ihE X E R u z G L
def Eg {T:Tb}{env:Env}{A:Around}{f:Wz->Option IE}(j:∀a M,f a=Kf M->SE prog w hb P T env A pr a M){t a b:Wz}{p:Pos}{R:IE}(h:(do return IE.ite (<-f t) (<-f a) (<-f b))=Kf R):SE prog w hb P T env A pr (.IfExp t a b p) R:=by
 obtain⟨x,y,z,h1,h2,h3,rfl⟩:=gu (f:=λ a b d=>IE.ite a b d) h
 refine⟨λ n l c K k=>?_,λ n l c K k=>?_⟩
 ·cases n with
  |zero=>exact False.elim k
  |succ n=>
   intro α s Q hs F U
   refine wpAny_IfExp<|(j _ _ h1).2 _ _ _ _ k α s _ hs F λ r c1 W g h1' t1 e Y F1 L1 i1=>?_
   cases i1
   cases r with
   |true=>exact (j _ _ h2).1 _ _ _ _ (Y.1 rfl) W _ Q e F1 λ v o q g u G I J L L2 i=>U v o q g u G I J L (L1.trans L2) i
   |false=>exact (j _ _ h3).1 _ _ _ _ (Y.2 rfl) W _ Q e F1 λ v o q g u G I J L L2 i=>U v o q g u G I J L (L1.trans L2) i
 ·cases n with
  |zero=>exact False.elim k
  |succ n=>exact False.elim k
def tI (ihE:vB prog w hb P K₀ dep m):vB prog w hb P K₀ dep (m+1):=by intro T env A l X E R e q h;have f:=λ a j (o:aH m T a=Kf j)=>ihE T env A l X E R a j o;cases e with|Constant k n p=>exact wn h|Name x p=>exact AM X E h|BinOp a op b p=>exact Ds f h|UnaryOp op a p=>exact Ha f h|BoolOp op es p=>exact A9 f h|Compare a ops bs p=>exact Ew f X R h|Subscript a i p=>exact Ep f X h|Attribute a nm p=>exact zJ f X h|Tuple es k p=>exact Ea f h|List es p=>exact El f h|IfExp t a b p=>exact Eg f h|Call g args kws p=>exact zB f X E R h|ListComp elt gs scope p=>exact GT ihE X E R h|_=>contradiction
def snd (m:Nat):vB prog w hb P K₀ dep m:=by
 induction m with
 |zero=>exact λ T env A b X E R e f h=>nomatch h
 |succ m ih=>exact tI ih
end
section
variable {A:Around}{env:Env}
theorem OkS.look {l l':cI}{t:Sem Flow}{K:F->Sg->Prop}(e:∀x,Mine.look l' x=Mine.look l x)(h:OkS M A hb pr env ⟨l',c⟩ t K):OkS M A hb pr env ⟨l,c⟩ t K:=
 λ α s Q b F f=>h α s Q b (F.look λ x v q=>by rw[<-e];exact q) f
def OkS.mono {σ:Sg}{t:Sem Flow}{K b:F->Sg->Prop}(h:OkS M A hb pr env σ t K)(e:∀f τ,K f τ->b f τ):OkS M A hb pr env σ t b:=
 λ α s Q i F j=>h α s Q i F λ f τ l g o p q k=>j f τ l g o p q<|e f τ k
end
def KS (names:List Str)(K:F->Sg'->Prop):F->Sg->Prop:=λ f τ=>∃σ:Sg',σ.l.length=names.length/\τ=⟨ad names σ.l,σ.c⟩/\K f σ
def pN {names:List Str}(b:names.Nodup):∀{j:Nat} {x:Str},names[j]?=Kf x->aR names x=Kf j:=by induction names with|nil=>intro j x h;simp at h|cons y ys ih=>intro j x h;obtain⟨f,i⟩:=List.nodup_cons.mp b;dsimp only[aR];cases j with|zero=>simp at h;rw[Wy h]|succ j=>simp at h;have:y≠x:=λ e=>f<|e▸Qg h;rw[Wg this,ih i h];rfl
theorem lH {names:List Str}(b:names.Nodup){l:Sl}:∀(ns:List Str) (r:Sl) (i:Nat),(∀j x,ns[j]?=Kf x->names[i+j]?=Kf x)->yU l c c' i r->pd (ad names l) c c' (ad ns r)
 | [],r,i,_,_=>by cases r<;>trivial|n::ns,[],i,_,_=>by show pd _ _ _ [];trivial|n::ns,Wq::r,i,h,f=>by show pd _ _ _ (ad ns r);exact lH b ns r (i+1) (λ j x e=>by have:=h (j+1) x e;rw[show i+1+j=i+(j+1) by exact U23];exact this) f|n::ns,Kf v::r,i,h,f=>by show (∃k,look (ad names l) n=Kf k/\vW c c' k v)/\pd _ _ _ (ad ns r);refine⟨?_,lH b ns r (i+1) (λ j x e=>by have:=h (j+1) x e;rw[show i+1+j=i+(j+1) by exact U23];exact this) f.2⟩;obtain⟨k,o,p⟩:=f.1;exact⟨k,by rw[cW b l<|pN b<|h 0 n rfl];exact o,p⟩
def Wk.weak {names:List Str}(b:names.Nodup){σ τ:Sg'}(h:Wk pr σ τ):Weak pr ⟨ad names σ.l,σ.c⟩ ⟨ad names τ.l,τ.c⟩:=
 ⟨lH b names τ.l 0 (λ j x e=>by rw[Nat.zero_add];exact e) h.l,h.c,h.pr⟩
section
variable {w:Wv}{P:Pm}
def xT (prog:Program)(w:Wv)(hb:Wu)(P:Pm)(K₀:Frag)(dep m:Nat):Prop:=
 ∀(T:Tb) (env:Env) (A:Around) (pr:List Nat),Cx0 prog w hb K₀ T P dep->CxE env T->Room (dep+1) A->
  ∀st ist,oq m T st=Kf ist->∀n (σ:Sg') K,σ.l.length=T.names.length->oK P pr n ist σ K->OkS (model prog w) A hb pr env ⟨ad T.names σ.l,σ.c⟩ (exec st env) (KS T.names K)
def ut (prog:Program)(w:Wv)(hb:Wu)(P:Pm)(K₀:Frag)(dep m:Nat):Prop:=
 ∀(T:Tb) (env:Env) (A:Around) (pr:List Nat),Cx0 prog w hb K₀ T P dep->CxE env T->Room (dep+1) A->
  ∀b ib,aV m T b=Kf ib->∀n (σ:Sg') K,σ.l.length=T.names.length->aJ P pr n ib σ K->OkS (model prog w) A hb pr env ⟨ad T.names σ.l,σ.c⟩ (execs b env) (KS T.names K)
def PreB (prog:Program)(w:Wv)(hb:Wu)(P:Pm)(K₀:Frag)(dep m:Nat):Prop:=
 ∀(T:Tb) (env:Env) (A:Around) (pr:List Nat),Cx0 prog w hb K₀ T P dep->CxE env T->Room (dep+1) A->∀(r:List Stmt) (Q:Flow->Wj->Prop) (E0:Wx->Wj->Prop) (b:List Stmt) (ib:List IS),aV m T b=Kf ib->∀(n:Nat) (σ:Sg') (K:F->Sg'->Prop),σ.l.length=T.names.length->aJ P pr n ib σ K->
  ∀(α:Al) (s:Wj),1<=s.toks->Fst hb pr env (ad T.names σ.l) σ.c α s.heap->
  (∀f τ α' g h' tk,1<=tk->KS T.names K f τ->Fst hb pr env τ.l τ.c α' h'->LeS pr env σ.c α s.heap τ.c α' h'->IK τ.c α' h' f g->match g with
   | .next=>wpAny (model prog w) A (execs r env) Q E0 {s with heap:=h',toks:=tk}|g=>Q g {s with heap:=h',toks:=tk})->wpAny (model prog w) A (execs (b++r) env) Q E0 s
def s7 (ihS:xT prog w hb P K₀ dep m)(ihB:PreB prog w hb P K₀ dep m):PreB prog w hb P K₀ dep (m+1):=by
 intro T env A M X E R r Q U b ib h n σ K hl o α s W F l
 cases b with
 |nil=>injection h with h;subst h;cases n with|zero=>exact False.elim o|succ n=>exact l .next _ α .next s.heap s.toks W ⟨σ,hl,rfl,o⟩ F (.refl ..) rfl
 |cons st b=>
  obtain⟨x,y,h1,G,rfl⟩:=cP h
  cases n with|zero=>exact False.elim o|succ n=>
   refine wpAny_execs_cons<|Vq (ihS T env A M X E R st x h1 n σ _ hl o α s (λ f Y=>match f with | .next=>wpAny (model prog w) A (execs (b++r) env) Q U Y|f=>Q f Y) W F λ f τ p g j I q k t u i=>?_) (λ _ _ x=>x) λ _ _ x=>x.elim;obtain⟨z,e,rfl,k⟩:=k
   cases f with
   |next=>subst i;exact ihB T env A M X E R r Q U b y G n z K e k p _ q t λ f υ α2 g G J L k2 F2 L2 i2=>l f υ α2 g G J L k2 F2 (u.trans L2 λ b hf=>(F2.fr b hf).2) i2
   |brk=>subst i;exact l .brk _ p .brk j I q ⟨z,e,rfl,k⟩ t u rfl|cont=>subst i;exact l .cont _ p .cont j I q ⟨z,e,rfl,k⟩ t u rfl|ret v=>obtain⟨g',rfl,i⟩:=i;exact l (.ret v) _ p (.ret g') j I q ⟨z,e,rfl,k⟩ t u ⟨g',rfl,i⟩
def PreB.snd (h:PreB prog w hb P K₀ dep m):ut prog w hb P K₀ dep m:=λ T env A r X E R b t u n σ K hl x α s Q y F e=>by
 have:=h T env A r X E R [] Q no b t u n σ K hl x α s y F λ f τ j g l o p k q L i=>by cases g with|next=>exact wpAny_execs_nil<|e f τ j _ l o p k q L i|_=>exact e f τ j _ l o p k q L i
 rw[Zg] at this;exact this
def LeS.isV {env:Env}{l:cI}(L:LeS pr env c α h c α h')(F:Fst hb pr env l c α h)(i:a7 c α h v g):a7 c α h' v g:=by cases v with|d x=>exact L.isD F i|obj k=>exact i|val u=>exact i|rng p q=>obtain⟨r,t,u,v,e,g,n⟩:=i;exact⟨r,t,u,v,e,L.kept r _ g (λ f=>a4 F f _ rfl g) n,n⟩|bi b=>exact i|mt e=>obtain⟨r,e,m⟩:=i;exact⟨r,e,m.step (λ b o j g n=>L.kept b o g (λ f=>a4 F f _ j g) n)<|λ _ e=>.inl e⟩
def fX {env:Env}{t:Option Wz}(h:bR value=false):swapsWith value t n env=pure false:=by cases value<;>first|rfl|exact absurd h (nofun:¬(true=false))
def fV {env:Env}{T:Tb}(E:CxE env T)(h:bU T x=Kf i):jE env x/\aR T.names x=Kf i:=by
 unfold bU at h;split at h;rename_i q;refine⟨?_,h⟩;unfold rX at q;simp only[Bool.or_eq_true] at q;rcases q with q|q
 exact .inl<|E.kl x<|beq_iff_eq.mp q;exact .inr<|E.kc x<|beq_iff_eq.mp q;contradiction
def bG {env:Env}{A:Around}{T:Tb}(E:CxE env T)(h:bU T x=Kf i){l:Sl}(hl:l.length=T.names.length)(k:1<=s.toks)(F:Fst hb pr env (ad T.names l) c α s.heap)(f:a7 c α s.heap v g){Q:Unit->Wj->Prop} (o:∀h' b,1<=b->Fst hb pr env (ad T.names<|l.set i<|some v) c α h'->LeS pr env c α s.heap c α h'->a7 c α h' v g->Q () {s with heap:=h',toks:=b}):wpAny (model prog w) A (storeName env x g) Q no s:=by
 obtain⟨p,r⟩:=fV E h;refine aA k<|oH E.eo F p f λ h' b t j z=>?_;have e:Fst hb pr env (ad T.names<|l.set i<|some v) c α h':=t.look λ y u q=>by rw[<-i9 E.nd hl r v y];exact q
 exact o h' b z e j<|j.isV F f
end
section
variable {w:Wv}{P:Pm}{env:Env}{A:Around}{T:Tb}
def Iy (E:CxE env T)(hi:bU T x=Kf i){σ:Sg'}(hl:σ.l.length=T.names.length){p:Pos}(o:bR value=false){K:F->Sg'->Prop}(h:Ev prog w A hb pr env (ad T.names σ.l) σ.c value λ v e=>K .next ⟨σ.l.set i<|some v,e⟩) :OkS (model prog w) A hb pr env ⟨ad T.names σ.l,σ.c⟩ (exec (.Assign [.Name x p] value pos) env) (KS T.names K):=by intro α s Q q F r;refine wpAny_Assign_Name (h α s _ q F λ v e t g u y f z G I J=>?_)<|fX o;refine bG (s:={s with heap:=u,toks:=y}) E hi hl f G J λ L t2 j k L2 R=>?_;exact r .next ⟨_,e⟩ t _ L t2 j ⟨⟨_,e⟩,by rw[List.length_set];exact hl,rfl,z⟩ k ((I.leS F.toCst).trans L2 λ b M=>(k.fr b M).2) rfl
def CY (E:CxE env T)(hi:bU T x=Kf i)(z:bU T y=Kf j){σ:Sg'}(hl:σ.l.length=T.names.length){p q:Pos}(hv:bR value=false){K:F->Sg'->Prop}(h:Ev prog w A hb pr env (ad T.names σ.l) σ.c value λ v e=>K .next ⟨(σ.l.set i<|some v).set j<|some v,e⟩) :OkS (model prog w) A hb pr env ⟨ad T.names σ.l,σ.c⟩ (exec (.Assign [.Name x p,.Name y q] value pos) env) (KS T.names K):=by intro α s Q G F I;refine wpAny_Assign_two<|h α s _ G F λ v e J g L M f R U W Y=>?_;refine Vv<|bG (s:={s with heap:=L,toks:=M}) E hi hl f U Y λ h2 t2 k t L2 i2=>?_;refine Vv<|bG (s:={s with heap:=h2,toks:=t2}) E z (by rw[List.length_set];exact hl) k t i2 λ h3 t3 o u L3 i3=>?_;exact I .next ⟨_,e⟩ J _ h3 t3 o ⟨⟨_,e⟩,by rw[List.length_set,List.length_set];exact hl,rfl,R⟩ u (((W.leS F.toCst).trans L2 λ b r=>(t.fr b r).2).trans L3 λ b r=>(u.fr b r).2) rfl
def dl {b:Str}{K:aa->Prop}(h:bf P c u b v K):∃k dk fs,u=.obj k/\ae c k=Kf (.inst P.C dk)/\ae c dk=Kf (.ns fs)/\P.attr b=true/\fs.length<=1000/\K (cset c dk<|.ns<|a6 fs b v):=by obtain⟨k,e,h⟩:=eP h;obtain⟨C,dk,f,rfl,i,h⟩:=jW h;obtain⟨fs,j,h⟩:=oF h;exact⟨k,dk,fs,e,f,j,i,h⟩
def nM {fs:List (Str×V)}{b:Str}{K:aa->Prop}(g1:ae c k=Kf (.inst P.C dk))(g2:ae c dk=Kf (.ns fs))(g3:P.attr b=true)(g4:fs.length<=1000)(h:K<|cset c dk<|.ns<|a6 fs b v):bf P c (.obj k) b v K:=by show fJ (ae c k) _;rw[g1];refine⟨rfl,g3,?_⟩;rw[g2];exact⟨g4,h⟩
def Gd (X:Cx0 prog w hb K₀ T P dep)(E:CxE env T){b:Str}{σ:Sg'}(hl:σ.l.length=T.names.length){p:Pos}(I:bR value=false){K:F->Sg'->Prop}(h:Ev prog w A hb pr env (ad T.names σ.l) σ.c value λ v x=>Ev prog w A hb pr env (ad T.names σ.l) x o λ u e=>bf P e u b v λ c3=>K .next ⟨σ.l,c3⟩) :OkS (model prog w) A hb pr env ⟨ad T.names σ.l,σ.c⟩ (exec (.Assign [.Attribute o b p] value pos) env) (KS T.names K):=by intro α s Q J F L;refine plainObj_wpAny_Assign_Attribute (h α s _ J F λ v x M g h1 t1 f R U W Y=>?_)<|fX I;refine R M _ _ f U λ u e α2 g2 y t2 i k2 F2 L2 i2=>?_;obtain⟨k,z,G,rfl,hk,j,q,r,hK⟩:=dl k2;obtain⟨rfl,_⟩:=i2;refine aA (s:={s with heap:=y,toks:=t2}) i<|fF (s:={s with heap:=y,toks:=t2}) F2 X.kin hk j X.cls (X.attr b q) r (L2.isV Y) λ h3 t3 F3 L3 t=>?_;exact L .next ⟨ad T.names σ.l,cset e z<|.ns<|a6 G b v⟩ α2 _ h3 t3 t ⟨⟨σ.l,cset e z<|.ns<|a6 G b v⟩,hl,rfl,hK⟩ F3 (((W.trans L2).trans L3).leS F.toCst) rfl
def zO (X:Cx0 prog w hb K₀ T P dep)(E:CxE env T){e:Str}(hj:bU T y=Kf j){σ:Sg'}(hl:σ.l.length=T.names.length){p q:Pos}(hv:bR value=false){K:F->Sg'->Prop}
  (h:Ev prog w A hb pr env (ad T.names σ.l) σ.c value λ v L=>Ev prog w A hb pr env (ad T.names σ.l) L o λ u f=>bf P f u e v λ c3=>K .next ⟨σ.l.set j<|some v,c3⟩) :
  OkS (model prog w) A hb pr env ⟨ad T.names σ.l,σ.c⟩ (exec (.Assign [.Attribute o e p,.Name y q] value pos) env) (KS T.names K):=by
 intro α s Q hs F hq
 refine wpAny_Assign_two<|h α s _ hs F λ v L α1 g h1 t1 i k1 F1 L1 M=>?_
 show wpAny _ A (do let r <-holding [g] (eval o env);standAt p.atName;holding [g,r] (setAttr r e g);release [g,r] []) _ _ _
 refine Zb<|Vx<|k1 α1 _ _ i F1 λ u f α2 g2 R t2 t k2 F2 L2 i2=>?_
 obtain⟨k,U,W,rfl,hk,x,z,G,hK⟩:=dl k2
 obtain⟨rfl,_⟩:=i2
 refine Zb<|Vj<|Zb<|Vx<|aA (s:={s with heap:=R,toks:=t2}) t<|fF (s:={s with heap:=R,toks:=t2}) F2 X.kin hk x X.cls (X.attr e z) G (L2.isV M) λ h3 t3 F3 L3 I=>?_
 refine wpAny_release ?_
 refine Vv<|bG (s:={s with heap:=h3,toks:=t3}) E hj hl I F3 (L3.isV<|L2.isV M) λ h4 t4 J Y L4 i4=>?_
 exact hq .next ⟨ad T.names<|σ.l.set j<|some v,cset f U<|.ns<|a6 W e v⟩ α2 _ h4 t4 J ⟨⟨σ.l.set j<|some v,cset f U<|.ns<|a6 W e v⟩,by rw[List.length_set];exact hl,rfl,hK⟩ Y ((((L1.trans L2).trans L3).leS F.toCst).trans L4 λ b hf=>(Y.fr b hf).2) rfl
def C0 (E:CxE env T){σ:Sg'}(hl:σ.l.length=T.names.length){e:Wz}(i:bR e=false){K:F->Sg'->Prop}(h:Ev prog w A hb pr env (ad T.names σ.l) σ.c e λ v b=>K .next ⟨σ.l,b⟩) :OkS (model prog w) A hb pr env ⟨ad T.names σ.l,σ.c⟩ (exec (.Expr e pos) env) (KS T.names K):=by intro α s Q j F k;refine wpAny_Expr_any (h α s _ j F λ v b o g p q f r t u x=>?_) E.eo.inter<|fX i;exact k .next ⟨_,b⟩ o _ p q f ⟨⟨_,b⟩,hl,rfl,r⟩ t (u.leS F.toCst) rfl
def Jq {σ:Sg'}{t:Wz}{a b:List Stmt}{K:F->Sg->Prop}(h:sW prog w A hb pr env (ad T.names σ.l) σ.c t λ r k=>(r=true->OkS (model prog w) A hb pr env ⟨ad T.names σ.l,k⟩ (execs a env) K)/\(r=false->OkS (model prog w) A hb pr env ⟨ad T.names σ.l,k⟩ (execs b env) K)) :OkS (model prog w) A hb pr env ⟨ad T.names σ.l,σ.c⟩ (exec (.If t a b pos) env) K:=by
 intro α s Q L F y;refine wpAny_If<|h α s _ L F λ r k z g R U i G I J M=>?_;cases M
 cases r with
 |true=>rw[Wy rfl];exact G.1 rfl z _ Q i I λ f τ o g2 p t2 e q j L2 u=>y f τ o g2 p t2 e q j ((J.leS F.toCst).trans L2 λ b x=>(j.fr b x).2) u
 |false=>rw[Wg<|{4}];exact G.2 rfl z _ Q i I λ f τ o g2 p t2 e q j L2 u=>y f τ o g2 p t2 e q j ((J.leS F.toCst).trans L2 λ b x=>(j.fr b x).2) u
def Hg {σ:Sg'}(hl:σ.l.length=T.names.length){e:Wz}{K:F->Sg'->Prop}(h:Ev prog w A hb pr env (ad T.names σ.l) σ.c e λ v b=>K (.ret v) ⟨σ.l,b⟩) :OkS (model prog w) A hb pr env ⟨ad T.names σ.l,σ.c⟩ (exec (.Return (Kf e) pos) env) (KS T.names K):=by intro α s Q i F j;refine wpAny_Return_some<|h α s _ i F λ v b k g o p f q r t u=>?_;exact j (.ret v) ⟨_,b⟩ k _ o p f ⟨⟨_,b⟩,hl,rfl,q⟩ r (t.leS F.toCst) ⟨g,rfl,u⟩
def wv {σ:Sg'}(hl:σ.l.length=T.names.length){t:Wz}{K:F->Sg'->Prop}(h:sW prog w A hb pr env (ad T.names σ.l) σ.c t λ r b=>r=true/\K .next ⟨σ.l,b⟩) :OkS (model prog w) A hb pr env ⟨ad T.names σ.l,σ.c⟩ (exec (.Assert t Wq pos) env) (KS T.names K):=by intro α s Q i F j;refine wpAny_Assert_holds<|h α s _ i F λ r b k g o p e f q u x=>?_;subst x;exact⟨f.1,j .next ⟨_,b⟩ k _ o p e ⟨⟨_,b⟩,hl,rfl,f.2⟩ q (u.leS F.toCst) rfl⟩
end
section
variable {w:Wv}{P:Pm}{env:Env}{A:Around}{T:Tb}
def y3 {f:Wz->Bool}{a b:Wz}(h:∀e,cN e=false->f e=false)(i:cN a=false)(hb:cN b=false):[a,b].any f=false:=by show (f a||(f b||false))=false;rw[h a i,h b hb];rfl
def lj {f:Wz->Option Str}{a b:Wz}(e:f a=Kf x)(h:f b=Kf y):[a,b].filterMap f=[x,y]:=by rw[List.filterMap_cons_some e,List.filterMap_cons_some h];rfl
def Am {f:Wz->Option Str}{a b:Wz}(e:f a=Kf x)(h:f b=Kf y)(i:([x,y]:List Str).eraseDups.length=2):¬(([a,b].filterMap f).length != 2||([a,b].filterMap f).eraseDups.length != ([a,b].filterMap f).length)=true:=by rw[lj e h,i];exact Bool.false_ne_true
def vR (E:CxE env T){px o vp:Pos}{k':Nat}{a b:Wz}(h:oj T x px y o a b=true) :swappedStores [.Tuple [.Name x px,.Name y o] k tp] (.Tuple [a,b] k' vp) env=pure (Kf [x,y])/\cN a=false/\cN b=false:=by
 unfold oj at h;obtain⟨h,p⟩:=(Xv _ _).mp h;obtain⟨h,r⟩:=(Xv _ _).mp h;obtain⟨h,f⟩:=(Xv _ _).mp h;obtain⟨h,i⟩:=(Xv _ _).mp h;obtain⟨h,j⟩:=(Xv _ _).mp h;obtain⟨h,G⟩:=(Xv _ _).mp h;obtain⟨I,J⟩:=(Xv _ _).mp h;have nt:∀{b:Bool},(!b)=true->b=false:=λ {b} q=>by cases b<;>first|rfl|contradiction
 have j:=nt j;have i:=nt i;have f:=nt f;have r:=nt r;have p:=nt p;refine⟨?_,i,f⟩;have t:env.blockKind=.function:=by unfold Env.blockKind;rw[E.eo.kind];rfl
 have u:(env.kindOf x==Kf .local&&px.line==px.line)=true:=by rw[E.kl x<|eq_of_beq I];simp
 have z:(env.kindOf y==Kf .local&&o.line==px.line)=true:=by rw[E.kl y<|eq_of_beq J,G];rfl
 have L:([x,y]:List Str).eraseDups.length=2:=by
  have:(y==x)=false:=by rw[beq_eq_false_iff_ne] at j ⊢;exact λ e=>j e.symm
  simp[List.eraseDups_cons,this]
 refine (Wg<|by rw[t];exact λ q=>Bool.false_ne_true q).trans<|(Wg<|λ q=>Bool.false_ne_true<|(y3 (λ e M=>by cases e<;>first|rfl|contradiction) i f).symm.trans q).trans ?_;refine (Wg<|Am (Wy u) (Wy z) L).trans<|(Wg<|λ q=>Bool.false_ne_true<|r.symm.trans q).trans<|(Wg<|λ q=>Bool.false_ne_true<|p.symm.trans q).trans ?_;exact congrArg (λ l=>(pure (Kf l):Sem<|Option<|List Str))<|lj (Wy u)<|if_pos z
def Dt (E:CxE env T)(R:Room (dep+1) A)(hi:bU T x=Kf i)(hj:bU T y=Kf j){px Y vp:Pos}{k':Nat}{a b:Wz}(f:oj T x px y Y a b=true){σ:Sg'}(hl:σ.l.length=T.names.length){K:F->Sg'->Prop}
  (h:Ev prog w A hb pr env (ad T.names σ.l) σ.c a λ u c1=>Ev prog w A hb pr env (ad T.names σ.l) c1 b λ v p=>(∃x y,u=.d x/\v=.d y)/\K .next ⟨(σ.l.set j<|some v).set i<|some u,p⟩) :
  OkS (model prog w) A hb pr env ⟨ad T.names σ.l,σ.c⟩ (exec (.Assign [.Tuple [.Name x px,.Name y Y] k tp] (.Tuple [a,b] k' vp) pos) env) (KS T.names K):=by
 obtain⟨z,G,I⟩:=vR (k:=k) (k':=k') (tp:=tp) (vp:=vp) E f
 intro α s Q hs F hq
 have hE:Ev prog w A hb pr env (ad T.names σ.l) σ.c (.Tuple [a,b] k' vp) λ t p=>∃x y,t=.d (.tup [x,y])/\K .next ⟨(σ.l.set j<|some<|.d y).set i<|some<|.d x,p⟩:=by
  refine vS (by simp[bD,G,I]) ?_
  refine OkE.mono h λ u c1 h1=>OkE.mono h1 λ v p f=>?_
  obtain⟨⟨x,y,rfl,rfl⟩,f⟩:=f
  exact⟨(by show 2<=big;decide),x,y,rfl,f⟩
 refine Assign_Tuple_swapped (hE α s _ hs F λ t p α2 g f t2 J k2 F2 L2 i2=>?_) rfl z
 obtain⟨dx,dy,rfl,hK⟩:=k2
 obtain⟨L,wy,ta,ep,rfl,hg,ix,iy⟩:=IsD.two i2
 refine unpackItems_tuple (items:=#[L,wy]) R.handled ⟨_,hg,rfl,_,rfl⟩ λ h3 he=>?_
 have r:∀b o,f.get? b=Kf o->h3.get? b=Kf o:=λ b o e=>he b o (λ q=>by rw[q] at e;exact Nat.lt_irrefl _<|Heap.lt_size e) e
 obtain⟨F3,L3⟩:=F2.keeps r
 show wpAny _ A (do holding [L] (bindName env y wy);(do holding [] (bindName env x L);pure ())) _ _ _
 refine Zb<|Vx<|bindName_<|bG (s:={s with heap:=h3,toks:=t2}) E hj hl J F3 (v:=.d dy) (L3.isD iy) λ h4 t4 M F4 L4 i4=>?_
 refine Zb<|Vx<|bindName_<|bG (s:={s with heap:=h4,toks:=t4}) E hi (by rw[List.length_set];exact hl) M F4 (v:=.d dx) (L4.isD F3<|L3.isD ix) λ h5 t5 U F5 L5 i5=>Zp ?_
 exact hq .next ⟨_,p⟩ α2 _ h5 t5 U ⟨⟨_,p⟩,by rw[List.length_set,List.length_set];exact hl,rfl,hK⟩ F5 ((((L2.trans L3).leS F.toCst).trans L4 λ b W=>(F4.fr b W).2).trans L5 λ b W=>(F5.fr b W).2) rfl
def n7 {b:List Wz}:∀{f:List Nat},gY T b=Kf f->(assignEach b env).length=f.length/\(assignEach b env).findIdx? (·.1)=Wq:=by induction b with|nil=>intro f h;injection h with h;subst h;exact⟨rfl,rfl⟩|cons e r ih=>intro f h;obtain⟨q,j,h⟩:=bm h;obtain⟨i,p,t,k,rfl⟩:=cP h;obtain⟨l,o⟩:=ih k;rw[bL j];refine⟨congrArg Nat.succ l,?_⟩;show (((false,assign (.Name q.1 q.2) env)::assignEach r env:List<|Bool×(Wx->Sem Unit)).findIdx? (·.1))=Wq;rw[List.findIdx?_cons,o];rfl
def lM (E:CxE env T):∀{p:List Wz} {j:List Nat} (hs:gY T p=Kf j) {l:Sl} (hl:l.length=T.names.length) {c:aa} {α:Al} {xs:List D} {ws:List Wx} (t:xs.length=j.length) {s:Wj} (y:1<=s.toks) (F:Fst hb pr env (ad T.names l) c α s.heap) (r:IsDs s.heap (aD c α) xs ws) {Q:Unit->Wj->Prop},(∀h' R,1<=R->(oL l j xs).length=T.names.length->Fst hb pr env (ad T.names<|oL l j xs) c α h'->LeS pr env c α s.heap c α h'->Q () {s with heap:=h',toks:=R})->wpAny (model prog w) A (assignInOrder ((assignEach p env).map (·.2)) ws) Q no s:=by intro p;induction p with|nil=>intro j h l hl c α xs ws t s y F r Q z;injection h with h;subst h;obtain rfl:xs=[]:=List.eq_nil_of_length_eq_zero t;obtain rfl:ws=[]:=r.inv;exact Zp<|z s.heap s.toks y hl F<|.refl ..|cons e p ih=>intro j h l hl c α xs ws t s y F r Q z;obtain⟨q,G,h⟩:=bm h;obtain⟨i,js,Y,h2,rfl⟩:=cP h;cases xs with|nil=>contradiction|cons x xs=>obtain⟨u,us,rfl,iu,r'⟩:=r.inv;rw[bL G];refine Zb<|Vx<|Vv<|bG E Y hl y F (v:=.d x) iu λ U t4 I F4 J i4=>?_;have nn:∀b o,dT o=true->s.heap.get? b=Kf o->¬aD c α b->U.get? b=Kf o:=λ b o hz g n=>J.kept b o g (λ f=>a4 F f o hz g) n;exact ih h2 (by rw[List.length_set];exact hl) (Nat.succ.inj t) (s:={s with heap:=U,toks:=t4}) I F4 (r'.step nn λ b ⟨k,hk,e⟩=>e▸J.grow k hk) λ h5 t5 L M W L5=>z h5 t5 L M W<|J.trans L5 λ b hf=>(W.fr b hf).2
def Fh (E:CxE env T)(R:Room (dep+1) A){f:List Wz}{i:List Nat}(G:gY T f=Kf i)(U:bR value=false)(W:xC value=Wq){σ:Sg'}(hl:σ.l.length=T.names.length){K:F->Sg'->Prop}(h:Ev prog w A hb pr env (ad T.names σ.l) σ.c value λ u Y=>w5 u λ xs=>xs.length=i.length/\K .next ⟨oL σ.l i xs,Y⟩) :OkS (model prog w) A hb pr env ⟨ad T.names σ.l,σ.c⟩ (exec (.Assign [.Tuple f k tp] value pos) env) (KS T.names K):=by
 intro α s Q j F hq;have p:swappedStores [.Tuple f k tp] value env=pure Wq:=by cases value<;>first|rfl|contradiction
 refine wpAny_Assign_stores (h α s _ j F λ u I α2 g h2 t2 t x F2 L2 i2=>?_) (by cases value<;>first|rfl|exact absurd U (nofun:¬(true=false))) p;obtain⟨xs,rfl,J,x⟩:=s4 x;obtain⟨ws,ta,ep,rfl,hg,_,r⟩:=IsD.inv i2;obtain⟨n1,n2⟩:=n7 (env:=env) G;refine wpAny_assign_Tuple (x1:=k) (items:=ws.toArray) R.handled ⟨_,hg,rfl,_,rfl⟩ (by rw[n1,Xq,<-r.length,J]) n2 λ L he=>?_;obtain⟨F3,L3⟩:=F2.keeps (h':=L) λ b o e=>he b o (λ q=>by rw[q] at e;exact Nat.lt_irrefl _<|Heap.lt_size e) e;refine lM E G hl J (s:={s with heap:=L,toks:=t2}) t F3 (L3.isDs r) λ h5 t5 y z M L5=>?_;exact hq .next ⟨_,I⟩ α2 _ h5 t5 y ⟨⟨_,I⟩,z,rfl,x⟩ M (((L2.trans L3).leS F.toCst).trans L5 λ b hf=>(M.fr b hf).2) rfl
def j6 (X:Cx0 prog w hb K₀ T P dep){b:Str}{p:Pos}{l:Sl}{d:D}{K:aa->Prop}(h:Ev prog w A hb pr env (ad T.names l) c o λ u x=>bf P x u b (.d d) K){Q:Unit->Wj->Prop}(I:1<=s.toks)
  (F:Fst hb pr env (ad T.names l) c α s.heap) (i:IsD s.heap (aD c α) d g) (J:∀c' y h' z,1<=z->K c'->Fst hb pr env (ad T.names l) c' y h'->Le c α s.heap c' y h'->Q () {s with heap:=h',toks:=z}) :
  wpAny (model prog w) A (assign (.Attribute o b p) env g) Q no s:=by
 show wpAny _ A (do let e <-holding [g] (eval o env);standAt p.atName;holding [g,e] (setAttr e b g);release [g,e] []) _ _ _
 refine Zb<|Vx<|h α s _ I F λ u x L g2 G t2 f M R L2 U=>?_
 obtain⟨k,dk,fs,rfl,W,j,q,r,Y⟩:=dl M
 obtain⟨rfl,_⟩:=U
 refine Zb<|Vj<|Zb<|Vx<|aA (s:={s with heap:=G,toks:=t2}) f<|fF (s:={s with heap:=G,toks:=t2}) R X.kin W j X.cls (X.attr b q) r (v:=.d d) (L2.isD i) λ h3 t3 F3 L3 t=>?_
 exact wpAny_release<|J _ L h3 t3 t Y F3<|L2.trans L3
def CX (X:Cx0 prog w hb K₀ T P dep)(R:Room (dep+1) A){o1 o2:Wz}{f i:Str}{p r vp:Pos}{k':Nat}{a b:Wz}(L:bD [a,b]=true){σ:Sg'}(hl:σ.l.length=T.names.length){K:F->Sg'->Prop}
  (h:Ev prog w A hb pr env (ad T.names σ.l) σ.c a λ u c1=>Ev prog w A hb pr env (ad T.names σ.l) c1 b λ v G=>dd u v λ x y=>Ev prog w A hb pr env (ad T.names σ.l) G o1 λ u1 c3=>bf P c3 u1 f (.d x) λ J=>Ev prog w A hb pr env (ad T.names σ.l) J o2 λ u2 M=>bf P M u2 i (.d y) λ z=>K .next ⟨σ.l,z⟩) :
  OkS (model prog w) A hb pr env ⟨ad T.names σ.l,σ.c⟩ (exec (.Assign [.Tuple [.Attribute o1 f p,.Attribute o2 i r] k tp] (.Tuple [a,b] k' vp) pos) env) (KS T.names K):=by
 intro α s Q hs F hq
 have hE:Ev prog w A hb pr env (ad T.names σ.l) σ.c (.Tuple [a,b] k' vp) λ t G=>∃x y,t=.d (.tup [x,y])/\Ev prog w A hb pr env (ad T.names σ.l) G o1 λ u1 c3=>bf P c3 u1 f (.d x) λ J=>Ev prog w A hb pr env (ad T.names σ.l) J o2 λ u2 M=>bf P M u2 i (.d y) λ z=>K .next ⟨σ.l,z⟩:=by
  refine vS L ?_
  refine OkE.mono h λ u c1 h1=>OkE.mono h1 λ v G I=>?_
  obtain⟨x,y,rfl,rfl,I⟩:=qU I
  exact⟨(by show 2<=big;decide),x,y,rfl,I⟩
 have U:swappedStores [.Tuple [.Attribute o1 f p,.Attribute o2 i r] k tp] (.Tuple [a,b] k' vp) env=pure Wq:=by
  have W:(if (!(([Expr.Attribute o1 f p,.Attribute o2 i r].length==2)||([Expr.Attribute o1 f p,.Attribute o2 i r].length==3))||([a,b].length != [Expr.Attribute o1 f p,.Attribute o2 i r].length)||env.blockKind != .function)=true then (pure Wq:Sem<|Option<|List Str) else if ([a,b].any λ | .Starred ..=>true|_=>false)=true then pure Wq else pure Wq)=pure Wq:=by
   split
   ·rfl
   ·split<;>rfl
  exact W
 refine wpAny_Assign_stores (hE α s _ hs F λ u G α2 g I t2 Y k2 F2 L2 i2=>?_) rfl U
 obtain⟨dx,dy,rfl,k2⟩:=k2
 obtain⟨wx,wy,ta,ep,rfl,hg,ix,iy⟩:=IsD.two i2
 refine wpAny_assign_Tuple (x1:=k) (items:=#[wx,wy]) R.handled ⟨_,hg,rfl,_,rfl⟩ rfl rfl λ h3 he=>?_
 have j:∀b o,I.get? b=Kf o->h3.get? b=Kf o:=λ b o e=>he b o (λ q=>by rw[q] at e;exact Nat.lt_irrefl _<|Heap.lt_size e) e
 obtain⟨F3,L3⟩:=F2.keeps j
 show wpAny _ A (do holding [wy] (assign (.Attribute o1 f p) env wx);(do holding [] (assign (.Attribute o2 i r) env wy);pure ())) _ _ _
 refine Zb<|Vx<|j6 (s:={s with heap:=h3,toks:=t2}) X k2 Y F3 (L3.isD ix) λ J α4 h4 t4 ht4 k4 F4 L4=>?_
 refine Zb<|Vx<|j6 (s:={s with heap:=h4,toks:=t4}) X k4 ht4 F4 (L4.isD<|L3.isD iy) λ z α6 h6 t6 ht6 k6 F6 L6=>Zp ?_
 exact hq .next ⟨_,z⟩ α6 _ h6 t6 ht6 ⟨⟨_,z⟩,hl,rfl,k6⟩ F6 ((((L2.trans L3).trans L4).trans L6).leS F.toCst) rfl
def zQ {K:aa->Prop}(h:z6 c u v K):∃k xs,u=.obj k/\v=.d (.int<|-1)/\ae c k=Kf (.list xs)/\xs≠[]/\xs.length<=big/\K (cset c k<|.list xs.dropLast):=by obtain⟨k,e,h⟩:=eP h;obtain⟨i,b,rfl,h⟩:=b8 h;obtain⟨xs,f,h⟩:=dh h;exact⟨k,xs,e,b,f,h⟩
def Ih {i:Wz}{p:Pos}{σ:Sg'}(hl:σ.l.length=T.names.length){K:F->Sg'->Prop}(h:Ev prog w A hb pr env (ad T.names σ.l) σ.c o λ u U=>Ev prog w A hb pr env (ad T.names σ.l) U i λ v y=>z6 y u v λ c3=>K .next ⟨σ.l,c3⟩) :OkS (model prog w) A hb pr env ⟨ad T.names σ.l,σ.c⟩ (exec (.Delete [.Subscript o i p] pos) env) (KS T.names K):=by
 intro α s Q hs F hq;refine wpAny_Delete<|wpAny_deleteEach_cons ?_;rw[arm_delete_Subscript];refine Zb<|h α s _ hs F λ u U α1 g h1 t1 G k1 F1 L1 i1=>?_;refine Zb<|Vx<|k1 α1 _ _ G F1 λ v y z g2 I t2 J k2 W L2 i2=>?_;obtain⟨t,r,rfl,rfl,hx,M,x,hK⟩:=zQ k2
 ··obtain⟨rfl,R⟩:=L2.isV i1
   obtain⟨_,rfl⟩:=IsD.inv i2;obtain⟨b,Y,gk,rk⟩:=W.toCst.cell t _ hx;have f:b.length=r.length:=rk.length.symm;have j:0<b.length:=by rw[f];exact List.length_pos_iff.mpr M
   refine Zb<|Vj<|Zb<|Vx<|PySem.P.delItem_list (s:={s with heap:=I,toks:=t2}) (items:=b.toArray) (k:=b.length-1) gk {4} ?_ ?_ ?_;rw[Xq];show (if (decide (0<=(if (-1:Int)<0 then -1+(b.length:Int) else -1))&&decide ((if (-1:Int)<0 then -1+(b.length:Int) else -1)<(b.length:Int)))=true then Kf (if (-1:Int)<0 then -1+(b.length:Int) else -1).toNat else Wq)=_;rw[Wy (show (-1:Int)<0 by decide),decide_eq_true<|U28 j,decide_eq_true<|U27,Bool.and_self,Wy rfl];congr 1;exact U26
   ·refine wpAny_release (wpAny_deleteEach_nil ?_)
    have g8:(I.update (z t)<|Obj.mapSeq λ r=>r.eraseIdxIfInBounds<|b.length-1).get? (z t)=Kf (bp "list" b.dropLast<|Y+1):=by
     rw[Heap.get?_update_self _ gk<|by rfl];have e:b.toArray.eraseIdxIfInBounds (b.length-1)=b.dropLast.toArray:=by unfold Array.eraseIdxIfInBounds;rw[dif_pos (by rw[Xq];exact U25 j),List.eraseIdx_toArray,List.eraseIdx_length_sub_one]
     simp[Obj.mapSeq,e];exact U24 j
    obtain⟨F8,L8⟩:=W.set R (o:=.list r.dropLast) (Heap.SameBut.update I (z t) (Obj.mapSeq λ r=>r.eraseIdxIfInBounds (b.length-1))) (λ L=>⟨b.dropLast,Y+1,g8,by have q:=(L.isDs rk).take<|b.length-1;rw[<-List.dropLast_eq_take,f,<-List.dropLast_eq_take,<-f] at q;exact q⟩);exact hq .next ⟨ad T.names σ.l,cset y t<|.list r.dropLast⟩ z _ _ t2 J ⟨⟨σ.l,cset y t<|.list r.dropLast⟩,hl,rfl,hK⟩ F8 (((L1.trans L2).trans L8).leS F.toCst) rfl
   rw[Xq,f];exact aQ x
end
section
variable {w:Wv}{P:Pm}
def SS (prog:Program)(w:Wv)(hb:Wu)(P:Pm)(T:Tb)(env:Env)(A:Around)(pr:List Nat)(st:Stmt)(ist:IS):Prop:=
 ∀(n:Nat) (σ:Sg') (K:F->Sg'->Prop),σ.l.length=T.names.length->oK P pr n ist σ K->OkS (model prog w) A hb pr env ⟨ad T.names σ.l,σ.c⟩ (exec st env) (KS T.names K)
def SS.of {T:Tb}{env:Env}{A:Around}{st:Stmt}{ist:IS}(h:∀(n:Nat) (σ:Sg') (K:F->Sg'->Prop),σ.l.length=T.names.length->oK P pr (n+1) ist σ K->OkS (model prog w) A hb pr env ⟨ad T.names σ.l,σ.c⟩ (exec st env) (KS T.names K)):SS prog w hb P T env A pr st ist:=λ n σ K hl b=>by cases n with|zero=>exact False.elim b|succ n=>exact h n σ K hl b
def gx {α:Type}{e:Wz}{a:Option α}{r:α}(h:(if bR e then Wq else a)=Kf r):bR e=false/\a=Kf r:=by cases q:bR e with|true=>rw[q] at h;contradiction|false=>rw[q] at h;exact⟨rfl,h⟩
section
variable {T:Tb}{env:Env}{A:Around}(X:Cx0 prog w hb K₀ T P dep)(E:CxE env T)(R:Room (dep+1) A)
include X E R
def ko {a:Wz}{b:IE}(e:aH m T a=Kf b):SE prog w hb P T env A pr a b:=snd (prog:=prog) (w:=w) (hb:=hb) (P:=P) (K₀:=K₀) (dep:=dep) m T env A pr X E R a b e
theorem Gg {q:Wz×Wz}{r:Wz×Wz}{k':Nat}{p M:Pos}{ist:IS}(h:(match cn q.1 with
   |some q1=>cn q.2>>=λ q2=>if oj T q1.1 q1.2 q2.1 q2.2 r.1 r.2 then (do return IS.unp2 (<-bU T q1.1) (<-bU T q2.1) (<-aH m T r.1) (<-aH m T r.2)) else Wq
   |none=>eJ q.1>>=λ q1=>eJ q.2>>=λ q2=>if bD [r.1,r.2] then (do return IS.unpA (<-aH m T q1.1) q1.2.1 (<-aH m T q2.1) q2.2.1 (<-aH m T r.1) (<-aH m T r.2)) else Wq)=Kf ist) :
  SS prog w hb P T env A pr (.Assign [.Tuple [q.1,q.2] k p] (.Tuple [r.1,r.2] k' M) pos) ist:=by
 cases o:cn q.1 with
 |some q1=>
  rw[o] at h
  obtain⟨q2,l,h⟩:=bm h
  rw[bL o,bL l]
  obtain⟨t,h⟩:=qh h
  obtain⟨i,j,e,f,U,W,Y,h4,rfl⟩:=BN h
  refine .of λ n σ K hl z=>?_
  exact Dt E R U W t hl<|OkE.mono ((ko X E R Y).1 _ _ _ _ z) λ u c1 G=>(ko X E R h4).1 _ _ _ _ G
 |none=>
  rw[o] at h
  obtain⟨q1,I,h⟩:=bm h
  obtain⟨q2,l,h⟩:=bm h
  rw[eC I,eC l]
  obtain⟨J,h⟩:=qh h
  obtain⟨x,y,a,b,e1,e2,e3,e4,rfl⟩:=BN (f:=λ x y a b=>IS.unpA x q1.2.1 y q2.2.1 a b) h
  refine .of λ n σ K hl z=>?_
  refine CX X R J hl<|OkE.mono ((ko X E R e3).1 _ _ _ _ z) λ u c1 G=>OkE.mono ((ko X E R e4).1 _ _ _ _ G) λ v c2 L=>?_
  obtain⟨dx,dy,rfl,rfl,L⟩:=qU L
  refine OkE.mono ((ko X E R e1).1 _ _ _ _ L) λ u1 c3 k3=>?_
  obtain⟨kk,dk,fs,rfl,g1,g2,g3,g4,g5⟩:=dl k3
  exact nM g1 g2 g3 g4<|(ko X E R e2).1 _ _ _ _ g5
def zq {t:Wz}{ist:IS}(h:HO (aH m T) T t value=Kf ist):SS prog w hb P T env A pr (.Assign [t] value pos) ist:=by
 obtain⟨l,i,b⟩:=bm h
 obtain⟨k,p,rfl⟩:=qG i
 cases f:xC value with
 |none=>
  rw[f] at b
  obtain⟨o,b⟩:=gx (a:=do return IS.unpT (<-gY T l) (<-aH m T value)) b
  obtain⟨G,e,u,j,rfl⟩:=cP b
  exact .of λ n σ K hl x=>Fh E R u o f hl<|(ko X E R j).1 _ _ _ _ x
 |some vs=>
  rw[f] at b
  obtain⟨q,y,b⟩:=bm b
  obtain⟨r,z,j⟩:=bm b
  obtain⟨I,J,rfl⟩:=qG f
  rw[qA y,qA z]
  exact Gg X E R j
def zU {t:Wz}{ist:IS}(h:FD (aH m T) T t value=Kf ist):SS prog w hb P T env A pr (.Assign [t] value pos) ist:=by
 unfold FD at h
 cases b:cn t with
 |some q=>
  rw[b] at h
  rw[bL b]
  obtain⟨j,h⟩:=gx (a:=do return IS.asg (<-bU T q.1) (<-aH m T value)) h
  obtain⟨i,e,k,l,rfl⟩:=cP h
  refine .of λ n σ K hl o=>?_
  exact Iy E k hl j<|(ko X E R l).1 _ _ _ _ o
 |none=>
  rw[b] at h
  cases p:eJ t with
  |some q=>
   rw[p] at h
   rw[eC p]
   obtain⟨j,h⟩:=gx h
   obtain⟨i,e,k,l,rfl⟩:=cP (f:=λ a d=>IS.asgA a _ d) h
   refine .of λ n σ K hl o=>?_
   exact Gd X E hl j<|OkE.mono ((ko X E R l).1 _ _ _ _ o) λ u x r=>(ko X E R k).1 _ _ _ _ r
  |none=>
   rw[p] at h
   exact zq X E R h
def yY {k t2:Wz}{ist:IS}(h:asg2 (aH m T) T k t2 value=Kf ist):SS prog w hb P T env A pr (.Assign [k,t2] value pos) ist:=by
 obtain⟨q2,l,h⟩:=bm h;rw[bL l];obtain⟨y,h⟩:=gx h
 cases o:cn k with
 |some q=>rw[o] at h;rw[bL o];obtain⟨i,j,e,p,r,t,rfl⟩:=gu h;refine .of λ n σ K hl x=>?_;exact CY E p r hl y<|(ko X E R t).1 _ _ _ _ x
 |none=>rw[o] at h;obtain⟨q,z,h⟩:=bm h;rw[eC z];obtain⟨i,j,e,p,r,t,rfl⟩:=gu (f:=λ a b d=>IS.asgA2 a _ b d) h;refine .of λ n σ K hl x=>?_;exact zO X E r hl y<|OkE.mono ((ko X E R t).1 _ _ _ _ x) λ u I G=>(ko X E R p).1 _ _ _ _ G
def DU {b:List Wz}{ist:IS}(h:Hi (aH m T) T b value=Kf ist):SS prog w hb P T env A pr (.Assign b value pos) ist:=by cases b with|nil=>contradiction|cons t r=>cases r with|nil=>exact zU X E R h|cons t2 r=>cases r with|nil=>exact yY X E R h|cons _ _=>contradiction
def D4 {e:List Wz}{ist:IS}(h:Ei (aH m T) e=Kf ist):SS prog w hb P T env A pr (.Delete e pos) ist:=by unfold Ei at h;obtain⟨t,j,k⟩:=bm h;obtain⟨q,l,o⟩:=bm k;obtain⟨a,i,r,x,rfl⟩:=cP (f:=λ a b=>IS.del_ a b) o;obtain⟨p,rfl⟩:=Aa l;rw[yK j];refine .of λ n σ K hl y=>?_;exact Ih hl<|OkE.mono ((ko X E R r).1 _ _ _ _ y) λ u G z=>(ko X E R x).1 _ _ _ _ z
def E1 {e:Option Wz}{ist:IS}(h:Hv (aH m T) e=Kf ist):SS prog w hb P T env A pr (.Return e pos) ist:=by
 cases e with
 |none=>injection h with h;subst h;refine .of λ n σ K hl b=>?_;exact λ α s Q f F i=>wpAny_Return_none<|i (.ret<|.d .none) _ α _ s.heap s.toks f ⟨σ,hl,rfl,b⟩ F (.refl ..) ⟨.none,rfl,.none⟩
 |some e=>obtain⟨e,j,rfl⟩:=fq h;refine .of λ n σ K hl b=>?_;exact Hg hl<|(ko X E R j).1 _ _ _ _ b
def um {t:Wz}{msg:Option Wz}{ist:IS}(h:(if msg.isNone then (do return IS.assert (<-aH m T t)) else Wq)=Kf ist):SS prog w hb P T env A pr (.Assert t msg pos) ist:=by
 obtain⟨b,h⟩:=qh h
 rw[Option.isNone_iff_eq_none.mp b]
 obtain⟨e,f,rfl⟩:=fq h
 refine .of λ n σ K hl i=>?_
 exact wv hl<|(ko X E R f).2 _ _ _ _ i
def zI {e:Wz}{ist:IS}(h:(if bR e then Wq else (do return IS.expr (<-aH m T e)))=Kf ist):SS prog w hb P T env A pr (.Expr e pos) ist:=by
 obtain⟨b,h⟩:=gx h
 obtain⟨e,f,rfl⟩:=fq h
 refine .of λ n σ K hl i=>?_
 exact C0 E hl b<|(ko X E R f).1 _ _ _ _ i
def GJ (ihB:ut prog w hb P K₀ dep m){t:Wz}{a b:List Stmt}{ist:IS}(h:(do return IS.if_ (<-aH m T t) (<-aV m T a) (<-aV m T b))=Kf ist):SS prog w hb P T env A pr (.If t a b pos) ist:=by
 obtain⟨t,a,b,i,j,k,rfl⟩:=gu h
 refine .of λ n σ K hl o=>?_
 refine Jq<|OkE.mono ((ko X E R i).2 _ _ _ _ o) λ r e f=>⟨λ q=>?_,λ q=>?_⟩
 ·exact ihB T env A pr X E R _ _ j n ⟨σ.l,e⟩ K hl<|f.1 q
 ·exact ihB T env A pr X E R _ _ k n ⟨σ.l,e⟩ K hl<|f.2 q
def yp (ihB:ut prog w hb P K₀ dep m){t:Wz}{a b:List Stmt}{ist:IS}(h:(do return IS.while_ (<-aH m T t) (<-aV m T a) (<-aV m T b))=Kf ist):SS prog w hb P T env A pr (.While t a b pos) ist:=by
 obtain⟨t,a,b,G,J,L,rfl⟩:=gu h
 refine .of λ n σ K hl M=>?_
 obtain⟨I,k,U,turn⟩:=M
 refine uT (λ k τ=>∃σ:Sg',σ.l.length=T.names.length/\τ=⟨ad T.names σ.l,σ.c⟩/\I k σ) k ⟨σ,hl,rfl,U⟩ ?_
 intro k _ e_;obtain⟨τ,hlτ,rfl,hIτ⟩:=e_
 refine OkE.mono ((ko X E R G).2 _ _ _ _<|turn k τ hIτ) λ r x y=>⟨λ q=>?_,λ q=>?_⟩
 ·refine OkS.mono (ihB T env A pr X E R _ _ J n ⟨τ.l,x⟩ _ hlτ<|y.1 q) λ f υ o=>?_
  obtain⟨z,e,rfl,o⟩:=o
  cases f with
  |next=>obtain⟨p,u,i,W,j⟩:=o;exact⟨p,_,i,W.weak E.nd,u,by rw[W.len];exact e,rfl,j⟩
  |cont=>obtain⟨p,u,i,W,j⟩:=o;exact⟨p,_,i,W.weak E.nd,u,by rw[W.len];exact e,rfl,j⟩
  |brk=>exact⟨z,e,rfl,o⟩
  |ret v=>exact⟨z,e,rfl,o⟩
 ·exact ihB T env A pr X E R _ _ L n ⟨τ.l,x⟩ K hlτ<|y.2 q
def Es (ihB:ut prog w hb P K₀ dep m){t it:Wz}{a b:List Stmt}{ist:IS}(h:Ig (aH m T) (aV m T) T t it a b=Kf ist):SS prog w hb P T env A pr (.For t it a b pos) ist:=by
 obtain⟨q,M,h⟩:=bm h;rw[bL M];obtain⟨U,h⟩:=qh h;obtain⟨k,o⟩:=Bool.and_eq_true_iff.mp U;rw[List.isEmpty_iff.mp k];obtain⟨i,it,a,Y,h2,h3,rfl⟩:=gu h;refine .of λ n σ K hl hw=>?_;obtain⟨x,p⟩:=fV E Y;refine uV E.eo R.handled x (mE o)<|OkE.mono ((ko X E R h2).1 _ _ _ _ hw) λ v c1 k1=>?_;obtain⟨z,xs,G,I,r_⟩:=k1;obtain⟨hI,turn,fin⟩:=r_;refine⟨z,xs,G,λ j τ=>∃σ:Sg',σ.l.length=T.names.length/\τ=⟨ad T.names σ.l,σ.c⟩/\I j σ,⟨⟨σ.l,c1⟩,hl,rfl,hI⟩,?_,?_⟩;·intro j d _ hd e_;obtain⟨τ,hlτ,rfl,hIτ⟩:=e_;obtain⟨hlt,k⟩:=turn j d τ hd hIτ;refine OkS.look (λ y=>i9 E.nd hlτ p (.d d) y) ?_;refine OkS.mono (ihB T env A pr X E R _ _ h3 n ⟨τ.l.set i<|some<|.d d,τ.c⟩ _ (by rw[List.length_set];exact hlτ) k) λ f υ u=>?_;obtain⟨L,e,rfl,u⟩:=u;cases f with|next=>obtain⟨J,W,r⟩:=u;exact⟨_,W.weak E.nd,J,by rw[W.len];exact e,rfl,r⟩|cont=>obtain⟨J,W,r⟩:=u;exact⟨_,W.weak E.nd,J,by rw[W.len];exact e,rfl,r⟩|brk=>exact⟨L,e,rfl,u⟩|ret v=>exact⟨L,e,rfl,u⟩
 intro _ e_;obtain⟨τ,hlτ,rfl,hIτ⟩:=e_;exact⟨τ,hlτ,rfl,fin τ hIτ⟩
end
def uG (ihS:xT prog w hb P K₀ dep m)(ihB:ut prog w hb P K₀ dep m):xT prog w hb P K₀ dep (m+1):=by
 intro T env A k X E R st ist h
 cases st with
 |Assign ts value p=>exact DU X E R h|If t a b p=>exact GJ X E R ihB h|While t a b p=>exact yp X E R ihB h|For t it a b p=>exact Es X E R ihB h|Return e p=>exact E1 X E R h|Delete ts p=>exact D4 X E R h|Assert t msg p=>exact um X E R h|Expr e p=>exact zI X E R h|Continue p=>injection h with h;subst h;refine SS.of λ n σ K hl f=>?_;exact λ α s Q i F j=>wpAny_Continue<|j .cont _ α _ s.heap s.toks i ⟨σ,hl,rfl,f⟩ F (.refl ..) rfl
 |Break p=>injection h with h;subst h;refine SS.of λ n σ K hl f=>?_;exact λ α s Q i F j=>wpAny_Break<|j .brk _ α _ s.heap s.toks i ⟨σ,hl,rfl,f⟩ F (.refl ..) rfl
 |_=>contradiction
def yc (m:Nat):xT prog w hb P K₀ dep m/\PreB prog w hb P K₀ dep m:=by induction m with|zero=>exact⟨λ T env A f X E R e i h=>(nomatch h),λ T env A f X E R r Q j e i h=>(nomatch h)⟩|succ m b=>exact⟨uG b.1 b.2.snd,s7 b.1 b.2⟩
def qV (m:Nat):xT prog w hb P K₀ dep m/\ut prog w hb P K₀ dep m:=⟨(yc m).1,(yc m).2.snd⟩
end
noncomputable def gA:F->V
 | .ret v=>v|_=>.d .none
noncomputable def start (vs:List V)(n:Nat):Sl:=vs.map Kf++List.replicate n Wq
theorem hW:∀(ns:List Str) (n:Nat),ad ns (List.replicate n Wq)=[]
 | [],n=>by cases n<;>rfl|_::ns,0=>rfl|_::ns,n+1=>hW ns n
def dw (ps rest:List Str):∀(vs:List V),vs.length=ps.length->ad (ps++rest) (start vs rest.length)=ps.zip vs:=by induction ps with|nil=>exact kK (P:=λ vs=>ad ([]++rest) (start vs rest.length)=List.zip [] vs)<|hW rest rest.length|cons p ps ih=>exact e7 (P:=λ vs=>ad (p::ps++rest) (start vs rest.length)=List.zip (p::ps) vs) λ v vs h=>congrArg ((p,v)::·)<|ih vs h
def FnOk.more {w:Wv}{d b:Nat}(h:FnOk prog w hb d a spec)(e:d<=b):FnOk prog w hb b a spec:=
 λ A r=>h A<|r.less e
structure FnK (hb:Wu)(a:Ww)(T:Tb)(ps rest:List Str)(fd:FuncData)(body:List Stmt):Prop where
 N:FnAt hb a fd body ps
 kinds:T.kinds=fd.scope.names
 names:T.names=ps++rest
 nd:T.names.Nodup
 cel:∀p∈fd.scope.names,p.2=.cell->∀n,((cellsFrom n fd.scope.names []).lookup p.1).isSome=true
 gl:fd.globals=mainGlobals
 bl:fd.builtins=builtinsNs
structure FnT (hb:Wu)(a:Ww)(T:Tb)(ib:List IS)(ps rest:List Str)(fd:FuncData)(body:List Stmt)(m:Nat):Prop extends FnK hb a T ps rest fd body where
 comp:aV m T body=Kf ib
def FnK.cxE {T:Tb}{b:FuncData}{rest:List Str}{L:Ww}(N:FnK hb a T ps rest b body)(f:EnvOk<|callEnvC b L a):CxE (callEnvC b L a) T:=by
 have k:∀{x:Str} {v:NameKind},T.kinds.lookup x=Kf v->b.scope.names.lookup x=Kf v:=λ e=>by rw[N.kinds] at e;exact e
 exact⟨f,N.gl,N.bl,λ x e=>k e,λ x e=>k e,λ x e=>⟨k e,Option.isSome_iff_exists.mp<|N.cel _ (mem_of_lookup<|k e) rfl _⟩,N.nd⟩
def pR {w:Wv}{P:Pm}{T:Tb}{j:FuncData}{J:List IS}{rest:List Str}(N:FnT hb a T J ps rest j body m)(X:Cx0 prog w hb K₀ T P dep)(h:∀(vs:List V) (c:aa) (K:V->aa->Prop),spec vs c K->vs.length=ps.length/\∃n,aJ P (dom c) n J ⟨start vs rest.length,c⟩ (λ f τ=>∃v' c',vW τ.c c' (gA f) v'/\cK τ.c c' c'/\(∀k∈dom c,k∈dom c')/\K v' c')) :∀(A:Around),Room (dep+1) A->∀(L:Ww) (vs:List V) (c:aa) (K:V->aa->Prop),spec vs c K->EnvOk (callEnvC j L a)->vs.length=ps.length/\OkS (model prog w) A hb (dom c) (callEnvC j L a) ⟨ps.zip vs,c⟩ (execs body<|callEnvC j L a) (λ f τ=>(∀k∈dom c,k∈dom τ.c)/\K (match f with | .ret v=>v|_=>.d .none) τ.c):=by
 intro A r L vs c K sp EO;obtain⟨hl,n,hw⟩:=h vs c K sp;refine⟨hl,?_⟩;have E:CxE (callEnvC j L a) T:=N.cxE EO;have:=(qV (prog:=prog) (w:=w) (hb:=hb) (P:=P) (K₀:=K₀) (dep:=dep) m).2 T _ A (dom c) X E r body J N.comp n ⟨start vs rest.length,c⟩ _ (by rw[N.names];simp[start,hl]) hw;intro α s Q hs Fr p;rw[N.names,dw _ _ _ hl] at this;refine this α s Q hs Fr λ f τ t g u x y k M L' i=>?_;obtain⟨σ,hlσ,rfl,v',r_⟩:=k;obtain⟨c',z,R,U,hK⟩:=r_;have W:Weak (dom c) ⟨ad (ps++rest) σ.l,σ.c⟩ ⟨[],c'⟩:=⟨trivial,R,U⟩;have G:=W.fst M;have L2:=W.leS L';have o:∀k∈dom c',k∈dom σ.c:=λ k hk=>dN R k hk;have b:∀I:F,gA I=v'->(∀k∈dom c,k∈dom (⟨[],c'⟩:Sg).c)/\K (match I with | .ret v=>v|_=>.d .none) c':=λ I e=>⟨U,by cases I<;>(dsimp only[gA] at e;rw[e];exact hK)⟩
 cases f with
 |next=>
  have:v'=.d .none:=by rcases z with ⟨q,_⟩|⟨k,Y,q,_⟩;exact q;contradiction
  exact p .next ⟨[],c'⟩ t g u x y (b .next this.symm) G L2 i
 |brk=>
  have:v'=.d .none:=by rcases z with ⟨q,_⟩|⟨k,Y,q,_⟩;exact q;contradiction
  exact p .brk ⟨[],c'⟩ t g u x y (b .brk this.symm) G L2 i
 |cont=>
  have:v'=.d .none:=by rcases z with ⟨q,_⟩|⟨k,Y,q,_⟩;exact q;contradiction
  exact p .cont ⟨[],c'⟩ t g u x y (b .cont this.symm) G L2 i
 |ret v=>obtain⟨g',rfl,ig⟩:=i;exact p (.ret v') ⟨[],c'⟩ t _ u x y (b (.ret v') rfl) G L2 ⟨g',rfl,n8 M.toCst o z ig⟩
def cF {w:Wv}{P:Pm}{T:Tb}{e:FuncData}{b:List IS}{rest:List Str}(N:FnT hb a T b ps rest e body m)(X:Cx0 prog w hb K₀ T P dep)(h:∀(vs:List V) (c:aa) (K:V->aa->Prop),spec vs c K->vs.length=ps.length/\∃n,aJ P (dom c) n b ⟨start vs rest.length,c⟩ (λ f τ=>∃v' c',vW τ.c c' (gA f) v'/\cK τ.c c' c'/\(∀k∈dom c,k∈dom c')/\K v' c')) :FnOk prog w hb (dep+2) a spec:=GL N.N<|pR N X h
noncomputable def gT (K:Frag)(a:Ww):Option FuncData:=match K.lookup a with|some o=>(match o.data with | .func fd=>Kf fd|_=>Wq)|none=>Wq
def aq (K:Frag)(a:Ww):List Stmt:=match gT K a with|some fd=>(match fd.body with | .stmts b=>b|_=>[])|none=>[]
def eT (K:Frag)(a:Ww):List (Str×NameKind):=match gT K a with|some fd=>fd.scope.names|none=>[]
def yr (K:Frag)(a:Ww):List Str:=match gT K a with|some fd=>fd.params.args.map (·.arg)|none=>[]
def bb (K:Frag)(a:Ww):List Str:=((eT K a).filter λ p=>(p.2==.local||p.2==.cell)&&!(yr K a).contains p.1).map (·.1)
noncomputable def nsOf (K:Frag)(a:Ww):Array DictEntry:=match K.lookup a with|some o=>(match o.data with | .dict es _=>es|_=>#[])|none=>#[]
def JF (K:Frag)(a:Ww)(G:List<|Str×V)(cells:List Pos)(mak:Str->Pos->Option (Ww×Nat×Nat))(meth:List<|Str×Ww):Tb where
 names:=yr K a++bb K a
 kinds:=eT K a
 G:=λ x=>G.lookup x
 cell:=λ p=>if cells.any (λ q=>q.line==p.line&&q.col==p.col&&q.endCol==p.endCol) then Kf (1000*p.line+p.col) else Wq
 mak:=mak
 meth:=λ x=>meth.lookup x
variable {l:Sl}{P:Pm}{e:IE}{G:F->Sg'->Prop}{σ:Sg'}{es:List IE}{ib:List IS}
section
open PySem.StrLaws PySem.Builtin.Str
def eA {c:Nat}(h:(sg x)[i]?=Kf c):Txt.item x (i:Int)=⟨#[c]⟩:=by
 have f:i<x.cps.size:=by obtain⟨b,_⟩:=Qw.mp h;simpa [sg] using b
 unfold Txt.item Txt.charAt;have e:seqIndex? (i:Int) x.length=Kf i:=by
  unfold seqIndex?;have b:¬((i:Int)<0):=U17;simp only[b,if_false];have j:(decide (0<=(i:Int))&&decide ((i:Int)<(x.length:Nat)))=true:=by simp[Str.length];exact {f}
  rw[Wy j];simp
 rw[e];have:x.cps[i]?=Kf c:=by rw[<-h];simp[sg]
 simp[this]
def uC {c:Nat}(h:(sg x).getLast?=Kf c):Txt.item x (-1)=⟨#[c]⟩:=by
 have b:(sg x)≠[]:=λ e=>by rw[e] at h;contradiction
 have hl:0<x.cps.size:=by have:=List.length_pos_iff.mpr b;simpa [sg] using this
 unfold Txt.item Txt.charAt;have e:seqIndex? (-1) x.length=Kf (x.length-1):=by
  unfold seqIndex?;simp only[show ((-1:Int)<0) from by decide,if_true];have f:(decide (0<=(-1:Int)+(x.length:Nat))&&decide ((-1:Int)+(x.length:Nat)<(x.length:Nat)))=true:=by have:(x.length:Nat)=x.cps.size:=rfl;rw[this];simp only[Xv,decide_eq_true_eq];exact U38 hl
  rw[Wy f];have:(x.length:Nat)=x.cps.size:=rfl;congr 1;rw[this];exact U26
 rw[e];have:x.cps[x.length-1]?=Kf c:=by rw[Qp] at h;simpa [sg,Str.length] using h
 simp[this]
def gR (x:Str){a b:Nat}(h:a<=b)(j:a<=(sg x).length):Txt.slice x (Kf (a:Int)) (Kf (b:Int))=⟨(((sg x).drop a).take<|b-a).toArray⟩:=by
 have f:(sg x).length=x.length:=by simp[sg,Str.length]
 by_cases i:b<=x.length;exact sliceText_nat x h i;have e:strSliceIndices (Kf (a:Int)) (Kf (b:Int)) 1 x.length=strSliceIndices (Kf (a:Int)) (Kf ((x.length:Nat):Int)) 1 x.length:=by unfold strSliceIndices;have k:¬((b:Int)<0):=U17;have l:¬(((x.length:Nat):Int)<0):=U17;dsimp only[k,l,if_false,show (1:Int) > 0 from by decide,if_true];congr 1;exact U37 i
 have o:Txt.slice x (Kf (a:Int)) (Kf (b:Int))=Txt.slice x (Kf (a:Int)) (Kf ((x.length:Nat):Int)):=by unfold Txt.slice;rw[e]
 rw[o];refine (sliceText_nat x (by rw[<-f];exact j)<|Zv _).trans ?_;congr 2;show ((sg x).drop a).take (x.length-a)=((sg x).drop a).take (b-a);rw[List.take_of_length_le (by rw[Xp];exact U36),List.take_of_length_le<|by rw[Xp];exact U35 i]
def me (s sub:Str)(hi:Nat)(l:List Nat):∀(free:Nat),(∀i∈l,free<=i)->(forIn l ((#[]:Array Nat),free)<|occBody s sub hi 1).run.fst=(match l.find? (λ i=>decide (i+sub.length<=hi)&&subAt s sub i) with|some a=>#[a]|none=>#[]):=by
 induction l with|nil=>intro free _;exact rfl|cons a l rH=>
  intro free k;rw[List.forIn_cons];unfold occBody;have o:free<=a:=k a<|.head _;by_cases j:a+sub.length<=hi/\subAt s sub a=true;rw[Wy ⟨⟨⟨by simp,o⟩,j.1⟩,j.2⟩];have e:((a::l).find? λ i=>decide (i+sub.length<=hi)&&subAt s sub i)=Kf a:=by simp[List.find?_cons,j.1,j.2]
  rw[e];show (forIn l (#[a],a+sub.length)<|occBody s sub hi 1).run.fst=#[a];generalize a+sub.length=f;clear rH k e j o;induction l generalizing f with|nil=>rfl|cons b l ih=>rw[List.forIn_cons];unfold occBody;rw[Wg (λ h=>by have:=h.1.1.1;simp at this)];exact ih f
  rw[Wg<|λ h=>j ⟨h.1.2,h.2⟩];have e:((a::l).find? λ i=>decide (i+sub.length<=hi)&&subAt s sub i)=l.find? (λ i=>decide (i+sub.length<=hi)&&subAt s sub i):=by
   rw[List.find?_cons];have:(decide (a+sub.length<=hi)&&subAt s sub a)=false:=by cases h:(decide (a+sub.length<=hi)&&subAt s sub a) with|false=>rfl|true=>simp only[Xv,decide_eq_true_eq] at h;exact absurd h j
   rw[this]
  rw[e];exact rH free<|λ i h=>k i<|.tail _ h
def rm (h:∃j:Nat,i<=j/\(sg x)[j]?=Kf 10):∃j:Nat,Txt.find3 x ⟨#[10]⟩ (i:Int)=(j:Int)/\i<=j/\(sg x)[j]?=Kf 10/\∀m:Nat,i<=m->m<j->(sg x)[m]?≠Kf 10:=by
 unfold Txt.find3;have w:fromIndex x.length (i:Int)=i:=by unfold fromIndex;rw[Wg<|U17];exact U34
 rw[w,occ_eq,me x ⟨#[10]⟩ x.length _ i (λ m e=>by have:=List.mem_range'_1.mp e;exact {this.1})]
 cases o:(List.range' i<|x.length+1-i).find? (λ i=>decide (i+(⟨#[10]⟩:Str).length<=x.length)&&subAt x ⟨#[10]⟩ i) with
 |none=>
  obtain⟨j,y,p⟩:=h;have:=List.find?_eq_none.mp o j (by
   obtain⟨r,_⟩:=Qw.mp p;have:j<x.length:=by simpa [sg,Str.length] using r
   exact List.mem_range'_1.mpr (U32 y this))
  have f:=(subAt_one x 10 j).mpr p;simp only[Xv,decide_eq_true_eq] at this;exact absurd f this
 |some j=>
  obtain⟨I,J,hl,l⟩:=(List.find?_eq_some_iff_append.mp o).2;have u:=(List.find?_eq_some_iff_append.mp o).1;simp only[Xv,decide_eq_true_eq] at u;have k:j∈List.range' i (x.length+1-i):=List.mem_of_find?_eq_some o;refine⟨j,rfl,(List.mem_range'_1.mp k).1,(subAt_one x 10 j).mp u,λ m z t p=>?_⟩;have e:m∈List.range' i (x.length+1-i):=List.mem_range'_1.mpr (by have:=List.mem_range'_1.mp k;exact U31 z t this);rw[hl] at e;have b:(List.range' i<|x.length+1-i).Pairwise (·<·):=List.pairwise_lt_range';rw[hl] at b;rcases Qu.mp e with e|e
  have:=l m e;have f:=(subAt_one x 10 m).mpr p;simp only[Bool.not_eq_true',Bool.and_eq_false_iff,decide_eq_false_iff_not] at this;rcases this with q|q
  exact q f.1;rw[f.2] at q;contradiction;have G:=(List.pairwise_append.mp b).2.1;rcases Qy.mp e with rfl|e
  exact Om.ff {t};have:=(List.pairwise_cons.mp G).1 m e;exact Om.ff {t,this}
end
noncomputable def yB:List IS:=[.asg 9 (.item (.v 1)<|.v 7),.asg 7 (.bin .Add (.v 7)<|.c<|.int 1),.if_ (.cmp .Eq (.v 9) (.c (.str ⟨#[120]⟩))) [.cont] [],.if_ (.cmp .Eq (.slice (.v 1) (.bin .Sub (.v 7) (.c (.int 1))) (.bin .Add (.v 7) (.v 12))) (.v 10)) [.asg 7 (.bin .Add (.v 7)<|.v 12),.brk] [],.if_ (.cmp .Eq (.v 9) (.c (.str ⟨#[10]⟩))) [.asg 4 (.bin .Add (.v 4)<|.c<|.int 1),.if_ (.cmp .Eq (.v 12) (.c (.int 0))) [.if_ (.cmp .Eq (.v 3) (.c (.int 0))) [.expr (.call (.v 6) [(.v 4)] Wq)] [],.brk] [],.cont] [],.if_ (.cmp .Eq (.v 9) (.c (.str ⟨#[92]⟩))) [.assert (.cmp .Lt (.v 7)<|.v 8),.if_ (.cmp .Eq (.item (.v 1) (.v 7)) (.c (.str ⟨#[10]⟩))) [.asg 4 (.bin .Add (.v 4) (.c (.int 1)))] [],.asg 7 (.bin .Add (.v 7)<|.c<|.int 1),.cont] []]
noncomputable def BL:List IS:=[.if_ (.cmp .Eq (.bin .Sub (.v 4) (.c (.int 1))) (.v 11)) [.asg 2 (.g (.d (.int 2)))] [.asg 2 (.g (.d (.int 3)))]]
def JC:IS:=.while_ (.cmp .Lt (.v 7)<|.v 8) yB BL
def vV:List IS:=[.asg 9 (.item (.v 1)<|.v 7),.asg 7 (.bin .Add (.v 7)<|.c<|.int 1),.if_ (.cmp .Eq (.v 9) (.c (.str ⟨#[120]⟩))) [.cont] [],.if_ (.cmp .Eq (.v 9) (.c (.str ⟨#[10]⟩))) [.asg 4 (.bin .Add (.v 4)<|.c<|.int 1),.if_ (.cmp .Eq (.v 3) (.c (.int 0))) [.expr (.call (.v 6) [(.v 4)] Wq)] [],.cont] [],.if_ (.cmp .Eq (.v 9) (.c (.str ⟨#[40]⟩))) [.asg 3 (.bin .Add (.v 3)<|.c<|.int 1),.cont] [],.if_ (.cmp .Eq (.v 9) (.c (.str ⟨#[41]⟩))) [.if_ (.v 3) [.asg 3 (.bin .Sub (.v 3) (.c (.int 1)))] [],.cont] [],.if_ (.or (.cmp .Eq (.v 9) (.c (.str ⟨#[34]⟩))) (.cmp .Eq (.v 9) (.c (.str ⟨#[39]⟩)))) [.asg 10 (.v 9),.if_ (.cmp .Eq (.slice (.v 1) (.bin .Sub (.v 7) (.c (.int 1))) (.bin .Add (.v 7) (.c (.int 2)))) (.bin .Mult (.v 10) (.c (.int 3)))) [.asg 10 (.bin .Mult (.v 10) (.c (.int 3)))] [],.asg 11 (.v 4),.asg 12 (.bin .Sub (.call (.g<|.bi .len) [(.v 10)] Wq)<|.c<|.int 1),.asg 7 (.bin .Add (.v 7)<|.v 12),JC,.cont] [],.if_ (.cmp .Eq (.v 9) (.c (.str ⟨#[35]⟩))) [.asg 7 (.meth (.v 1) .find [(.c<|.str ⟨#[10]⟩),(.v 7)]),.assert (.cmp .GtE (.v 7)<|.c<|.int 0),.cont] [],.assert (.cmp .Eq (.v 9)<|.c<|.str ⟨#[92]⟩),.assert (.cmp .Lt (.v 7)<|.v 8),.if_ (.cmp .Eq (.item (.v 1) (.v 7)) (.c (.str ⟨#[10]⟩))) [.asg 4 (.bin .Add (.v 4)<|.c<|.int 1),.if_ (.cmp .Eq (.bin .Add (.v 7) (.c (.int 1))) (.v 8)) [.asg 2 (.g (.d (.int 1)))] []] [],.asg 7 (.bin .Add (.v 7) (.c (.int 1)))]
def GW:IS:=.while_ (.cmp .Lt (.v 7)<|.v 8) vV []
def eW (td g b:Nat):List IS:=[.if_ (.cmp .GtE (.attr (.v 0) (Qq "study_level")) (.c (.int 1))) [.ret Wq] [],.asgA (.v 0) (Qq "study_level") (.c<|.int 1),.asg 1 (.attr (.v 0)<|Qq "code"),.asg 1 (.trans (.v 1) td),.asg 1 (.repl (.v 1) ⟨#[120,120,120,120,120,120,120,120]⟩ ⟨#[120]⟩),.asg 1 (.repl (.v 1) ⟨#[120,120,120,120]⟩ ⟨#[120]⟩),.asg 1 (.repl (.v 1) ⟨#[120,120]⟩ ⟨#[120]⟩),.asg 1 (.repl (.v 1) ⟨#[120,120]⟩ ⟨#[120]⟩),.asg 1 (.repl (.v 1) ⟨#[10,120]⟩ ⟨#[10]⟩),.asg 2 (.g<|.d<|.int 0),.asg2 3 4 (.c<|.int 0),.asgA2 (.v 0) (Qq "goodlines") 5 (.lst [(.c<|.int 0)]<|some g),.asg 6 (.bnd (.v 5) b),.unp2 7 8 (.c<|.int 0) (.call (.g<|.bi .len) [(.v 1)] Wq),GW,.if_ (.and (.cmp .NotEq (.v 2) (.g (.d (.int 2)))) (.and (.cmp .NotEq (.v 2) (.g (.d (.int 3)))) (.cmp .Gt (.v 3) (.c (.int 0))))) [.asg 2 (.g (.d (.int 4)))] [],.asgA (.v 0) (Qq "continuation") (.v 2),.assert (.cmp .Eq (.cmp .Eq (.v 2)<|.g<|.d<|.int 0)<|.cmp .Eq (.item (.v 5)<|.c<|.int<|-1)<|.v 4),.if_ (.cmp .NotEq (.item (.v 5) (.c (.int (-1)))) (.v 4)) [.expr (.call (.v 6) [(.v 4)] Wq)] []]
structure Cel (Wc:List Nat->aa)(k g b:Nat)(pr:List Nat):Prop where
 b_:∀gd,ae (Wc gd) b=Kf (.bound "list.append" g)
 g_:∀gd,ae (Wc gd) g=Kf (.list (gd.map λ m:Nat=>D.int m))
 set:∀gd m,cset (Wc gd) g (.list<|(gd.map λ m:Nat=>D.int m)++[.int (m:Nat)])=Wc (gd++[m])
 wf:∀gd,cK (Wc gd) (Wc gd) (Wc gd)
 pr:∀gd,∀j∈pr,j∈dom (Wc gd)
 k_:∀gd,k∈dom (Wc gd)
noncomputable def slots (k g b:Nat)(x:Str)(ct:Int)(lv ln i n:Nat)(r:List<|Option V):Sl:=
 Kf (.obj k)::Kf (.d<|.str x)::Kf (.d<|.int ct)::Kf (.d<|.int lv)::Kf (.d<|.int ln)::Kf (.obj g)::Kf (.obj b)::Kf (.d<|.int i)::Kf (.d<|.int n)::r
def xS (a b:Nat):((⟨#[a]⟩:Str)==⟨#[b]⟩)=decide (a=b):=by by_cases h:a=b;subst h;simp;simp only[h,decide_false];exact beq_eq_false_iff_ne.mpr λ e=>h<|by injection e with e;injection e with e;injection e
section
variable {g b:Nat}
def InS (x:Str)(d:Bool)(w f i:Nat)(s:St):Prop:=
 s=scan st0 ((sg x).take i)/\i<=(sg x).length/\
 ((w=0/\(s.md=.S1 d f\/(s.md=.Q1 d f/\¬((sg x)[i]?=Kf (qc d)/\(sg x)[i+1]?=Kf (qc d)))))\/
 (w=2/\(s.md=.S3 d 0 f\/(s.md=.S3 d 1 f/\¬((sg x)[i]?=Kf (qc d)/\(sg x)[i+1]?=Kf (qc d)))\/(s.md=.S3 d 2 f/\(sg x)[i]?≠Kf (qc d)))))
def rR (x:Str)(i:Nat)(s:St):Prop:=
 s=scan st0 ((sg x).take i)/\i<=(sg x).length/\(∀c,(sg x)[i]?=Kf c->step s c=fw s c)/\(i=(sg x).length->s.md=.N\/s.md=.Nb)
noncomputable def dD (d:Bool)(w:Nat):Str:=if w=0 then ⟨#[qc d]⟩ else ⟨#[qc d,qc d,qc d]⟩
def vn (x:Str):Prop:=∀c∈sg x,c=10\/c=34\/c=35\/c=39\/c=40\/c=41\/c=92\/c=120
def bo {c:Nat}(h:(sg x)[i]?=Kf c):scan st0 ((sg x).take<|i+1)=step (scan st0<|(sg x).take i) c:=by
 have e:(sg x).take (i+1)=(sg x).take i++[c]:=by rw[List.take_add_one,h];rfl
 rw[e,aE];rfl
end
section
def aL {l:List Nat}{c:Nat}(h:l[i]?=Kf c):i+1<=l.length:=(Qw.mp h).1
def same (s s':St):Prop:=s'.lv=s.lv/\s'.ln=s.ln/\s'.gd=s.gd
variable {d:Bool}{w f c:Nat}{s:St}
def eL (d:Bool):¬10=qc d:=by cases d<;>decide
def cj {α:Sort _}{p:Prop}{i:Decidable p}{a b:α}{P:α->Prop}(e:p->P a)(j:¬p->P b):P (@ite α p i a b):=by by_cases h:p;rw[Wy h];exact e h;rw[Wg h];exact j h
def gw {P:St->Prop}{s:St}{c:Nat}(j:c=10->P (nl s))(b:∀md lv,¬c=10->P ⟨md,lv,s.ln,s.gd⟩)(hl:c=10->∀md,P ⟨md,s.lv,s.ln+1,s.gd⟩):P (step s c):=by
 have q:∀d md lv,c=qc d->P ⟨md,lv,s.ln,s.gd⟩:=λ d md lv e=>b md lv λ p=>eL d<|p.symm.trans e;have l:P (fw s c):=cj j λ h=>cj (λ _=>b _ _ h) λ _=>cj (λ _=>b _ _ h) λ _=>cj (λ _=>b _ _ h) λ _=>cj (λ _=>b _ _ h) λ _=>cj (λ _=>b _ _ h) λ _=>cj (λ _=>b _ _ h) λ _=>b _ _ h;have o:∀d f,P (hM s d f c):=λ d f=>cj (q d _ _) λ _=>cj j λ h=>cj (λ _=>b _ _ h) λ _=>b _ _ h;unfold step;generalize s.md=md
 cases md with
 |N=>exact l|Nb=>exact l|E=>exact cj (λ h=>hl h _)<|b _ _|C=>exact cj j<|b _ _|Q1 d f=>exact cj (q d _ _) λ _=>o d f
 |Q2 d f=>exact cj (q d _ _) λ _=>l
 |S1 d f=>exact o d f|S1e d f=>exact cj (λ h=>hl h _)<|b _ _|S3 d k f=>exact cj (λ h=>cj (λ _=>q d _ _ h) λ _=>q d _ _ h) λ _=>cj (λ h=>hl h _) λ h=>cj (λ _=>b _ _ h) λ _=>b _ _ h
 |S3e d f=>exact cj (λ h=>hl h _)<|b _ _
def vU (s:St):step s 10=nl s\/∃md,step s 10=⟨md,s.lv,s.ln+1,s.gd⟩/\(md=.Nb\/(∃d k f,md=.S3 d k f)\/∃d f,md=.S1 d f):=by unfold step;generalize s.md=md;cases md with|N=>exact .inl rfl|Nb=>exact .inl rfl|E=>exact .inr ⟨_,rfl,.inl rfl⟩|C=>exact .inl rfl|Q1 d f=>exact .inl<|(Wg<|eL d).trans<|if_neg<|eL d|Q2 d f=>exact .inl<|if_neg<|eL d|S1 d f=>exact .inl<|if_neg<|eL d|S1e d f=>exact .inr ⟨_,rfl,.inr<|.inr ⟨d,f,rfl⟩⟩|S3 d k f=>exact .inr ⟨_,Wg<|eL d,.inr<|.inl ⟨d,0,f,rfl⟩⟩|S3e d f=>exact .inr ⟨_,rfl,.inr<|.inl ⟨d,0,f,rfl⟩⟩
def InS.mds (h:InS x d w f i s):(w=0/\(s.md=.S1 d f\/s.md=.Q1 d f))\/(w=2/\∃k,s.md=.S3 d k f):=by
 rcases h.2.2 with ⟨b,h|h⟩|⟨b,h|h|h⟩
 exact .inl ⟨b,.inl h⟩;exact .inl ⟨b,.inr h.1⟩;exact .inr ⟨b,_,h⟩;exact .inr ⟨b,_,h.1⟩;exact .inr ⟨b,_,h.1⟩
def InS.md2 (h:InS x d 2 f i s):s.md=.S3 d 0 f\/(s.md=.S3 d 1 f/\¬((sg x)[i]?=Kf (qc d)/\(sg x)[i+1]?=Kf (qc d)))\/(s.md=.S3 d 2 f/\(sg x)[i]?≠Kf (qc d)):=by
 rcases h.2.2 with ⟨b,_⟩|⟨_,h⟩
 contradiction;exact h
def InS.sc (h:InS x d w f i s)(b:(sg x)[i]?=Kf c):scan st0 ((sg x).take<|i+1)=step s c:=by rw[h.1];exact bo b
def JB (m:s.md=.S1 d f\/s.md=.Q1 d f)(b:¬c=qc d):step s c=hM s d f c:=by
 unfold step;rcases m with m|m<;>rw[m]
 exact Wg b
def Kb (m:s.md=.S3 d k f)(b:¬c=qc d):step s c=if c=10 then {s with md:=.S3 d 0 f,ln:=s.ln+1} else if c=92 then {s with md:=.S3e d f} else {s with md:=.S3 d 0 f}:=by unfold step;rw[m];exact Wg b
def IW (m:s.md=.S3 d k f)(b:¬k=2):step s (qc d)={s with md:=.S3 d (k+1) f}:=by unfold step;rw[m];exact (Wy rfl).trans<|if_neg b
def I8 (m:s.md=.S3 d 2 f):step s (qc d)={s with md:=.N}:=by unfold step;rw[m];exact (Wy rfl).trans<|if_pos rfl
def wL (b:¬n=34)(e:¬n=39):¬n=qc d:=by cases d;exact e;exact b
def kD (h:InS x d w f i s)(b:(sg x)[i]?=Kf c)(e:c≠qc d)(l:c≠10)(o:c≠92):∃s',InS x d w f (i+1) s'/\same s s':=by
 rcases h.mds with ⟨j,m⟩|⟨j,k,m⟩
 exact⟨_,⟨((h.sc b).trans<|(JB m e).trans<|(Wg e).trans<|(Wg l).trans<|if_neg o).symm,aL b,.inl ⟨j,.inl rfl⟩⟩,rfl,rfl,rfl⟩;exact⟨_,⟨((h.sc b).trans<|(Kb m e).trans<|(Wg l).trans<|if_neg o).symm,aL b,.inr ⟨j,.inl rfl⟩⟩,rfl,rfl,rfl⟩
def sN (h:InS x d 2 f i s)(b:(sg x)[i]?=Kf (qc d))(j:¬((sg x)[i+1]?=Kf (qc d)/\(sg x)[i+2]?=Kf (qc d))):∃s',InS x d 2 f (i+1) s'/\same s s':=by
 rcases h.md2 with m|⟨m,q⟩|⟨m,q⟩
 exact⟨_,⟨((h.sc b).trans<|IW m<|{4}).symm,aL b,.inr ⟨rfl,.inr<|.inl ⟨rfl,j⟩⟩⟩,rfl,rfl,rfl⟩;exact⟨_,⟨((h.sc b).trans<|IW m<|{4}).symm,aL b,.inr ⟨rfl,.inr<|.inr ⟨rfl,λ e=>q ⟨b,e⟩⟩⟩⟩,rfl,rfl,rfl⟩;exact absurd b q
def oZ (h:InS x d 2 f i s)(b:(sg x)[i]?=Kf (qc d))(e:(sg x)[i+1]?=Kf (qc d))(j:(sg x)[i+2]?=Kf (qc d)):∃s',rR x (i+3) s'/\s'.md≠.Nb/\same s s':=by
 rcases h.md2 with m|⟨m,q⟩|⟨m,q⟩
 refine⟨{s with md:=.N},⟨?_,aL j,λ c _=>rfl,λ _=>.inl rfl⟩,nofun,rfl,rfl,rfl⟩;rw[bo j,bo e,h.sc b,IW m {4},IW (s:={s with md:=.S3 d 1 f}) (k:=1) (f:=f) rfl<|{4}];exact (I8 (s:={s with md:=.S3 d 2 f}) (f:=f) rfl).symm;exact absurd ⟨b,e⟩ q;exact absurd b q
def oT (hl:∀i c,(sg x)[i]?=Kf c->i+1=(sg x).length->c=10)(h:InS x d 0 f i s)(b:(sg x)[i]?=Kf (qc d)):∃s',rR x (i+1) s'/\s'.md≠.Nb/\same s s':=by
 have l:¬qc d=10:=λ e=>wL (d:=d) {4} {4} e.symm;have k:i+1≠(sg x).length:=λ q=>l<|hl i _ b q;rcases h.2.2 with ⟨_,m|⟨m,q⟩⟩|⟨o,_⟩
 exact⟨{s with md:=.N},⟨((h.sc b).trans<|by unfold step;rw[m];exact Wy rfl).symm,aL b,λ c _=>rfl,λ e=>absurd e k⟩,nofun,rfl,rfl,rfl⟩;exact⟨{s with md:=.Q2 d f},⟨((h.sc b).trans<|by unfold step;rw[m];exact Wy rfl).symm,aL b,λ c j=>Wg (λ e:c=qc d=>q ⟨b,e▸j⟩),λ e=>absurd e k⟩,nofun,rfl,rfl,rfl⟩;contradiction
def AR (h:InS x d 0 f i s)(b:(sg x)[i]?=Kf 10):∃s',rR x (i+1) s'/\s'=nl s:=by
 have e:=eL d;rcases h.mds with ⟨_,m⟩|⟨j,_⟩
 exact⟨_,⟨((h.sc b).trans<|(JB m e).trans<|(Wg e).trans<|if_pos rfl).symm,aL b,λ c b=>rfl,λ _=>.inl rfl⟩,rfl⟩;contradiction
def Ay (h:InS x d 2 f i s)(b:(sg x)[i]?=Kf 10):∃s',InS x d 2 f (i+1) s'/\s'.lv=s.lv/\s'.ln=s.ln+1/\s'.gd=s.gd:=by
 have e:=eL d;rcases h.mds with ⟨j,_⟩|⟨_,k,m⟩
 contradiction;exact⟨_,⟨((h.sc b).trans<|(Kb m e).trans<|if_pos rfl).symm,aL b,.inr ⟨rfl,.inl rfl⟩⟩,rfl,rfl,rfl⟩
def BX {s:St}{e:Nat}{m:Md}:(if e=10 then {s with md:=m,ln:=s.ln+1} else {s with md:=m})=({s with md:=m,ln:=if e=10 then s.ln+1 else s.ln}:St):=by by_cases q:e=10;rw[Wy q,Wy q];rw[Wg q,Wg q]
def Af (h:InS x d w f i s)(o:(sg x)[i]?=Kf 92){e:Nat}(b:(sg x)[i+1]?=Kf e):∃s',InS x d w f (i+2) s'/\s'.lv=s.lv/\s'.ln=(if e=10 then s.ln+1 else s.ln)/\s'.gd=s.gd:=by
 have j:¬92=qc d:=wL {4}<|{4}
 have sc:scan st0 ((sg x).take<|i+2)=step (step s 92) e:=by rw[bo b,h.sc o]
 rcases h.mds with ⟨l,m⟩|⟨l,k,m⟩
 exact⟨{s with md:=.S1 d f,ln:=if e=10 then s.ln+1 else s.ln},⟨(sc.trans<|by rw[JB m j,show hM s d f 92={s with md:=.S1e d f} from Wg j];exact BX).symm,aL b,.inl ⟨l,.inl rfl⟩⟩,rfl,rfl,rfl⟩;exact⟨{s with md:=.S3 d 0 f,ln:=if e=10 then s.ln+1 else s.ln},⟨(sc.trans<|by rw[Kb m j,Wg {4},Wy rfl];exact BX).symm,aL b,.inr ⟨l,.inl rfl⟩⟩,rfl,rfl,rfl⟩
noncomputable def ci:Md->Option Nat
 | .Q1 _ f | .S1 _ f | .S1e _ f | .S3 _ _ f | .S3e _ f=>Kf f|_=>Wq
def on (h:InS x d w f i s):ci s.md=Kf f:=by rcases h.mds with ⟨_,m|m⟩|⟨_,k,m⟩<;>rw[m]<;>rfl
end
section
open PySem.StrLaws PySem.Builtin.Str
def am (x:Str):(sg x).length=x.length:=by simp[sg,Str.length]
section
def cJ (h:av l i=Kf v)(b:V->aa->Prop)(e:b v c):aU P (n+1) (.v i) l c b:=by show aC (av l i) _;rw[h];exact e
def dq {st:IS}{r:List IS}{K:F->Sg'->Prop}(h:oK P pr n st σ<|λ f τ=>match f with | .next=>aJ P pr n r τ K|f=>K f τ):aJ P pr (n+1) (st::r) σ K:=by exact h
end
noncomputable abbrev nV (k:Nat):V:=.d<|.int (k:Nat)
noncomputable abbrev sV (x:Str):V:=.d<|.str x
noncomputable abbrev ch (c:Nat):Str:=⟨#[c]⟩
section
def Ex (P:Pm)(n:Nat)(l:Sl)(c:aa)(e:IE)(v:V):Prop:=∀K':V->aa->Prop,K' v c->aU P n e l c K'
def Tx (P:Pm)(n:Nat)(l:Sl)(c:aa)(e:IE)(q:Bool):Prop:=∀K':Bool->aa->Prop,K' q c->fN P n e l c K'
def pD (P:Pm)(n:Nat)(l:Sl)(c:aa)(es:List IE)(vs:List V):Prop:=∀K':List V->aa->Prop,K' vs c->ka P n es l c K'
def xv (h:av l i=Kf v):Ex P (n+1) l c (.v i) v:=cJ h
def xc {d:D}:Ex P (n+1) l c (.c d) (.d d):=λ _ h=>h
def xg :Ex P (n+1) l c (.g u) u:=λ _ h=>h
def x0:pD P (n+1) l c [] []:=λ _ h=>h
def x1 {b:List IE}(h:Ex P n l c e v)(f:pD P n l c b vs):pD P (n+1) l c (e::b) (v::vs):=λ _ k=>h _<|f _ k
section
variable {a b:IE}
def iB {op:Operator}{d:D}(e:Ex P n l c a u)(hb:Ex P n l c b v)(h:∀K:D->Prop,K d->s9 c op u v K):Ex P (n+1) l c (.bin op a b) (.d d):=λ f k=>e _<|hb _<|h _ k
def bh (e:Ex P n l c a<|nV i)(hb:Ex P n l c b<|nV j):Ex P (n+1) l c (.bin .Add a b) (nV<|i+j):=iB e hb λ _ k=>k
def uJ (f:Ex P n l c a<|nV i)(hb:Ex P n l c b<|nV j)(e:(i:Int)-j=(k:Nat)):Ex P (n+1) l c (.bin .Sub a b) (nV k):=iB f hb λ K h=>by show K (.int<|(i:Int)-j);rw[e];exact h
def kN {f:IE}{e:Option Nat}(o:Ex P n l c f u)(h:pD P n l c es vs)(k:∀K:V->aa->Prop,K v c->d8 P c e u vs K):Ex P (n+1) l c (.call f es e) v:=λ p q=>o _<|h _<|k _ q
def jQ (e:Ex P (n+1) l c a<|sV x)(f:x.length<=big):Ex P (n+3) l c (.call (.g<|.bi .len) [a] Wq) (nV x.length):=kN xg (x1 e x0) λ _ k=>⟨f,k⟩
def jS {o:IE}{m:Mn}(e:Ex P n l c o u)(f:cH c u m)(h:pD P n l c es vs)(k:∀K:V->aa->Prop,K v c->i8 c u m vs K):Ex P (n+1) l c (.meth o m es) v:=λ p q=>e _ ⟨f,h _<|k _ q⟩
def lq {d:D}(e:Ex P n l c a u)(hb:Ex P n l c b v)(h:∀K:D->Prop,K d->f8 c u v K):Ex P (n+1) l c (.item a b) (.d d):=λ f k=>e _<|hb _<|h _ k
def nX (f:Ex P n l c a<|sV x)(hb:Ex P n l c b<|nV i)(e:(sg x)[i]?=Kf z)(h:x.length<=big):Ex P (n+1) l c (.item a b) (sV<|ch z):=lq f hb λ K k=>by have o:=(Qw.mp e).1;have hl:=am x;show -(x.length:Int)<=(i:Nat)/\((i:Nat):Int)<x.length/\x.length<=big/\K (.str<|Txt.item x (i:Nat));rw[eA e];exact⟨by exact U526,by exact U525 o,h,k⟩
def gP {lo hi:IE}{w:V}{d:D}(e:Ex P n l c a u)(hb:Ex P n l c lo v)(f:Ex P n l c hi w)(h:∀K:D->Prop,K d->mo c u v w K):Ex P (n+1) l c (.slice a lo hi) (.d d):=λ o k=>e _<|hb _<|f _<|h _ k
def pj {lo hi:IE}(h:Ex P n l c a<|sV x)(hb:Ex P n l c lo<|nV i)(o:Ex P n l c hi<|nV j)(p:x.length<=big)(e:i<=j)(f:i<=x.length):Ex P (n+1) l c (.slice a lo hi) (sV ⟨(((sg x).drop i).take<|j-i).toArray⟩):=
 gP h hb o λ K k=>⟨p,by rw[gR x e (by have:=am x;exact U524 f)];exact k⟩
def cM {q:Bool}(e:Ex P n l c a u)(hb:Ex P n l c b v)(h:∀K:Bool->Prop,K q->gH c op u v K):Tx P (n+1) l c (.cmp op a b) q:=λ f k=>e _<|hb _<|h _ k
def dX {w:Nat}(e:Ex P n l c a<|sV<|ch z)(hb:Ex P n l c b<|sV<|ch w):Tx P (n+1) l c (.cmp .Eq a b) (z==w):=cM e hb λ K k=>by show K (ch z==ch w);rw[xS,show decide (z=w)=(z==w) from Bool.eq_iff_iff.mpr (by simp)];exact k
def A6 (e:Ex P n l c a<|nV i)(hb:Ex P n l c b<|nV j):Tx P (n+1) l c (.cmp .Lt a b) (decide<|i<j):=cM e hb λ K k=>by show K (decide<|(i:Int)<j);rw[show decide ((i:Int)<j)=decide (i<j) from decide_eq_decide.mpr Int.ofNat_lt];exact k
def Bm {q:Bool}(h:Tx P n l c a q):Tx P (n+1) l c (.not a) (!q):=λ e k=>h _ k
def JM {p q:Bool}(f:Tx P n l c a p)(hb:p=false->Tx P n l c b q):Tx P (n+1) l c (.or a b) (p||q):=λ h k=>f _ ⟨λ e=>by rw[e] at k;exact k,λ e=>hb e _<|by rw[e] at k;exact k⟩
end
variable {K:F->Sg'->Prop}{r a b:List IS}{t:IE}
def Nx (P:Pm)(pr:List Nat)(n:Nat)(r:List IS)(K:F->Sg'->Prop)(f:F)(τ:Sg'):Prop:=match f with| .next=>aJ P pr n r τ K|f=>K f τ
def aS (h:aJ P pr n r σ K):aJ P pr (q+1) [] σ (Nx P pr n r K):=h
def aF (h:Ex P n l c e v)(k:aJ P pr (n+1) r ⟨l.set i<|some v,c⟩ K):aJ P pr (n+2) (.asg i e::r) ⟨l,c⟩ K:=h _ k
def jB (h:Ex P n l c e v)(k:K (.ret v) ⟨l,c⟩):aJ P pr (n+2) (.ret (Kf e)::r) ⟨l,c⟩ K:=h _ k
def cQ {q:Bool}(h:Tx P n l c t q)(e:q=true->aJ P pr n a ⟨l,c⟩ (Nx P pr (n+1) r K))(f:q=false->aJ P pr n b ⟨l,c⟩ (Nx P pr (n+1) r K)):aJ P pr (n+2) (.if_ t a b::r) ⟨l,c⟩ K:=h _ ⟨e,f⟩
def b7 (f:∀e:Bool->aa->Prop,e true c'->fN P n t l c e)(h:aJ P pr (n+1) r ⟨l,c'⟩ K):aJ P pr (n+2) (.assert t::r) ⟨l,c⟩ K:=by exact f _ ⟨rfl,h⟩
def iT (h:Tx P n l c t true)(k:aJ P pr (n+1) r ⟨l,c⟩ K):aJ P pr (n+2) (.assert t::r) ⟨l,c⟩ K:=h _ ⟨rfl,k⟩
def WG {α:Type}(st:α->Sg')(mu:α->Nat)(I:α->Prop)(pr:List Nat)(K:F->Sg'->Prop)(m:α)(g:F)(υ:Sg'):Prop:=match g with| .next | .cont=>∃k' υ',k'<mu m/\Wk pr υ υ'/\∃z,k'=mu z/\υ'=st z/\I z| .brk=>K .next υ| .ret v=>K (.ret v) υ
def Cy {α:Type}{st:α->Sg'}{e:α->Nat}{I:α->Prop}{m:α}{g:F}{υ:Sg'}(f:g=.next\/g=.cont)(z:α)(i:e z<e m)(j:Wk pr υ<|st z)(k:I z):WG st e I pr K m g υ:=by rcases f with h|h<;>rw[h]<;>exact⟨_,_,i,j,z,rfl,rfl,k⟩
def rA {α:Type}(st:α->Sg')(e:α->Nat)(I:α->Prop)(m:α)(f:I m)(h:∀m,I m->∃q,Tx P n (st m).l (st m).c t q/\(q=true->aJ P pr n a (st m) (WG st e I pr K m))/\(q=false->aJ P pr n b (st m) K)):oK P pr (n+1) (.while_ t a b) (st m) K:=by refine⟨λ j τ=>∃m,j=e m/\τ=st m/\I m,e m,⟨m,rfl,rfl,f⟩,λ j τ q=>?_⟩;obtain⟨m,i,k,o⟩:=q;subst i;subst k;obtain⟨q,p,u,w⟩:=h m o;exact p _ ⟨u,w⟩
end
end
section
variable {g b:Nat}
def wo (h:av l i=Kf v)(e:Jb c v):∃u,av l i=Kf u/\vW c c u v:=⟨v,h,.inl ⟨rfl,e⟩⟩
def H7 (C:Cel Wc k g b pr){e:Int}{lv:Nat}{ch:Option V}{q f w:D} :Wk pr ⟨slots k g b x e lv ln i n [ch,Kf<|.d q,Kf<|.d f,Kf<|.d w],Wc gd⟩ ⟨slots k g b x e lv ln i n [Wq,Kf<|.d q,Kf<|.d f,Kf<|.d w],Wc gd⟩:=
 ⟨And.intro (wo rfl<|C.k_ gd)<|And.intro (wo rfl trivial)<|And.intro (wo rfl trivial)<|And.intro (wo rfl trivial)<|And.intro (wo rfl trivial)<|And.intro (wo rfl<|aj<|C.g_ gd)<|And.intro (wo rfl<|aj<|C.b_ gd)<|And.intro (wo rfl trivial)<|And.intro (wo rfl trivial)<|And.intro (wo rfl trivial)<|And.intro (wo rfl trivial)<|And.intro (wo rfl trivial) trivial,rfl,C.wf gd,C.pr gd⟩
def xW (s:St)(l:List Nat):(scan s l).gd.length<=s.gd.length+l.length:=by induction l generalizing s with|nil=>exact Zv _|cons c l ih=>have e:=ih<|step s c;have f:(step s c).gd.length<=s.gd.length+1:=gw (P:=λ t=>t.gd.length<=s.gd.length+1) (λ _=>cj (P:=λ l:List Nat=>l.length<=s.gd.length+1) (λ _=>by rw[Qj];exact Zv _) λ _=>Nat.le_succ _) (λ _ _ _=>Nat.le_succ _)<|λ _ _=>Nat.le_succ _;simp only[Qz];exact U65 e f
def uU (e:(sg x).length+5<=big):(scan st0<|(sg x).take i).gd.length<=big:=by
 have:=xW st0<|(sg x).take i;have f:((sg x).take i).length<=(sg x).length:=by rw[List.length_take];exact Nat.min_le_right _ _
 have h:st0.gd.length=1:=rfl;exact U64 e this f h
def take3 {l:List Nat}:l.take 3=[q,q,q]↔l[0]?=Kf q/\l[1]?=Kf q/\l[2]?=Kf q:=by
 refine⟨λ h=>?_,λ h=>?_⟩;have t:∀j,j<3->l[j]?=[q,q,q][j]?:=λ j e=>by rw[<-h,List.getElem?_take_of_lt e]
 exact⟨t 0 {4},t 1 {4},t 2<|{4}⟩;rw[List.take_add_one,List.take_add_one,List.take_add_one,h.1,h.2.1,h.2.2];rfl
def win3 :((⟨(((sg x).drop i).take 3).toArray⟩:Str)==⟨#[q,q,q]⟩)=true↔(sg x)[i]?=Kf q/\(sg x)[i+1]?=Kf q/\(sg x)[i+2]?=Kf q:=by
 have e:∀j,(sg x)[i+j]?=((sg x).drop i)[j]?:=λ j=>by rw[Zx]
 rw[show (sg x)[i]?=((sg x).drop i)[0]? from e 0,e 1,e 2,beq_iff_eq,<-take3];exact⟨λ h=>congrArg (λ s:Str=>s.cps.toList) h,λ h=>by rw[h]⟩
def IY {l:List Nat}{l':List Nat}:((⟨l.toArray⟩:Str)==⟨l'.toArray⟩)=true↔l=l':=by rw[beq_iff_eq];exact⟨λ h=>congrArg (λ s:Str=>s.cps.toList) h,λ h=>by rw[h]⟩
def EB {d:Bool}{w c:Nat}(j:w=0\/w=2)(f:(sg x)[i]?=Kf c):((⟨(((sg x).drop i).take<|i+1+w-i).toArray⟩:Str)==dD d w)=true↔c=qc d/\(w=2->(sg x)[i+1]?=Kf (qc d)/\(sg x)[i+2]?=Kf (qc d)):=by
 rw[show i+1+w-i=w+1 from U55];rcases j with e|e
 subst e;have e:((sg x).drop i)[0]?=Kf c:=by rw[Zx];exact f
 generalize (sg x).drop i=l at e
 cases l with|nil=>contradiction|cons a l=>
  injection e with e;subst e
  exact (IY (l:=[a]) (l':=[qc d])).trans ⟨λ h=>⟨List.head_eq_of_cons_eq h,nofun⟩,λ h=>by rw[h.1]⟩
 subst e;exact win3.trans ⟨λ h=>⟨Option.some.inj<|f.symm.trans h.1,λ _=>h.2⟩,λ h=>⟨f.trans<|congrArg Kf h.1,h.2 rfl⟩⟩
def Fl (x:Str)(i':Nat)(s':St)(ct':Int):Prop:=rR x i' s'/\s'.md≠.Nb/\ct'=0\/i'=(sg x).length/\s'=scan st0 (sg x)/\∃f,ci s'.md=Kf f/\ct'=if s'.ln=f+1 then 2 else 3
def J5 (k g b:Nat)(Wc:List Nat->aa)(x:Str)(i:Nat)(r:List<|Option V)(K:F->Sg'->Prop):Prop:=
 ∀i' s' (ct':Int) ch,i<=i'->Fl x i' s' ct'->
  K .next ⟨slots k g b x ct' s'.lv s'.ln i' (sg x).length<|ch::r,Wc s'.gd⟩
def ny (C:Cel Wc k g b pr){K:F->Sg'->Prop}(f:av l 6=Kf (.obj b))(i:av l 4=Kf (.d<|.int (m:Int)))(e:gd.length<=big)(h:K .next ⟨l,Wc<|gd++[m]⟩) :aJ P pr (n+5) [.expr<|.call (.v 6) [(.v 4)] Wq] ⟨l,Wc gd⟩ K:=by
 show aC (av l 6) _;simp only[f];show aC (av l 4) _;simp only[i];show iE (ae (Wc gd) b) _;simp only[C.b_ gd];refine⟨rfl,?_⟩;rw[C.g_ gd];refine⟨by rw[Zu];exact e,?_⟩;show K .next ⟨l,cset (Wc gd) g<|.list<|_++[.int (m:Int)]⟩
 rw[C.set gd m];exact h
def ri (C:Cel Wc k g b pr){K:F->Sg'->Prop}(f:av l 6=Kf (.obj b))(i:av l 4=Kf (.d<|.int<|(m:Int)+1))(e:gd.length<=big)(h:K .next ⟨l,Wc<|gd++[m+1]⟩) :aJ P pr (n+5) [.expr<|.call (.v 6) [(.v 4)] Wq] ⟨l,Wc gd⟩ K:=by exact ny C (m:=m+1) f i e h
def BZ {a b c:Nat}(h:a<=b)(e:b<c):a<=c:={h,e}
def GN (i w:Nat):i<=i+1+w:={1}
def I6 (i w:Nat):i<i+1+w:={1}
def I2 {a b:Nat}(h:(a:Int)-1=b):a=b+1:=Nat.le_antisymm (Om.lz {0,(Int.le_of_eq h)})<|Om.lz {0,(Int.le_of_eq h.symm)}
def vZ {d:Bool}{w f c:Nat}{s:St}(hl:∀i c,(sg x)[i]?=Kf c->i+1=(sg x).length->c=10)(l:w=0\/w=2)(h:InS x d w f i s)(j:(sg x)[i]?=Kf c)(q:c=qc d/\(w=2->(sg x)[i+1]?=Kf (qc d)/\(sg x)[i+2]?=Kf (qc d))):∃s',rR x (i+1+w) s'/\s'.md≠.Nb/\same s s':=by
 rw[q.1] at j;rcases l with e|e
 subst e;exact oT hl h j;subst e;exact oZ h j (q.2 rfl).1 (q.2 rfl).2
def A7 {d:Bool}{w f c:Nat}{s:St}(r:w=0\/w=2)(h:InS x d w f i s)(p:(sg x)[i]?=Kf c)(j:c≠10)(l:c≠92)(q:¬(c=qc d/\(w=2->(sg x)[i+1]?=Kf (qc d)/\(sg x)[i+2]?=Kf (qc d)))):∃s',InS x d w f (i+1) s'/\same s s':=by
 by_cases e:c=qc d;rcases r with o|o
 exact absurd ⟨e,λ q=>nomatch o.symm.trans q⟩ q;subst o;exact sN h (by rw[p,e]) λ t=>q ⟨e,λ _=>t⟩;exact kD h p e j l
def yj {s:St}(h:s.lv=0):nl s={s with md:=.N,ln:=s.ln+1,gd:=s.gd++[s.ln+1]}:=by unfold nl;rw[Wy h]
def xL {s:St}(h:¬s.lv=0):nl s={s with md:=.N,ln:=s.ln+1}:=by unfold nl;rw[Wg h]
def A3 (C:Cel Wc k g b pr)(hl:∀i c,(sg x)[i]?=Kf c->i+1=(sg x).length->c=10)(u:(sg x).length+5<=big){d:Bool}{w f:Nat}{s:St}(J:w=0\/w=2)(h:InS x d w f i s)(z:i<(sg x).length){L:Option V}{K:F->Sg'->Prop}(again:∀M,M=.next\/M=.cont->∀G s' ch lv ln gd,i<G->InS x d w f G s'->s'.lv=lv->s'.ln=ln->s'.gd=gd->K M ⟨slots k g b x 0 lv ln G (sg x).length [ch,Kf<|sV<|dD d w,Kf<|nV f,Kf<|nV w],Wc gd⟩)(R:∀G s' ch lv ln gd,i<G->rR x G s'->s'.md≠.Nb->s'.lv=lv->s'.ln=ln->s'.gd=gd->K .brk ⟨slots k g b x 0 lv ln G (sg x).length [ch,Kf<|sV<|dD d w,Kf<|nV f,Kf<|nV w],Wc gd⟩) :aJ P pr (n+29) yB ⟨slots k g b x 0 s.lv s.ln i (sg x).length [L,Kf<|sV<|dD d w,Kf<|nV f,Kf<|nV w],Wc s.gd⟩ K:=by
 have I:x.length<=big:=am x▸U63 u;have T:s.gd.length<=big:=by rw[h.1];exact uU u
 obtain⟨c,o⟩:∃c,(sg x)[i]?=Kf c:=⟨_,Qk z⟩
 refine aF (nX (xv rfl) (xv rfl) o I) (aF (bh (j:=1) (xv rfl) xc) (cQ (dX (w:=120) (xv rfl) xc) (λ e=>?_) λ n120=>aS (cQ
  (cM (pj (xv rfl) (uJ (i:=i+1) (j:=1) (k:=i) (xv rfl) xc U88) (bh (xv rfl) (xv rfl)) I (GN i w) (am x▸U58 z)) (xv rfl) λ K k=>k) (λ e=>?_) λ nq=>aS (cQ
  (dX (w:=10) (xv rfl) xc) (λ e=>?_) λ U=>aS (cQ (dX (w:=92) (xv rfl) xc) (λ e=>?_) λ W=>aS ?_)))))
 have e:=eq_of_beq e;obtain⟨s',l,r,p,t⟩:=kD h o (λ q=>wL (d:=d) {4} {4}<|e.symm.trans q) (U52 e)<|U51 e;exact again .cont (.inr rfl) (i+1) s' _ _ _ _ U43 l r p t;obtain⟨s',l,hN,r,p,t⟩:=vZ hl J h o ((EB J o).mp e);exact aF (bh (xv rfl)<|xv rfl)<|R (i+1+w) s' _ _ _ _ (I6 i w) l hN r p t;rw[eq_of_beq e] at o;refine aF (bh (j:=1) (xv rfl) xc)<|cQ (q:=(w:Int)==0) (cM (xv rfl) xc λ K k=>k) (λ e=>?_) λ e=>aS ?_;have e:w=0:=U49 (eq_of_beq e);subst e;obtain⟨_,l,rfl⟩:=AR h o;refine cQ (q:=(s.lv:Int)==0) (cM (xv rfl) xc λ K k=>k) (λ e=>?_) λ e=>aS ?_;have e:=yj (U49<|eq_of_beq e);rw[e] at l;exact ri C rfl rfl T<|R (i+1) _ _ _ _ _ U43 l nofun rfl rfl rfl;have e:=xL (U48<|ne_of_beq_false e);rw[e] at l;exact R (i+1) _ _ _ _ _ U43 l nofun rfl rfl rfl;rcases J with Y|Y
 rw[Y] at e;contradiction;subst Y;obtain⟨s',l,r,p,t⟩:=Ay h o;exact again .cont (.inr rfl) (i+1) s' _ _ _ _ U43 l r p t;rw[eq_of_beq e] at o;have y:i+1<(sg x).length:=by
  rcases Nat.lt_or_ge (i+1) (sg x).length with q|q
  exact q;exact absurd (hl i 92 o<|Om.an {z} {q})<|{4}
 obtain⟨e,he⟩:∃e,(sg x)[i+1]?=Kf e:=⟨_,Qk y⟩;obtain⟨s',l,r,p,t⟩:=Af h o he;refine iT (decide_eq_true y▸A6 (xv rfl) (xv rfl))<|cQ (dX (w:=10) (nX (xv rfl) (xv rfl) he I) xc) (λ q=>?_) λ q=>aS ?_;rw[Wy<|eq_of_beq q] at p;exact aF (bh (j:=1) (xv rfl) xc)<|aF (bh (j:=1) (xv rfl) xc)<|again .cont (.inr rfl) (i+2) s' _ _ _ _ U44 l r p t;rw[Wg<|ne_of_beq_false q] at p;exact aF (bh (j:=1) (xv rfl) xc)<|again .cont (.inr rfl) (i+2) s' _ _ _ _ U44 l r p t;·obtain⟨s',l,r,p,t⟩:=A7 J h o (ne_of_beq_false U) (ne_of_beq_false W) λ q=>Bool.noConfusion (nq.symm.trans<|(EB J o).mpr q);exact again .next (.inl rfl) (i+1) s' _ _ _ _ U43 l r p t
def xu (C:Cel Wc k g b pr)(hl:∀i c,(sg x)[i]?=Kf c->i+1=(sg x).length->c=10)(l:(sg x).length+5<=big){d:Bool}{w f o:Nat}{s₀:St}(T:w=0\/w=2)(U:InS x d w f o s₀){r:Option V}{K:F->Sg'->Prop}(y:J5 k g b Wc x o [Kf<|.d<|.str<|dD d w,Kf<|.d<|.int f,Kf<|.d<|.int w] K) :oK P pr (n+30) (.while_ (.cmp .Lt (.v 7)<|.v 8) yB BL) ⟨slots k g b x 0 s₀.lv s₀.ln o (sg x).length [r,Kf<|.d<|.str<|dD d w,Kf<|.d<|.int f,Kf<|.d<|.int w],Wc s₀.gd⟩ K:=by
 refine rA (λ p:Nat×St×Option V=>⟨slots k g b x 0 p.2.1.lv p.2.1.ln p.1 (sg x).length [p.2.2,Kf<|sV<|dD d w,Kf<|nV f,Kf<|nV w],Wc p.2.1.gd⟩) (λ p=>(sg x).length-p.1) (λ p=>o<=p.1/\InS x d w f p.1 p.2.1) (o,s₀,r) ⟨Zv _,U⟩ λ p q=>?_;have h:=q.2;refine⟨_,A6 (xv rfl)<|xv rfl,λ z=>A3 (n:=n) C hl l T h (of_decide_eq_true z) (λ f' W G I ch lv ln gd t u J L M=>Cy W (G,I,Wq) (U61 t u.2.1) ?_ ⟨BZ q.1 t,u⟩) λ G I ch lv ln gd t u Y J L M=>?_,λ j=>?_⟩;rw[J,L,M];exact H7 C;rw[<-J,<-L,<-M];exact y G I 0 ch (BZ q.1 t)<|.inl ⟨u,Y,rfl⟩;have j:p.1=(sg x).length:=Nat.le_antisymm h.2.1 (Nat.le_of_not_lt<|of_decide_eq_false j);have R:p.2.1=scan st0 (sg x):=by rw[h.1,j,List.take_length]
 refine cQ (q:=(p.2.1.ln:Int)-1==f) (cM (iB (xv rfl) xc λ K k=>k) (xv rfl) λ K k=>k) (λ e=>aF xg<|y p.1 p.2.1 2 p.2.2 q.1<|.inr ⟨j,R,f,on h,?_⟩) λ e=>aF xg<|y p.1 p.2.1 3 p.2.2 q.1<|.inr ⟨j,R,f,on h,?_⟩;rw[Wy<|I2<|eq_of_beq e];rw[Wg λ e'=>U40 e'<|ne_of_beq_false e]
end
section
variable {g b:Nat}
def len_str {e:Option Nat}{K:V->aa->Prop}:d8 P c e (.bi .len) [.d<|.str x] K=(x.length<=big/\K (.d<|.int x.length) c):=rfl
def DB (C:Cel Wc k g b pr){e:Int}{lv:Nat}{f h j l:Option V} :Wk pr ⟨slots k g b x e lv ln i n [f,h,j,l],Wc gd⟩ ⟨slots k g b x e lv ln i n [Wq,Wq,Wq,Wq],Wc gd⟩:=
 ⟨And.intro (wo rfl<|C.k_ gd)<|And.intro (wo rfl trivial)<|And.intro (wo rfl trivial)<|And.intro (wo rfl trivial)<|And.intro (wo rfl trivial)<|And.intro (wo rfl<|aj<|C.g_ gd)<|And.intro (wo rfl<|aj<|C.b_ gd)<|And.intro (wo rfl trivial)<|And.intro (wo rfl trivial) trivial,rfl,C.wf gd,C.pr gd⟩
open Classical in
def lZ (x:Str)(i:Nat)(s:St)(ct:Int):Prop:=
 (rR x i s/\ct=if s.md=.Nb/\i=(sg x).length then 1 else 0)\/(i=(sg x).length/\s=scan st0 (sg x)/\∃f,ci s.md=Kf f/\ct=if s.ln=f+1 then 2 else 3)
section
variable {a b f o:IE}{kk:Option Nat}{m:Mn}
def iG {K:Bool->aa->Prop}:fN P (n+1) (.cmp op a b) l c K=aU P n a l c λ u h=>aU P n b l h λ v e=>gH e op u v λ r=>K r e:=rfl
def AE {K:V->aa->Prop}:aU P (n+1) (.cmp op a b) l c K=aU P n a l c λ u h=>aU P n b l h λ v e=>gH e op u v λ r=>K (.d<|.bool r) e:=rfl
def fR {op:Operator}{K:V->aa->Prop}:aU P (n+1) (.bin op a b) l c K=aU P n a l c λ u h=>aU P n b l h λ v e=>s9 e op u v λ d=>K (.d d) e:=rfl
def jv {K:V->aa->Prop}:aU P (n+1) (.call f es kk) l c K=aU P n f l c λ u e=>ka P n es l e λ vs h=>d8 P h kk u vs K:=rfl
def fS {K:V->aa->Prop}:aU P (n+1) (.meth o m es) l c K=aU P n o l c λ u e=>cH e u m/\ka P n es l e λ vs h=>i8 h u m vs K:=rfl
def s6 {x:Ww}{e:Str}{K:V->aa->Prop}:aU P (n+1) (.umeth o x e es) l c K=aU P n o l c λ u h=>(jw P h u λ fs=>look fs e=Wq)/\ka P n es l h λ vs i=>P.isFn x=true/\P.fn x (u::vs) i (λ v c3=>fo i c3/\K v c3):=rfl
def BH {K:V->aa->Prop}:aU P (n+1) (.lst es kk) l c K=ka P n es l c λ vs e=>aC (iA vs) λ ds=>ds.length<=big/\dI e kk ds K:=rfl
def BF {K:V->aa->Prop}:aU P (n+1) (.tup es) l c K=ka P n es l c λ vs e=>aC (iA vs) λ ds=>ds.length<=big/\K (.d<|.tup ds) e:=rfl
def Db {K:Bool->aa->Prop}:fN P (n+1) (.or a b) l c K=fN P n a l c λ r e=>(r=true->K true e)/\(r=false->fN P n b l e K):=rfl
def bx {K:List V->aa->Prop}:ka P (n+1) (a::es) l c K=aU P n a l c λ v e=>ka P n es l e λ vs h=>K (v::vs) h:=rfl
end
theorem qL {it:IE}{a:List IS}{K:F->Sg'->Prop}:oK P pr (n+1) (.for_ i it a) σ K=aU P n it σ.l σ.c λ v h=>gN v/\∃xs,cX v=Kf xs/\∃I:Nat->Sg'->Prop,I 0 ⟨σ.l,h⟩/\(∀j d τ,xs[j]?=Kf d->I j τ->i<τ.l.length/\aJ P pr n a ⟨τ.l.set i (Kf (.d d)),τ.c⟩ λ f υ=>match f with
     | .next | .cont=>∃e,Wk pr υ e/\I (j+1) e| .brk=>K .next υ| .ret v=>K (.ret v) υ)/\∀τ,I xs.length τ->K .next τ:=rfl
def aN {r:List IS}{K:F->Sg'->Prop}(v:V)(j:∀f:V->aa->Prop,f v c->aU P n e l c f)(h:aJ P pr (n+1) r ⟨l.set i<|some v,c⟩ K):aJ P pr (n+2) (.asg i e::r) ⟨l,c⟩ K:=by exact j _ h
def nW (C:Cel Wc k g b pr)(hl:∀i c,(sg x)[i]?=Kf c->i+1=(sg x).length->c=10)(l:(sg x).length+5<=big){d:Bool}{w:Nat}{s:St}(q:w=0\/w=2)(h:InS x d w s.ln (i+w) s){ch t u:Option V}{K:F->Sg'->Prop}(y:∀o s' (f:Int) ch z G I,i+w<=o->Fl x o s' f->K .cont ⟨slots k g b x f s'.lv s'.ln o (sg x).length [ch,z,G,I],Wc s'.gd⟩) :aJ P pr (n+60) [.asg 11<|.v 4,.asg 12<|.bin .Sub (.call (.g<|.bi .len) [(.v 10)] Wq)<|.c<|.int 1,.asg 7<|.bin .Add (.v 7)<|.v 12,JC,.cont]
   ⟨slots k g b x 0 s.lv s.ln i (sg x).length [ch,Kf<|.d<|.str<|dD d w,t,u],Wc s.gd⟩ K:=by
 have r:(dD d w).length=w+1/\(dD d w).length<=big:=by
  rcases q with e|e<;>subst e
  exact⟨rfl,show 1<=big by decide⟩;exact⟨rfl,show 3<=big by decide⟩
 exact aF (xv rfl)<|aF (uJ (j:=1) (jQ (xv rfl) r.2) xc<|by rw[r.1];exact U88)<|aF (bh (xv rfl)<|xv rfl)<|dq<|xu (n:=n+26) C hl l q h λ o s' f p J L=>y o s' f p _ _ _ J L
def EX {a:Nat}(h:i+1+2<=a):i+1<=a:={h}
def Lg {a b:Nat}{K:Bool->Prop}(h:K<|a==b):K ((a:Int)==b):=by rw[show ((a:Int)==b)=(a==b) from Bool.eq_iff_iff.mpr (by rw[beq_iff_eq,beq_iff_eq];exact Int.ofNat_inj)];exact h
def HG {d:Bool}(e:(sg x)[i]?=Kf (qc d)):((⟨(((sg x).drop i).take<|i+1+2-i).toArray⟩:Str)==gn (ch<|qc d) 3)=true↔(sg x)[i+1]?=Kf (qc d)/\(sg x)[i+2]?=Kf (qc d):=(EB (d:=d) (w:=2) (.inr rfl) e).trans ⟨λ h=>h.2 rfl,λ h=>⟨rfl,λ _=>h⟩⟩
def kT {s:St}{d:Bool}(h:rR x i s)(e:(sg x)[i]?=Kf (qc d)) :((sg x)[i+1]?=Kf (qc d)/\(sg x)[i+2]?=Kf (qc d)->∃s',InS x d 2 s.ln (i+3) s'/\same s s')/\(¬((sg x)[i+1]?=Kf (qc d)/\(sg x)[i+2]?=Kf (qc d))->∃s',InS x d 0 s.ln (i+1) s'/\same s s'):=by
 have f:scan st0 ((sg x).take<|i+1)={s with md:=.Q1 d s.ln}:=by simp only[bo e,<-h.1,h.2.2.1 _ e];cases d<;>rfl
 refine⟨λ q=>?_,λ q=>⟨_,⟨f.symm,aL e,.inl ⟨rfl,.inr ⟨rfl,q⟩⟩⟩,rfl,rfl,rfl⟩⟩;have j:scan st0 ((sg x).take<|i+3)={s with md:=.S3 d 0 s.ln}:=by simp only[bo q.2,bo q.1,f];simp[step]
 exact⟨_,⟨j.symm,aL q.2,.inr ⟨rfl,.inl rfl⟩⟩,rfl,rfl,rfl⟩
def Da {s:St}(e:s.md=.C)(l:List Nat):(∀c∈l,c≠10)->scan s l=s:=by
 induction l with|nil=>intro _;exact rfl|cons c l rH=>
  intro h;have:step s c=s:=by simp[step,e,h c<|.head _]
  simp only[aO,this];exact rH λ c f=>h c<|.tail _ f
def Jf {c:Nat}(h:c=10\/c=34\/c=35\/c=39\/c=40\/c=41\/c=92\/c=120)(f:c≠10)(i:c≠34)(j:c≠35)(l:c≠39)(o:c≠40)(p:c≠41)(e:c≠120):c=92:=by
 rcases h with h|h|h|h|h|h|h|h
 exact absurd h f;exact absurd h i;exact absurd h j;exact absurd h l;exact absurd h o;exact absurd h p;exact h;exact absurd h e
def C7 (C:Cel Wc k g b pr)(hl:∀i c,(sg x)[i]?=Kf c->i+1=(sg x).length->c=10)(o:(sg x).length+5<=big){s:St}{d:Bool}(h:rR x i s)(y:(sg x)[i]?=Kf (qc d)){r t u:Option V}{K:F->Sg'->Prop}(M:∀w s' (f:Int) ch r t u,i+1<=w->Fl x w s' f->K .cont ⟨slots k g b x f s'.lv s'.ln w (sg x).length [ch,r,t,u],Wc s'.gd⟩):aJ P pr (n+90) [.asg 10 (.v 9),.if_ (.cmp .Eq (.slice (.v 1) (.bin .Sub (.v 7) (.c (.int 1))) (.bin .Add (.v 7) (.c (.int 2)))) (.bin .Mult (.v 10) (.c (.int 3)))) [.asg 10 (.bin .Mult (.v 10) (.c (.int 3)))] [],.asg 11 (.v 4),.asg 12 (.bin .Sub (.call (.g<|.bi .len) [(.v 10)] Wq)<|.c<|.int 1),.asg 7 (.bin .Add (.v 7)<|.v 12),JC,.cont] ⟨slots k g b x 0 s.lv s.ln (i+1) (sg x).length [Kf (sV (ch (qc d))),r,t,u],Wc s.gd⟩ K:=by have G:x.length<=big:=am x▸U63 o;have R:∀{l c n},av l 10=Kf (sV<|ch<|qc d)->Ex P (n+2) l c (.bin .Mult (.v 10)<|.c<|.int 3) (sV<|gn (ch<|qc d) 3):=λ e=>iB (xv e) xc λ K k=>⟨⟨{4},{4}⟩,rfl,k⟩;refine aF (xv rfl)<|cQ (cM (pj (xv rfl) (uJ (i:=i+1) (j:=1) (k:=i) (xv rfl) xc U88) (bh (j:=2) (xv rfl) xc) G (GN i 2)<|am x▸Nat.le_of_succ_le (aL y)) (R rfl) λ K k=>k) (λ e=>?_) λ e=>aS ?_;obtain⟨s',p,I,z,J⟩:=(kT h y).1 ((HG y).mp e);rw[<-z] at p;rw[<-I,<-z,<-J];exact aF (R rfl)<|aS<|nW (n:=n+28) C hl o (.inr rfl) p λ w s' f ch r t u L q=>M w s' f ch r t u (EX L) q;obtain⟨s',p,I,z,J⟩:=(kT h y).2 λ q=>Bool.noConfusion (e.symm.trans<|(HG y).mpr q);rw[<-z] at p;rw[<-I,<-z,<-J];exact nW (n:=n+28) C hl o (.inl rfl) p λ w s' f ch r t u L q=>M w s' f ch r t u L q
def Je {c:Nat}{s:St}(h:rR x i s)(f:(sg x)[i]?=Kf c){y:Nat}(e:c=y){s':St}(l:fw s y=s')(j:s'.md=.N):lZ x (i+1) s' 0:=by
 have o:s'=scan st0 ((sg x).take<|i+1):=by rw[<-l,bo f,<-h.1,h.2.2.1 c f,e]
 exact .inl ⟨⟨o,aL f,λ c _=>by unfold step;rw[j],λ _=>.inl j⟩,by rw[Wg λ q=>by rw[j] at q;cases q.1]⟩
def zN {s:St}(h:rR x i s)(u:(sg x)[i]?=Kf 35)(hl:∀i c,(sg x)[i]?=Kf c->i+1=(sg x).length->c=10)(o:sg x≠[]->(sg x)[(sg x).length-1]?=Kf 10):∃j:Nat,Txt.find3 x ⟨#[10]⟩ ((i+1:Nat):Int)=(j:Int)/\i<j/\j<=(sg x).length/\lZ x j {s with md:=.C} 0:=by
 have p:=aL u;obtain⟨j,J,r,t,y⟩:=rm (x:=x) (i:=i+1) ⟨(sg x).length-1,by
  rcases Nat.lt_or_ge (i+1) (sg x).length with q|q
  exact U78 q;exact absurd (hl i 35 u (Om.an {p} {q})) {4},o (λ e=>by rw[e] at p;contradiction)⟩
 have l:j+1<=(sg x).length:=aL t;have z:scan st0 ((sg x).take j)={s with md:=.C}:=by
  have L:(sg x).take j=(sg x).take (i+1)++((sg x).take j).drop (i+1):=by
   conv=>lhs;rw[<-List.take_append_drop (i+1) ((sg x).take j)]
   rw[List.take_take,Nat.min_eq_left r]
  rw[L,aE,bo u,<-h.1,h.2.2.1 35 u];refine Da rfl _ λ c G e=>?_;subst e;obtain⟨m,w⟩:=List.mem_iff_getElem?.mp G;rw[Zx] at w;have f:i+1+m<j:=by have:=(Qw.mp w).1;simp only[List.length_take] at this;exact U77 this
  rw[List.getElem?_take,Wy f] at w;exact y (i+1+m) {1} f w
 exact⟨j,J,r,U73 l,.inl ⟨⟨z.symm,U73 l,λ c I=>by rw[<-Option.some.inj (t.symm.trans I)];rfl,λ q=>(U75 l q).elim⟩,by rw[Wg<|λ q=>by cases q.1]⟩⟩
open Classical in
theorem Br {e:Nat}{s:St}(h:rR x i s)(l:(sg x)[i]?=Kf 92)(j:(sg x)[i+1]?=Kf e):(e=10->lZ x (i+2) {s with md:=.Nb,ln:=s.ln+1} (if i+2=(sg x).length then 1 else 0))/\(e≠10->lZ x (i+2) {s with md:=.N} 0):=by
 have f:scan st0 ((sg x).take<|i+2)=if e=10 then {s with md:=.Nb,ln:=s.ln+1} else {s with md:=.N}:=by rw[bo j,bo l,<-h.1,h.2.2.1 92 l];rfl
 refine⟨λ q=>.inl ⟨⟨?_,aL j,λ c _=>rfl,λ _=>.inr rfl⟩,?_⟩,λ q=>.inl ⟨⟨?_,aL j,λ c _=>rfl,λ _=>.inl rfl⟩,?_⟩⟩;rw[f,Wy q];exact cj (P:=λ z:Int=>z=_) (λ e=>(Wy ⟨rfl,e⟩).symm) λ e=>(Wg λ q=>e q.2).symm;rw[f,Wg q];exact (Wg λ q=>nomatch q.1).symm
def wM (C:Cel Wc k g b pr)(hl:∀i c,(sg x)[i]?=Kf c->i+1=(sg x).length->c=10)(R:sg x≠[]->(sg x)[(sg x).length-1]?=Kf 10)(W:vn x)(o:(sg x).length+5<=big){s:St}(h:rR x i s)(J:i<(sg x).length){L r t u:Option V}{K:F->Sg'->Prop}(again:∀f,f=.next\/f=.cont->∀M s' G L r t u,i<M->lZ x M s' G->M<=(sg x).length->K f ⟨slots k g b x G s'.lv s'.ln M (sg x).length [L,r,t,u],Wc s'.gd⟩) :aJ P pr (n+99) vV ⟨slots k g b x 0 s.lv s.ln i (sg x).length [L,r,t,u],Wc s.gd⟩ K:=by
 have T:x.length<=big:=am x▸U63 o;have Y:s.gd.length<=big:=by rw[h.1];exact uU o
 obtain⟨c,p⟩:∃c,(sg x)[i]?=Kf c:=⟨_,Qk J⟩;have one:∀y s',(c==y)=true->fw s y=s'->s'.md=.N->∀L r t u,K .cont ⟨slots k g b x 0 s'.lv s'.ln (i+1) (sg x).length [L,r,t,u],Wc s'.gd⟩:=λ y s' e e2 e3 L r t u=>again .cont (.inr rfl) (i+1) s' 0 L r t u U43 (Je h p (eq_of_beq e) e2 e3) J
 refine aF (nX (xv rfl) (xv rfl) p T) (aF (bh (j:=1) (xv rfl) xc) (cQ (dX (w:=120) (xv rfl) xc) (λ e=>one 120 {s with md:=.N} e rfl rfl _ _ _ _) λ U=>aS (cQ (dX (w:=10) (xv rfl) xc) (λ e=>?_) λ n10=>aS (cQ
  (dX (w:=40) (xv rfl) xc) (λ e=>aF (bh (j:=1) (xv rfl) xc) (one 40 {s with md:=.N,lv:=s.lv+1} e rfl rfl _ _ _ _)) λ n40=>aS (cQ (dX (w:=41) (xv rfl) xc) (λ e=>?_) λ n41=>aS (cQ (JM (dX (w:=34) (xv rfl) xc) λ _=>dX (w:=39) (xv rfl) xc) (λ e=>?_) λ nq=>aS (cQ
  (dX (w:=35) (xv rfl) xc) (λ e=>?_) λ n35=>aS ?_)))))))
 refine aF (bh (j:=1) (xv rfl) xc) (cQ (q:=(s.lv:Int)==0) (cM (xv rfl) xc λ K k=>k) (λ z=>?_) λ z=>aS ?_);exact ri C rfl rfl Y<|one 10 _ e (yj<|U49<|eq_of_beq z) rfl _ _ _ _;exact one 10 _ e (xL<|U48<|ne_of_beq_false z) rfl _ _ _ _;have:=one 41 {s with md:=.N,lv:=s.lv-1} e rfl rfl;refine cQ (q:=(s.lv:Int) != 0) (λ K k=>k) (λ z=>?_) λ z=>aS ?_;exact aF (uJ (j:=1) (xv rfl) xc (U83<|U48<|bne_iff_ne.mp z).symm)<|aS<|this _ _ _ _;rw[U81<|U49<|bne_eq_false_iff_eq.mp z];exact this _ _ _ _;obtain⟨d,hd⟩:∃d,c=qc d:=by
  rcases Bool.or_eq_true_iff.mp e with e|e
  exact⟨true,eq_of_beq e⟩;exact⟨false,eq_of_beq e⟩
 rw[hd] at p ⊢;refine C7 (n:=n+1) C hl o h p λ M s' G ch r t u hi q=>again .cont (.inr rfl) M s' G ch r t u hi ?_ ?_;exact q.imp (λ q=>⟨q.1,by rw[Wg λ e=>q.2.1 e.1];exact q.2.2⟩) id;exact q.elim (λ q=>q.1.2.1) λ q=>Nat.le_of_eq q.1;rw[eq_of_beq e] at p;obtain⟨j,hf,hj1,hj2,I⟩:=zN h p hl R;exact aF (v:=nV j) (jS (xv rfl) rfl (x1 xc (x1 (xv rfl) x0)) λ K k=>⟨rfl,by show K (.d (.int (Txt.find3 x ⟨#[10]⟩ ((i+1:Nat):Int)))) _;rw[hf];exact k⟩) (iT (cM (xv rfl) xc λ K k=>by show K (decide ((0:Int)<=j));rw[decide_eq_true U72];exact k) (again .cont (.inr rfl) j {s with md:=.C} 0 _ _ _ _ hj1 I hj2))
 ·have hc1:c=92:=Jf (W c<|Qg p) (ne_of_beq_false n10) (ne_of_beq_false (Bool.or_eq_false_iff.mp nq).1) (ne_of_beq_false n35) (ne_of_beq_false (Bool.or_eq_false_iff.mp nq).2) (ne_of_beq_false n40) (ne_of_beq_false n41) (ne_of_beq_false U)
  rw[hc1] at p ⊢;have l:i+1<(sg x).length:=by
   rcases Nat.lt_or_ge (i+1) (sg x).length with q|q
   exact q;exact absurd (hl i 92 p<|Om.an {J} {q})<|{4}
  obtain⟨e,he⟩:∃e,(sg x)[i+1]?=Kf e:=⟨_,Qk l⟩;have I:=Br h p he;refine iT (cM (xv rfl) xc λ K k=>k)<|iT (decide_eq_true l▸A6 (xv rfl) (xv rfl))<|cQ (dX (w:=10) (nX (xv rfl) (xv rfl) he T) xc) (λ q=>?_) λ q=>aS ?_
  ·have I:=I.1 (eq_of_beq q)
   refine aF (bh (j:=1) (xv rfl) xc)<|cQ (q:=i+2==(sg x).length) (cM (bh (i:=i+1) (j:=1) (xv rfl) xc) (xv rfl) λ K k=>Lg k) (λ z=>?_) λ z=>aS<|aS ?_;·rw[Wy<|eq_of_beq z] at I;exact aF xg<|aS<|aS<|aF (bh (j:=1) (xv rfl) xc)<|again .next (.inl rfl) (i+2) _ 1 _ _ _ _ U44 I l
   ·rw[Wg<|ne_of_beq_false z] at I;exact aF (bh (j:=1) (xv rfl) xc)<|again .next (.inl rfl) (i+2) _ 0 _ _ _ _ U44 I l
  ·exact aF (bh (j:=1) (xv rfl) xc)<|again .next (.inl rfl) (i+2) {s with md:=.N} 0 _ _ _ _ U44 (I.2<|ne_of_beq_false q) l
def yv (C:Cel Wc k g b pr)(hl:∀i c,(sg x)[i]?=Kf c->i+1=(sg x).length->c=10)(o:sg x≠[]->(sg x)[(sg x).length-1]?=Kf 10)(u:vn x)(t:(sg x).length+5<=big){r:List (Option V)}(L:r=[Wq,Wq,Wq,Wq]){K:F->Sg'->Prop}(M:∀s J r,lZ x (sg x).length s J->s=scan st0 (sg x)->K .next ⟨slots k g b x J s.lv s.ln (sg x).length (sg x).length r,Wc s.gd⟩) :oK P pr (n+100) GW ⟨slots k g b x 0 0 0 0 (sg x).length r,Wc [0]⟩ K:=by
 refine rA (λ p:Nat×St×Int×List (Option V)=>⟨slots k g b x p.2.2.1 p.2.1.lv p.2.1.ln p.1 (sg x).length p.2.2.2,Wc p.2.1.gd⟩) (λ p=>(sg x).length-p.1) (λ p=>lZ x p.1 p.2.1 p.2.2.1/\∃w y z G,p.2.2.2=[w,y,z,G]) (0,st0,0,r) ⟨.inl ⟨⟨rfl,Zj _,λ c _=>rfl,λ _=>.inl rfl⟩,(Wg λ q=>nomatch q.1).symm⟩,Wq,Wq,Wq,Wq,L⟩ λ p q=>?_;refine⟨_,A6 (xv rfl)<|xv rfl,λ j=>?_,λ l=>?_⟩;have j:=of_decide_eq_true j;have h:rR x p.1 p.2.1/\p.2.2.1=0:=by
  rcases q.1 with h|h
  exact⟨h.1,h.2.trans<|if_neg λ q=>Nat.ne_of_lt j q.2⟩;exact (U87 j h.1).elim
 obtain⟨w,y,z,G,e⟩:=q.2;rw[h.2,e];exact wM (n:=n) C hl o u t h.1 j λ f R T U I w y z G W Y h3=>Cy R (T,U,I,[Wq,Wq,Wq,Wq]) (U61 W h3) (DB C) ⟨Y,Wq,Wq,Wq,Wq,rfl⟩;have l:=Nat.le_of_not_lt (of_decide_eq_false l);have e:p.1=(sg x).length/\p.2.1=scan st0 (sg x):=by
  rcases q.1 with h|h
  have e:=Nat.le_antisymm h.1.2.1 l;exact⟨e,by rw[h.1.1,e,List.take_length]⟩;exact⟨h.1,h.2.1⟩
 have h:=q.1;rw[e.1] at h ⊢;exact M _ _ _ h e.2
end
def celW_iff {r:aa}:cK c c' r↔∀p∈r,∃o,ae c p.1=Kf o/\oW c c' o p.2:=by induction r with|nil=>exact⟨λ _ _ h=>(nomatch h),λ _=>trivial⟩|cons q_ r rH=>obtain⟨k,o⟩:=q_;show (_/\cK c c' r)↔_;rw[rH];simp
def Dl {U b:aa}(h:∀k∈dom c,k∈dom b){v':V}(w:vW c c v v'):vW U b v v':=by
 rcases w with ⟨e,o⟩|⟨k,j,rfl,f,_,i⟩
 refine .inl ⟨e,?_⟩;cases v<;>first|exact h _ o|trivial
 exact absurd (aj f) i
theorem dp {U b:aa}(h:∀k∈dom c,k∈dom b):∀{a a':List (Str×V)},mA c c a a'->mA U b a a'
 | [],[],_=>trivial| (_,_)::_,(_,_)::_,⟨e,f,i⟩=>⟨e,Dl h f,dp h i⟩| [],_::_,q=>q.elim|_::_,[],q=>q.elim
def gU {U e:aa}(h:∀k∈dom c,k∈dom e){o b:O}(w:oW c c o b):oW U e o b:=by cases o<;>cases b<;>first|exact w|exact dp h w|exact⟨w.1,w.2.1,h _ w.2.2⟩
theorem bW {v':V}(b:vW c c' v v'):∀{a a':List (Str×V)},mA c c' a a'->mA c c' (a6 a x v) (a6 a' x v')
 | [],[],_=>⟨rfl,b,trivial⟩| (y,u)::r,(y',u')::r',⟨h,i,f⟩=>by subst h;dsimp only[a6];by_cases e:y'=x;rw[Wy e,Wy e];exact⟨rfl,b,f⟩;rw[Wg e,Wg e];exact⟨rfl,i,bW b f⟩| [],_::_,q=>q.elim|_::_,[],q=>q.elim
def m7 {o:O}(h:ae c k=Kf o):(k,o)∈c:=by induction c with|nil=>contradiction|cons p r ih=>obtain⟨j,u⟩:=p;dsimp only[ae] at h;by_cases e:j=k;rw[Wy e] at h;injection h with h;subst h;rw[e];exact .head _;rw[Wg e] at h;exact .tail _<|ih h
def jp (b:(dom c).Nodup){o:O}{p:Nat×O}(h:p∈cset c k o):p=(k,o)\/(p∈c/\p.1≠k):=by
 induction c with|nil=>contradiction|cons q r f=>
  obtain⟨j,u⟩:=q;obtain⟨i,l⟩:=List.nodup_cons.mp<|show (j::dom r).Nodup from b;dsimp only[cset] at h;by_cases e:j=k;rw[Wy e] at h;rcases Qy.mp h with h|h
  exact .inl<|by rw[h,e]
  refine .inr ⟨.tail _ h,λ q=>i ?_⟩;rw[e,<-q];exact List.mem_map.mpr ⟨p,h,rfl⟩;rw[Wg e] at h;rcases Qy.mp h with h|h
  exact .inr ⟨by rw[h];exact .head _,by rw[h];exact e⟩;rcases f l h with h|h
  exact .inl h;exact .inr ⟨.tail _ h.1,h.2⟩
def bd {r:aa}(h:k∈dom c)(o:O):cset (c++r) k o=cset c k o++r:=by
 induction c with|nil=>contradiction|cons p c ih=>
  obtain⟨j,u⟩:=p;show (if j=k then _ else _)=(if j=k then _ else _)++r;by_cases e:j=k;rw[Wy e,Wy e];rfl;rw[Wg e,Wg e];have:k∈dom c:=by
   rcases Qy.mp (show k∈j::dom c from h) with q|q
   exact absurd q.symm e;exact q
  show (j,u)::cset (c++r) k o=_;rw[ih this];rfl
def bn (c:aa)(k:Nat)(o b:O):cset (cset c k o) k b=cset c k b:=by induction c with|nil=>rfl|cons p c ih=>obtain⟨j,u⟩:=p;dsimp only[cset];by_cases e:j=k;rw[Wy e];dsimp only[cset];rw[Wy e,Wy e];rw[Wg e];dsimp only[cset];rw[Wg e,Wg e,ih]
structure Wf (c:aa):Prop where
 w:cK c c c
 nd:(dom c).Nodup
theorem Wf.fs (W:Wf c){fs:List (Str×V)}(h:ae c k=Kf (.ns fs)):mA c c fs fs:=by obtain⟨o,b,e⟩:=celW_iff.mp W.w _<|m7 h;rw[h] at b;injection b with b;subst b;exact e
def Wf.out {U:aa}(W:Wf c){fs b:List (Str×V)}(i:ae c dk=Kf (.ns fs)){f:List (Str×V)}(l:∀j,j≠dk->j∈dom c->ae U j=ae c j)(e:ae U dk=Kf (.ns f))(q:mA U (cset c dk<|.ns b) f b) :cK U (cset c dk<|.ns b) (cset c dk<|.ns b):=by
 rw[celW_iff];intro p r;rcases jp W.nd r with rfl|⟨t,u⟩
 exact⟨_,e,q⟩;obtain⟨o,h,x⟩:=celW_iff.mp W.w p t;refine⟨o,by rw[l p.1 u<|aj h];exact h,gU (λ k y=>by rw[ai];exact y) x⟩
section
variable {g b:Nat}{C:Ww}{fs f:List (Str×V)}
def fK (c:aa)(dk g b:Nat)(f:List<|Str×V)(gd:List Nat):aa:=cset c dk (.ns f)++[(g,.list (gd.map λ m:Nat=>D.int m))]++[(b,.bound "list.append" g)]
def cT (gd:List Nat):dom (fK c dk g b f gd)=dom c++[g]++[b]:=by unfold fK;rw[al,al,ai]
def rQ (i:g∉dom c)(hb:b∉dom c)(e:g≠b)(h:dk∈dom c)(gd:List Nat)(j:Nat) :ae (fK c dk g b f gd) j=if j=b then Kf (.bound "list.append" g) else if j=g then Kf (.list (gd.map λ m:Nat=>D.int m)) else if j=dk then Kf (.ns f) else ae c j:=by unfold fK;rw[aY (by rw[al,ai];simp[hb,Ne.symm e]),aY (by rw[ai];exact i),aI h]
def qS (W:Wf c)(I:k∈dom c)(u:g∉dom c)(hb:b∉dom c)(l:g≠b)(x:ae c dk=Kf (.ns fs))(J:mA (fK c dk g b f []) (fK c dk g b f []) f f):Cel (fK c dk g b f) k g b (dom c):=by
 have r:=aj x;have ngd:g≠dk:=λ e=>u<|e▸r;have nbd:b≠dk:=λ e=>hb<|e▸r;have get:=λ h j=>rQ (c:=c) (f:=f) u hb l r h j;refine⟨λ h=>by rw[get,Wy rfl],λ h=>by rw[get,Wg l,Wy rfl],λ h m=>?_,λ h=>?_,λ h j t=>by rw[cT];simp[t],λ h=>by rw[cT];simp[I]⟩;unfold fK;rw[bd (by rw[al];simp),eR<|by rw[ai];exact u];simp;rw[celW_iff];have sub:∀j∈dom c,j∈dom (fK c dk g b f h):=λ j t=>by rw[cT];simp[t]
 intro p i;unfold fK at i;rcases Qu.mp i with i|i
 rcases Qu.mp i with i|i
 rcases jp W.nd i with rfl|⟨L,M⟩
 refine⟨.ns f,by rw[get,Wg<|Ne.symm nbd,Wg<|Ne.symm ngd,Wy rfl],?_⟩;have dd:∀a y,mA (fK c dk g b f []) (fK c dk g b f []) a y->mA (fK c dk g b f h) (fK c dk g b f h) a y:=λ a y q=>dp (λ j t=>by rw[cT] at t ⊢;exact t) q;exact dd f f J;obtain⟨o,z,P⟩:=celW_iff.mp W.w p L;have G:=aj z;refine⟨o,by rw[get,Wg (λ e:p.1=b=>hb<|by rw[<-e];exact G),Wg (λ e:p.1=g=>u<|by rw[<-e];exact G),Wg M];exact z,gU sub P⟩;have:p=(g,.list (h.map λ m:Nat=>D.int m)):=by simpa using i
 subst this;exact⟨.list (h.map λ m:Nat=>D.int m),by rw[get,Wg l,Wy rfl],rfl⟩;have:p=(b,.bound "list.append" g):=by simpa using i
 subst this;exact⟨.bound "list.append" g,by rw[get,Wy rfl],rfl,rfl,by rw[cT];simp⟩
end
open Classical in
def ar (s:St):Int:=match ci s.md with
 |some f=>if s.ln=f+1 then 2 else 3
 |none=>if 0<s.lv then 4 else if s.md=.Nb then 1 else 0
def oO {g:List Nat}:ar ⟨.N,0,n,g⟩=0:=Wg (nofun:¬Md.N=.Nb)
noncomputable def ax (s:St):List Nat:=if s.gd.getLast?=Kf s.ln then s.gd else s.gd++[s.ln]
def DR (s:St)(c:Nat)(h:∃m,s.gd.getLast?=Kf m/\m<=s.ln):∃m,(step s c).gd.getLast?=Kf m/\m<=(step s c).ln:=by obtain⟨m,b,e⟩:=h;refine gw (P:=λ t=>∃m,t.gd.getLast?=Kf m/\m<=t.ln) (λ _=>?_) (λ _ _ _=>⟨m,b,e⟩)<|λ _ _=>⟨m,b,Nat.le_succ_of_le e⟩;unfold nl;dsimp only;by_cases h:s.lv=0;rw[Wy h];exact⟨s.ln+1,List.getLast?_concat,Zv _⟩;rw[Wg h];exact⟨m,b,Nat.le_succ_of_le e⟩
def qW (l:List Nat):∀s:St,(∃m,s.gd.getLast?=Kf m/\m<=s.ln)->∃m,(scan s l).gd.getLast?=Kf m/\m<=(scan s l).ln:=by
 induction l with
 |nil=>exact λ s h=>h
 |cons c l ih=>exact λ s h=>ih (step s c)<|DR s c h
def zL (s:St)(h:∃m,s.gd.getLast?=Kf m/\m<=s.ln):(ar (step s 10)=0)↔(step s 10).gd.getLast?=Kf (step s 10).ln:=by
 obtain⟨m,i,j⟩:=h;have ne:s.gd.getLast?≠Kf (s.ln+1):=λ q=>by rw[i] at q;injection q with q;exact U89 j q
 rcases vU s with e|⟨l,e,k⟩<;>rw[e]
 unfold nl;by_cases b:s.lv=0;rw[Wy b,b];exact⟨λ _=>List.getLast?_concat,λ _=>oO⟩;rw[Wg b];refine⟨λ q=>?_,λ q=>absurd q ne⟩;rw[show ar ⟨.N,s.lv,s.ln+1,s.gd⟩=4 from Wy (Nat.pos_of_ne_zero b)] at q;contradiction;refine⟨λ q=>?_,λ q=>absurd q ne⟩;rcases k with rfl|⟨d,k,f,rfl⟩|⟨d,f,rfl⟩
 exact absurd q<|cj (P:=λ x:Int=>x≠0) (λ _=>by decide) λ _=>cj (P:=λ x:Int=>x≠0) (λ _=>by decide) λ h=>absurd rfl h;exact absurd q<|cj (P:=λ x:Int=>x≠0) (λ _=>by decide) λ _=>by decide
 exact absurd q<|cj (P:=λ x:Int=>x≠0) (λ _=>by decide) λ _=>by decide
def xj {l:List Nat}(h:l=[]\/l.getLast?=Kf 10):(ar (scan st0 l)=0)↔(scan st0 l).gd.getLast?=Kf (scan st0 l).ln:=by
 rcases h with rfl|h
 exact⟨λ _=>rfl,λ _=>oO⟩;obtain⟨a,rfl⟩:∃a,l=a++[10]:=by
  refine⟨l.dropLast,?_⟩;have b:l≠[]:=λ e=>by rw[e] at h;contradiction
  have:=List.dropLast_concat_getLast b;rw[List.getLast?_eq_some_getLast b] at h;injection h with h
  rw[h] at this;exact this.symm
 rw[aE];exact zL _<|qW a st0 ⟨0,rfl,Zv _⟩
section
def iI {r:List IS}{K:F->Sg'->Prop}(v:V)(f:∀b:V->aa->Prop,b v c'->aU P n e l c b)(h:aJ P pr (n+1) r ⟨l.set i<|some v,c'⟩ K):aJ P pr (n+2) (.asg i e::r) ⟨l,c⟩ K:=by exact f _ h
def bQ {t:IE}{a b r:List IS}{K:F->Sg'->Prop}(q:Bool)(j:∀i:Bool->aa->Prop,i q c'->fN P n t l c i)(h:aJ P pr n (if q then a else b) ⟨l,c'⟩<|λ f τ=>match f with | .next=>aJ P pr (n+1) r τ K|f=>K f τ):aJ P pr (n+2) (.if_ t a b::r) ⟨l,c⟩ K:=by refine j _ ⟨λ e=>?_,λ e=>?_⟩;subst e;exact h;subst e;exact h
def aM {K:F->Sg'->Prop}(h:K .next σ):aJ P pr (n+1) [] σ K:=by exact h
def dt {fs:List (Str×V)}{b:Str}{K:aa->Prop}(j:ae c k=Kf (.inst P.C dk))(e:ae c dk=Kf (.ns fs))(f:P.attr b=true)(i:fs.length<=1000)(h:K<|cset c dk<|.ns<|a6 fs b v):bf P c (.obj k) b v K:=by show fJ (ae c k) _;rw[j];refine⟨rfl,f,?_⟩;rw[e];exact⟨i,h⟩
def dA {o:IE}{f:Str}{r:List IS}{K:F->Sg'->Prop}(v:V){fs:List (Str×V)}(q:∀b:V->aa->Prop,b v c'->aU P n e l c b)(t:∀b:V->aa->Prop,b (.obj k) c'->aU P n o l c' b)(u:ae c' k=Kf (.inst P.C dk)) (i:ae c' dk=Kf (.ns fs)) (j:P.attr f=true) (p:fs.length<=1000)(h:aJ P pr (n+1) r ⟨l,cset c' dk<|.ns<|a6 fs f v⟩ K):aJ P pr (n+2) (.asgA o f e::r) ⟨l,c⟩ K:=by exact q _<|t _<|dt u i j p h
def yw {o:IE}{f:Str}{r:List IS}{K:F->Sg'->Prop}(v:V){fs:List (Str×V)}(t:∀b:V->aa->Prop,b v c'->aU P n e l c b)(u:∀b:V->aa->Prop,b (.obj k) c'->aU P n o l c' b)(w:ae c' k=Kf (.inst P.C dk)) (i:ae c' dk=Kf (.ns fs)) (p:P.attr f=true) (q:fs.length<=1000)(h:aJ P pr (n+1) r ⟨l.set j<|some v,cset c' dk<|.ns<|a6 fs f v⟩ K):aJ P pr (n+2) (.asgA2 o f j e::r) ⟨l,c⟩ K:=by exact t _<|u _<|dt w i p q h
def AQ {o:IE}{e:Str}{fs:List (Str×V)}(j:∀b:V->aa->Prop,b (.obj k) c->aU P n o l c b)(p:ae c k=Kf (.inst P.C dk)) (f:ae c dk=Kf (.ns fs)) (i:P.attr e=true) (hl:look fs e=Kf v) (q:kQ v=true) (b:V->aa->Prop) (h:b v c):aU P (n+1) (.attr o e) l c b:=by refine j _ ⟨i,?_⟩;show fJ (ae c k) _;rw[p];refine⟨rfl,?_⟩;rw[f];show aC (look fs e) _;rw[hl];exact⟨q,h⟩
def bt {b:Str}{fs:List (Str×V)}(hi:av l i=Kf (.obj k))(o:ae c k=Kf (.inst P.C dk)) (e:ae c dk=Kf (.ns fs)) (f:P.attr b=true) (hl:look fs b=Kf v) (p:kQ v=true) (j:V->aa->Prop) (h:j v c):aU P (n+2) (.attr (.v i) b) l c j:=
 AQ (n:=n+1) (k:=k) (cJ hi) o e f hl p j h
def iM {r:List IS}{K:F->Sg'->Prop}(v:V)(f:∀b:V->aa->Prop,b v c'->aU P n e l c b)(h:aJ P pr (n+1) r ⟨(l.set i<|some v).set j<|some v,c'⟩ K):aJ P pr (n+2) (.asg2 i j e::r) ⟨l,c⟩ K:=by exact f _ h
def rb {a b:IE}{r:List IS}{K:F->Sg'->Prop}(u v:D)(f:∀e:V->aa->Prop,e (.d u) c->aU P n a l c e)(hb:∀e:V->aa->Prop,e (.d v) c->aU P n b l c e)(h:aJ P pr (n+1) r ⟨(l.set j<|some<|.d v).set i<|some<|.d u,c⟩ K):aJ P pr (n+2) (.unp2 i j a b::r) ⟨l,c⟩ K:=by exact f _<|hb _ ⟨⟨_,_,rfl,rfl⟩,h⟩
def CK {b:Nat}(hi:av l i=Kf (.obj j))(k:ae c j=Kf (.list xs))(hb:b∉dom c)(e:V->aa->Prop)(h:e (.obj b)<|c++[(b,.bound "list.append" j)]):aU P (n+2) (.bnd (.v i) b) l c e:=by refine cJ (P:=P) (n:=n) hi (λ u f=>jn u λ j=>dB (ae f j) λ _=>b∉dom f/\e (.obj b) (f++[(b,.bound "list.append" j)])) ?_;show dB (ae c j) _;rw[k];exact⟨hb,h⟩
def th {g:Nat}(j:ae c g=Kf (.list (gd.map λ m:Nat=>D.int m)))(f:gd.getLast?=Kf m)(hl:gd.length<=big){K:D->Prop}(h:K<|.int m):f8 c (.obj g) (.d<|.int<|-1) K:=by
 have i:gd≠[]:=λ e=>by rw[e] at f;contradiction
 have b:=List.length_pos_iff.mpr i;have k:ca c (.obj g)=Kf (false,gd.map λ m:Nat=>D.int m):=by show (match ae c g with|some (.list xs)=>Kf (false,xs)|_=>Wq)=_;rw[j]
 show aC (ca c<|.obj g) _;rw[k];refine⟨by rw[Zu];exact hl,gd.length-1,.int m,?_,?_,h⟩;rw[Zu];unfold seqIndex?;dsimp only[show ((-1:Int)<0) from by decide,if_true];rw[Wy<|by simp only[Xv,decide_eq_true_eq];exact U38 b];congr 1;exact U26;rw[Qp] at f;rw[Xy,f];rfl
def vD (U b:aa)(d:D):vW U b (.d d) (.d d):=.inl ⟨rfl,trivial⟩
def d6 {a b:IE}{K:Bool->aa->Prop}(u v:V)(f:∀e:V->aa->Prop,e u c->aU P n a l c e)(hb:∀e:V->aa->Prop,e v c->aU P n b l c e)(h:gH c op u v<|λ r=>K r c):fN P (n+1) (.cmp op a b) l c K:=by exact f _<|hb _ h
def r5 {a b:IE}{K:V->aa->Prop}(u v:V)(f:∀e:V->aa->Prop,e u c->aU P n a l c e)(hb:∀e:V->aa->Prop,e v c->aU P n b l c e)(h:gH c op u v<|λ r=>K (.d<|.bool r) c):aU P (n+1) (.cmp op a b) l c K:=by exact f _<|hb _ h
def bS {a b:IE}{K:V->aa->Prop}(u v:V)(f:∀e:V->aa->Prop,e u c->aU P n a l c e)(hb:∀e:V->aa->Prop,e v c->aU P n b l c e)(h:f8 c u v<|λ d=>K (.d d) c):aU P (n+1) (.item a b) l c K:=by exact f _<|hb _ h
noncomputable abbrev dF:Str:=Qq "study_level"
noncomputable abbrev cf:Str:=Qq "code"
noncomputable abbrev oJ:Str:=Qq "goodlines"
noncomputable abbrev n6:Str:=Qq "continuation"
noncomputable def ao (l:List Nat):List D:=l.map λ m:Nat=>D.int m
def rh (x:Str):Str:=⟨x.cps.map tr⟩
def fin (x:Str):St:=scan st0<|(sg x).map tr
def fY (fs:List<|Str×V)(x:Str):List (Str×V):=
 a6 (a6 (a6 fs dF<|.d<|.int 1) oJ<|.d<|.lst<|ao<|ax<|fin x) n6 (.d<|.int<|ar<|fin x)
structure TextOk (x:Str):Prop where
 ascii:∀ch∈sg x,ch<128
 ends:sg x=[]\/(sg x).getLast?=Kf 10
 len:(sg x).length+5<=big
structure AttrOk (P:Pm):Prop where
 sl:P.attr dF=true
 co:P.attr cf=true
 gl:P.attr oJ=true
 ct:P.attr n6=true
def vL:cf≠dF:={3}
def iO (fs:List<|Str×V)(x:Str)(v:V):(a6 fs x v).length<=fs.length+1:=by rw[jx];split<;>omega
def dU {z:Str}(b:y.length≠0)(h:(sg z).length<=(sg y).length)(e:x.length<=m):(Txt.replace x y z).length<=m:=by have:=b3 (x:=x) b h;rw[am,am] at this;exact {e,this}
def lP (x:Str):sg (rh x)=(sg x).map tr:=by simp[sg,rh]
def Aw (c:Nat):tr c=10\/tr c=34\/tr c=35\/tr c=39\/tr c=40\/tr c=41\/tr c=92\/tr c=120:=by
 refine cj (P:=λ t=>t=10\/t=34\/t=35\/t=39\/t=40\/t=41\/t=92\/t=120) (λ _=>by decide) λ _=>cj (P:=λ t=>t=10\/t=34\/t=35\/t=39\/t=40\/t=41\/t=92\/t=120) (λ _=>by decide) λ _=>cj (P:=λ t=>t=10\/t=34\/t=35\/t=39\/t=40\/t=41\/t=92\/t=120) (λ h=>?_) λ _=>by decide
 rcases h with h|h|h|h|h<;>rw[h]<;>decide
structure SqOk (y:Str)(s:St):Prop where
 last:sg y=[]\/(sg y).getLast?=Kf 10
 signs:vn y
 len:(sg y).length+5<=big
 scan:scan st0 (sg y)=s
def HW (T:TextOk x):SqOk (df<|rh x) (fin x):=by
 have hl:sg (rh x)=[]\/(sg<|rh x).getLast?=Kf 10:=by
  rw[lP];rcases T.ends with h|h
  exact .inl<|by rw[h];rfl
  exact .inr<|by rw[List.getLast?_map,h];rfl
 have f:(sg<|rh x).getLast?≠Kf 120:=by rcases hl with h|h<;>rw[h]<;>simp
 have b:(sg<|df<|rh x).length<=(sg<|rh x).length:=by unfold df;refine Zk (b3 {4}<|{4})<|Zk (b3 {4}<|{4})<|Zk (b3 {4}<|{4})<|Zk (b3 {4}<|{4})<|b3 {4}<|{4}
 have e:(sg<|rh x).length=(sg x).length:=by rw[lP,Zu]
 refine⟨?_,λ c i=>?_,by have:=T.len;exact U97 b e this,by rw[oB _ f,lP];rfl⟩;rcases hl with h|h
 refine .inl (List.length_eq_zero_iff.mp ?_);rw[h] at b;exact Nat.le_zero.mp b;exact .inr<|by rw[m8 _ f,h]
 rcases pF i with h|h|h
 simp[h];simp[h];rw[lP] at h;obtain⟨a,_,rfl⟩:=List.mem_map.mp h;exact Aw a
open Classical in
theorem Fj {s:St}{i:Int}(k:lZ y (sg y).length s i):ar s=if (i≠2/\i≠3/\0<s.lv) then 4 else i:=by
 rcases k with ⟨h,e⟩|⟨_,_,f,h,e⟩
 have j:=h.2.2.2 rfl;have l:ci s.md=Wq:=by rcases j with q|q<;>rw[q]<;>rfl
 unfold ar;rw[l];dsimp only;rcases j with q|q
 rw[q,Wg<|λ q=>by cases q.1] at e;subst e;rw[q];by_cases b:0<s.lv;rw[Wy b,Wy ⟨{4},{4},b⟩];rw[Wg b,Wg (show ¬Md.N=Md.Nb by simp),Wg<|λ q=>b q.2.2];rw[q,Wy ⟨rfl,rfl⟩] at e;subst e;rw[q];by_cases b:0<s.lv;rw[Wy b,Wy ⟨{4},{4},b⟩];rw[Wg b,Wy (show Md.Nb=Md.Nb from rfl),Wg<|λ q=>b q.2.2];unfold ar;rw[h];dsimp only;rw[<-e,Wg];intro q;rw[e] at q;split at q;exact q.1 rfl;exact q.2.1 rfl
noncomputable def B3:List IS:=[.if_ (.and (.cmp .NotEq (.v 2) (.g (.d (.int 2)))) (.and (.cmp .NotEq (.v 2) (.g (.d (.int 3)))) (.cmp .Gt (.v 3) (.c (.int 0))))) [.asg 2 (.g (.d (.int 4)))] [],.asgA (.v 0) (Qq "continuation") (.v 2),.assert (.cmp .Eq (.cmp .Eq (.v 2)<|.g<|.d<|.int 0)<|.cmp .Eq (.item (.v 5)<|.c<|.int<|-1)<|.v 4),.if_ (.cmp .NotEq (.item (.v 5) (.c (.int (-1)))) (.v 4)) [.expr (.call (.v 6) [(.v 4)] Wq)] []]
def tR {g b:Nat}{fs z:List (Str×V)}(A:AttrOk P)(W:Wf c)(hk:ae c k=Kf (.inst P.C dk))(u:ae c dk=Kf (.ns fs))(hsz:fs.length<=900)(hg:g∉dom c) (hb:b∉dom c) (M:g≠b) (R:a6 (a6 fs dF<|.d<|.int 1) oJ (.obj g)=z) (T:TextOk x) (hsc:scan st0 (sg y)=fin x) (Y:sg y=[]\/(sg y).getLast?=Kf 10) (hlen:(sg y).length+5<=big){s:St} {w:Int} {r:List (Option V)} (hO:lZ y (sg y).length s w) (hs:s=scan st0 (sg y)) {K:V->aa->Prop} (hK:K (.d .none)<|cset c dk<|.ns<|fY fs x) :aJ P (dom c) (n+100) B3 ⟨slots k g b y w s.lv s.ln (sg y).length (sg y).length r,fK c dk g b z s.gd⟩ (λ f τ=>∃v' c',vW τ.c c' (gA f) v'/\cK τ.c c' c'/\(∀j∈dom c,j∈dom c')/\K v' c'):=by
 have kne:k≠dk:=λ e=>by rw[e,u] at hk;simp at hk
 have kd:=aj hk;have dkd:=aj u;have ngk:k≠g:=λ e=>hg<|e▸kd;have ngd:dk≠g:=λ e=>hg<|e▸dkd;have nbk:k≠b:=λ e=>hb<|e▸kd;have nbd:dk≠b:=λ e=>hb<|e▸dkd;have I:=Fj hO;have get:=λ (f:List<|Str×V) gd j=>rQ (c:=c) (f:=f) hg hb M dkd gd j;have hgd:s.gd.length<=big:=by rw[hs];have:=xW st0<|sg y;have h3:st0.gd.length=1:=rfl;exact U96 hlen this h3
 obtain⟨m,G,hm2⟩:=qW (sg y) st0 ⟨0,rfl,Zv _⟩;rw[<-hs] at G hm2;have J:=xj Y;rw[<-hs] at J;unfold B3;have tail:∀t,aJ P (dom c) (t+90) [.asgA (.v 0) (Qq "continuation") (.v 2),.assert (.cmp .Eq (.cmp .Eq (.v 2)<|.g<|.d<|.int 0)<|.cmp .Eq (.item (.v 5)<|.c<|.int<|-1)<|.v 4),.if_ (.cmp .NotEq (.item (.v 5) (.c (.int (-1)))) (.v 4)) [.expr (.call (.v 6) [(.v 4)] Wq)] []] ⟨slots k g b y (ar s) s.lv s.ln (sg y).length (sg y).length r,fK c dk g b z s.gd⟩ (λ f τ=>∃v' c',vW τ.c c' (gA f) v'/\cK τ.c c' c'/\(∀j∈dom c,j∈dom c')/\K v' c'):=by
  intro t;have hf2l:z.length<=1000:=by rw[<-R];have p:=iO (a6 fs dF<|.d<|.int 1) oJ<|.obj g;have o:=iO fs dF<|.d<|.int 1;exact {hsz,p,o}
  refine dA (n:=t+88) (.d<|.int<|ar s) (k:=k) (dk:=dk) (fs:=z) (c':=fK c dk g b z s.gd) (λ l h=>h) (λ l h=>h)
   (by rw[get,Wg nbk,Wg ngk,Wg kne];exact hk) (by rw[get,Wg nbd,Wg ngd,Wy rfl]) A.ct hf2l ?_
  have e3:cset (fK c dk g b z s.gd) dk (.ns<|a6 z n6<|.d<|.int<|ar s)=fK c dk g b (a6 z n6<|.d<|.int<|ar s) s.gd:=by unfold fK;rw[bd (by rw[al,ai];simp[dkd]),bd (by rw[ai];exact dkd),bn]
  rw[e3];generalize hf3:a6 z n6 (.d<|.int<|ar s)=f3;have f3w:∀U U',(∀j∈dom c,j∈dom U')->g∈dom U'->mA U U' f3 f3:=λ U U' p o=>by rw[<-hf3,<-R];have v1:vW U U' (.obj g) (.obj g):=.inl ⟨rfl,o⟩;have v2:vW U U' (.d<|.int 1) (.d<|.int 1):=.inl ⟨rfl,trivial⟩;have v3:vW U U' (.d<|.int<|ar s) (.d<|.int<|ar s):=.inl ⟨rfl,trivial⟩;exact bW v3<|bW v1<|bW v2<|dp p<|W.fs u
  have CE:Cel (fK c dk g b f3) k g b (dom c):=qS W kd hg hb M u<|f3w _ _ (λ j hj=>by rw[cT];simp[hj])<|by rw[cT];simp
  have fine:∀gd,gd=ax s->∃v' c',vW (fK c dk g b f3 gd) c' (.d .none) v'/\cK (fK c dk g b f3 gd) c' c'/\(∀j∈dom c,j∈dom c')/\K v' c':=by
   intro gd hgd';refine⟨.d .none,cset c dk<|.ns<|fY fs x,.inl ⟨rfl,trivial⟩,?_,λ j hj=>by rw[ai];exact hj,hK⟩;refine W.out u (f:=f3) (λ j p o=>?_) (by rw[get,Wg nbd,Wg ngd,Wy rfl]) ?_;rw[get,Wg (λ e:j=b=>hb<|by rw[<-e];exact o),Wg (λ e:j=g=>hg<|by rw[<-e];exact o),Wg p];rw[<-hf3,<-R];unfold fY;have hfin:fin x=s:=by rw[hs,hsc]
   rw[hfin]
   have v1:vW (fK c dk g b (a6 (a6 (a6 fs dF<|.d<|.int 1) oJ<|.obj g) n6<|.d<|.int<|ar s) gd) (cset c dk<|.ns<|a6 (a6 (a6 fs dF<|.d<|.int 1) oJ<|.d<|.lst<|ao<|ax s) n6<|.d<|.int<|ar s) (.obj g) (.d<|.lst<|ao<|ax s):=
    .inr ⟨g,ao<|ax s,rfl,by rw[get,Wg M,Wy rfl,hgd'];rfl,rfl,by rw[ai];exact hg⟩
   refine bW (vD _ _ _)<|bW v1<|bW (vD _ _ _)<|dp (λ j hj=>by rw[ai];exact hj)<|W.fs u
  have itl:∀n'' (l:V->aa->Prop),l (.d<|.int m) (fK c dk g b f3 s.gd)->aU P (n''+2) (.item (.v 5)<|.c<|.int<|-1) (slots k g b y (ar s) s.lv s.ln (sg y).length (sg y).length r) (fK c dk g b f3 s.gd) l:=λ n'' l h=>
   bS (n:=n''+1) (.obj g) (.d<|.int<|-1) (λ l h=>h) (λ l h=>h) (th (CE.g_ s.gd) G hgd h)
  refine b7 (n:=t+87) (c':=fK c dk g b f3 s.gd) (λ l h=>?_) ?_;refine d6 (n:=t+86) (.d<|.bool<|ar s==0) (.d<|.bool<|(m:Int)==s.ln) (λ l h=>h) (λ l h=>r5 (n:=t+85) (.d<|.int m) (.d<|.int s.ln) (itl<|t+83) (λ l h=>h) h) ?_;have:((ar s==0)==((m:Int)==s.ln))=true:=by rw[G] at J;by_cases i:m=s.ln;rw[J.mpr<|by rw[i]];simp[i];have p:(ar s==0)=false:=beq_eq_false_iff_ne.mpr λ e=>i (by have:=J.mp e;injection this);have o:((m:Int)==s.ln)=false:=beq_eq_false_iff_ne.mpr λ e=>i<|Nat.le_antisymm (Om.lz {0,(Int.le_of_eq e)})<|Om.lz {0,(Int.le_of_eq e.symm)};rw[p,o];rfl
  show l ((ar s==0)==((m:Int)==s.ln)) _;rw[this];exact h;refine bQ (n:=t+86) (c':=fK c dk g b f3 s.gd) (decide<|m≠s.ln) (λ l h=>?_) ?_;refine d6 (n:=t+85) (.d<|.int m) (.d<|.int s.ln) (itl<|t+83) (λ l h=>h) ?_;show l ((m:Int) != s.ln) _;have:((m:Int) != s.ln)=decide (m≠s.ln):=by by_cases i:m=s.ln;simp[i];have o:((m:Int) != s.ln)=true:=bne_iff_ne.mpr λ e=>i (Nat.le_antisymm (Om.lz {0,(Int.le_of_eq e)})<|Om.lz {0,(Int.le_of_eq e.symm)});rw[o];simp[i]
  rw[this];exact h;by_cases i:m=s.ln;rw[Wg<|by simp[i]];refine aM<|aM<|fine _ ?_;unfold ax;rw[G,i,Wy rfl];rw[Wy<|by simp[i]];refine ny (n:=t+81) CE (m:=s.ln) rfl rfl hgd<|aM<|fine _ ?_;unfold ax;rw[G,Wg<|λ q=>i<|by injection q]
 have hq:∀t (l:Bool->aa->Prop) cc,l (decide<|w≠2/\w≠3/\0<s.lv) cc->fN P (t+20) (.and (.cmp .NotEq (.v 2)<|.g<|.d<|.int 2)<|.and (.cmp .NotEq (.v 2)<|.g<|.d<|.int 3)<|.cmp .Gt (.v 3)<|.c<|.int 0) (slots k g b y w s.lv s.ln (sg y).length (sg y).length r) cc l:=by
  intro t l cc h;conv=>whnf
  refine⟨λ p=>?_,λ p=>?_⟩;have p:w=2:=bne_eq_false_iff_eq.mp p;rw[decide_eq_false<|λ q=>q.1 p] at h;exact h;have p:w≠2:=bne_iff_ne.mp p;conv=>whnf
  refine⟨λ o=>?_,λ o=>?_⟩;have o:w=3:=bne_eq_false_iff_eq.mp o;rw[decide_eq_false<|λ q=>q.2.1 o] at h;exact h;have o:w≠3:=bne_iff_ne.mp o;show l (decide<|(0:Int)<s.lv) cc;have:decide ((0:Int)<s.lv)=decide (w≠2/\w≠3/\0<s.lv):=by by_cases L:0<s.lv;rw[decide_eq_true<|U93 L,decide_eq_true ⟨p,o,L⟩];rw[decide_eq_false<|U92 L,decide_eq_false<|λ q=>L q.2.2]
  rw[this];exact h
 refine bQ (n:=n+98) (c':=fK c dk g b z s.gd) _ (λ l h=>hq (n+78) l _ h) ?_;by_cases L:w≠2/\w≠3/\0<s.lv;rw[Wy<|by rw[decide_eq_true L]];rw[Wy L] at I;refine aN (n:=n+96) (.d<|.int 4) (λ l h=>h)<|aM ?_;have:=tail<|n+9;rw[I] at this;exact this;rw[Wg<|by rw[decide_eq_false L];decide];rw[Wg L] at I;refine aM (n:=n+97) ?_;have:=tail<|n+9;rw[I] at this;exact this
def xQ {g b td:Nat}{fs:List (Str×V)}(A:AttrOk P)(htd:td=P.td)(htr:P.tr=tr)(W:Wf c)(t:ae c k=Kf (.inst P.C dk))(o:ae c dk=Kf (.ns fs))(u:fs.length<=900)(hlv:look fs dF=Kf (.d<|.int 0)) (hco:look fs cf=Kf (.d<|.str x)) (T:TextOk x) (J:g∉dom c) (hb:b∉dom c) (w:g≠b) {K:V->aa->Prop} (hK:K (.d .none)<|cset c dk<|.ns<|fY fs x) :aJ P (dom c) (n+130) (eW td g b) ⟨start [.obj k] 12,c⟩ (λ f τ=>∃v' c',vW τ.c c' (gA f) v'/\cK τ.c c' c'/\(∀j∈dom c,j∈dom c')/\K v' c'):=by
 have kne:k≠dk:=λ e=>by rw[e,o] at t;simp at t
 have kd:=aj t;have dkd:=aj o;have M:x.length<=big:=by have:=T.len;rw[am] at this;exact U63 this
 unfold eW;refine bQ (n:=n+128) false (c':=c) (λ l h=>?_)<|aM ?_;rw[iG];exact bt (n:=n+125) rfl t o A.sl hlv rfl _ h;refine dA (n:=n+127) (.d<|.int 1) (c':=c) (k:=k) (λ l h=>h) (λ l h=>h) t o A.sl {u} ?_;have R:ae (cset c dk<|.ns<|a6 fs dF<|.d<|.int 1) k=Kf (.inst P.C dk):=by rw[aI dkd,Wg kne];exact t
 have p:ae (cset c dk<|.ns<|a6 fs dF<|.d<|.int 1) dk=Kf (.ns<|a6 fs dF<|.d<|.int 1):=by rw[aI dkd,Wy rfl]
 refine aN (n:=n+126) (.d<|.str x) (λ l h=>bt (n:=n+124) rfl R p A.co (by rw[dG,Wg vL];exact hco) rfl _ h) ?_;have htx:(⟨x.cps.map P.tr⟩:Str)=rh x:=by rw[htr];rfl
 refine aN (n:=n+125) (.d<|.str<|rh x) (λ l h=>⟨htd,T.ascii,M,by rw[htx];exact h⟩) ?_;have l0:(rh x).length<=big:=by show (x.cps.map tr).size<=big;rw[Array.size_map];exact M
 have l1:=dU (y:=X 8) (z:=X 1) {4} {4} l0;have l2:=dU (y:=X 4) (z:=X 1) {4} {4} l1;have l3:=dU (y:=X 2) (z:=X 1) {4} {4} l2;have l4:=dU (y:=X 2) (z:=X 1) {4} {4} l3;refine aN (n:=n+124) (.d<|.str _) (λ l h=>⟨l0,{4},{4},h⟩) ?_;refine aN (n:=n+123) (.d<|.str _) (λ l h=>⟨l1,{4},{4},h⟩) ?_;refine aN (n:=n+122) (.d<|.str _) (λ l h=>⟨l2,{4},{4},h⟩) ?_;refine aN (n:=n+121) (.d<|.str _) (λ l h=>⟨l3,{4},{4},h⟩) ?_;refine aN (n:=n+120) (.d<|.str<|df<|rh x) (λ l h=>⟨l4,{4},{4},h⟩) ?_;have SQ:=HW T;generalize df (rh x)=y at SQ ⊢;have hyb:y.length<=big:=by have:=SQ.len;rw[am] at this;exact U63 this
 refine aN (n:=n+119) (.d<|.int 0) (λ l h=>h) ?_;refine iM (n:=n+118) (.d<|.int 0) (λ l h=>h) ?_;have d1:dom (cset c dk<|.ns<|a6 fs dF<|.d<|.int 1)=dom c:=ai ..;have G:g∉dom (cset c dk<|.ns<|a6 fs dF<|.d<|.int 1):=by rw[d1];exact J
 have ngk:k≠g:=λ e=>J<|e▸kd;have ngd:dk≠g:=λ e=>J<|e▸dkd
 refine yw (n:=n+117) (.obj g) (k:=k) (dk:=dk) (fs:=a6 fs dF<|.d<|.int 1) (c':=cset c dk (.ns<|a6 fs dF<|.d<|.int 1)++[(g,.list [.int 0])]) (λ l h=>⟨{4},G,h⟩) (λ l h=>h)
  (by rw[aY G,Wg ngk];exact R) (by rw[aY G,Wg ngd];exact p) A.gl (by have:=iO fs dF<|.d<|.int 1;exact {u,this}) ?_
 have e2:cset (cset c dk (.ns<|a6 fs dF<|.d<|.int 1)++[(g,.list [.int 0])]) dk (.ns<|a6 (a6 fs dF<|.d<|.int 1) oJ<|.obj g)=cset c dk (.ns<|a6 (a6 fs dF<|.d<|.int 1) oJ<|.obj g)++[(g,.list [.int 0])]:=by rw[bd (by rw[d1];exact dkd),bn]
 rw[e2];generalize Y:a6 (a6 fs dF<|.d<|.int 1) oJ (.obj g)=f2;have d2:dom (cset c dk<|.ns f2)=dom c:=ai ..;refine iI (n:=n+116) (.obj b) (c':=fK c dk g b f2 [0]) (λ l h=>CK (n:=n+114) (xs:=[.int 0]) rfl (by rw[aY (by rw[d2];exact J),Wy rfl]) (by rw[al,d2];simp[hb,Ne.symm w]) _ h) ?_;refine rb (n:=n+115) (.int 0) (.int ((sg y).length:Nat)) (λ l h=>h) (λ l h=>⟨hyb,by rw[<-am];exact h⟩) ?_;have vok:∀(U:aa) (v:D),vW U U (.d v) (.d v):=λ U v=>.inl ⟨rfl,trivial⟩;have f2w:∀U L,(∀j∈dom c,j∈dom L)->g∈dom L->mA U L f2 f2:=λ U L I h2=>by rw[<-Y];have v1:vW U L (.obj g) (.obj g):=.inl ⟨rfl,h2⟩;have v2:vW U L (.d<|.int 1) (.d<|.int 1):=.inl ⟨rfl,trivial⟩;exact bW v1<|bW v2<|dp I<|W.fs o
 have CE:Cel (fK c dk g b f2) k g b (dom c):=qS W kd J hb w o<|f2w _ _ (λ j hj=>by rw[cT];simp[hj])<|by rw[cT];simp
 have hl:∀i c,(sg y)[i]?=Kf c->i+1=(sg y).length->c=10:=λ i c' I h2=>by
  rcases SQ.last with q|q
  rw[q] at I;simp at I;rw[Qp,<-h2,Nat.add_sub_cancel,I] at q;injection q
 have hend:sg y≠[]->(sg y)[(sg y).length-1]?=Kf 10:=λ I=>by
  rcases SQ.last with q|q
  exact absurd q I;rw[<-Qp];exact q
 refine dq (n:=n+115)<|yv (n:=n+15) CE hl hend SQ.signs SQ.len (r:=[Wq,Wq,Wq,Wq]) rfl λ s ct r hO hs=>?_;exact tR A W t o u J hb w Y T (SQ.scan) SQ.last SQ.len hO hs hK
end
noncomputable abbrev GH:Str:=Qq "_study1"
def Wf.set (W:Wf c){fs b:List (Str×V)}(e:ae c dk=Kf (.ns fs))(h:mA (cset c dk<|.ns b) (cset c dk<|.ns b) b b):Wf (cset c dk<|.ns b):=
 ⟨W.out e (f:=b) (λ j i k=>by rw[aI<|aj e,Wg i]) (by rw[aI<|aj e,Wy rfl]) h,by rw[ai];exact W.nd⟩
def EndP (c:aa)(K:V->aa->Prop):F->Sg'->Prop:=λ f τ=>∃v' c',vW τ.c c' (gA f) v'/\cK τ.c c' c'/\(∀j∈dom c,j∈dom c')/\K v' c'
def EndP.same {K:V->aa->Prop}{f:F}(W:Wf c')(b:∀j∈dom c,j∈dom c'){d:D}(e:gA f=.d d)(h:K (.d d) c'):EndP c K f ⟨l,c'⟩:=
 ⟨.d d,c',by rw[e];exact vD _ _ _,W.w,b,h⟩
section
def rI {r:List IS}{K:F->Sg'->Prop}(v:V)(f:∀b:V->aa->Prop,b v c'->aU P n e l c b)(h:aJ P pr (n+1) r ⟨l,c'⟩ K):aJ P pr (n+2) (.expr e::r) ⟨l,c⟩ K:=by exact f _ h
def mC {r:List IS}{K:F->Sg'->Prop}(v:V)(f:∀b:V->aa->Prop,b v c'->aU P n e l c b)(h:K (.ret v) ⟨l,c'⟩):aJ P pr (n+2) (.ret (Kf e)::r) ⟨l,c⟩ K:=by exact f _ h
def ou {fs:List (Str×V)}{K:List (Str×V)->Prop}(e:ae c k=Kf (.inst P.C dk))(b:ae c dk=Kf (.ns fs))(h:K fs):jw P c (.obj k) K:=by show fJ (ae c k) _;rw[e];refine⟨rfl,?_⟩;rw[b];exact h
def lx {f:Ww}{j:Str}{fs:List (Str×V)}(hi:av l i=Kf (.obj k))(p:ae c k=Kf (.inst P.C dk))(b:ae c dk=Kf (.ns fs))(e:look fs j=Wq)(q:P.isFn f=true)(o:V->aa->Prop)(h:P.fn f [.obj k] c<|λ v c3=>fo c c3/\o v c3):aU P (n+3) (.umeth (.v i) f j []) l c o:=by rw[s6];refine cJ (n:=n+1) hi _ ?_;refine⟨ou p b e,?_⟩;exact⟨q,h⟩
end
def cm (K:Frag)(a:Ww):FuncData:=(gT K a).getD default
theorem fE:∀(names:List<|Str×NameKind) (n:Nat) (acc:List<|Str×Ww) (x:Str),(acc.lookup x).isSome=true->((cellsFrom n names acc).lookup x).isSome=true
 | [],n,acc,x,h=>h| (name,kind)::r,n,acc,x,h=>by unfold cellsFrom;split;refine fE r _ _ x ?_;rw[Zq];split;rfl;exact h;exact fE r _ _ x h
theorem eU:∀(names:List<|Str×NameKind) (n:Nat) (acc:List<|Str×Ww) (x:Str),(x,NameKind.cell)∈names->((cellsFrom n names acc).lookup x).isSome=true
 | (name,kind)::r,n,acc,x,h=>by
  unfold cellsFrom;rcases Qy.mp h with h|h
  cases h;rw[Wy<|{4}];refine fE r _ _ name ?_;simp;split;exact eU r _ _ x h;exact eU r _ _ x h
def ym (K:Frag)(a:Ww)(ps:List Str):Bool:=
 let fd:=cm K a
 (gT K a).isSome&&codeIn K fd.code fd.qualname&&fd.closure.isEmpty&&(match fd.body with | .stmts _=>true|_=>false)&&decide ps.Nodup &&
 (ps.all λ p=>fd.scope.names.lookup p==Kf .local||fd.scope.names.lookup p==Kf .cell)&&!fd.scope.isCoroutine&&!fd.scope.isGenerator&&fd.scope.kind==.function&&fd.globals==mainGlobals&&fd.builtins==builtinsNs
set_option tactic.hygienic true in
theorem pG {K:Frag}(X:K.In hb)(lim:hb.NoLimit){T:Tb}{rest:List Str}(Ai:ym K a ps=true)(h:∀ws:List Wx,ws.length=ps.length->bindArgs (cm K a) ⟨ws,[]⟩=pure (ps.zip ws)) (J:T.kinds=eT K a) (L:T.names=ps++rest) (M:decide T.names.Nodup=true) :FnK hb a T ps rest (cm K a) (aq K a):=by
 unfold ym at Ai;simp only[Xv] at Ai;obtain⟨⟨⟨⟨⟨⟨⟨⟨⟨⟨P,u⟩,c3⟩,w⟩,R⟩,y⟩,z⟩,G⟩,I⟩,i⟩,j⟩:=Ai;obtain⟨l,f⟩:=Option.isSome_iff_exists.mp P;have e:cm K a=l:=by unfold cm;rw[f];rfl
 have U:eT K a=l.scope.names:=by unfold eT;rw[f]
 have r:l.body=.stmts (aq K a):=by unfold aq;rw[f];dsimp only;rw[e] at w;split at w;rename_i b q;rw[q];contradiction
 rw[e] at u c3 y z G I i j h ⊢;have at_:∃o,hb.get? a=Kf o/\o.data=.func l:=by unfold gT at f;split at f;rename_i o W;split at f;rename_i Y hd;cases f;exact⟨o,X _ _ W,hd⟩;contradiction;contradiction
 refine⟨⟨at_,lim,codeRec_of X u,r,List.isEmpty_iff.mp c3,h,of_decide_eq_true R,λ p t=>?_,by simpa using z,by simpa using G,beq_iff_eq.mp I⟩,J.trans U,L,of_decide_eq_true M,λ p t hc n=>?_,beq_iff_eq.mp i,beq_iff_eq.mp j⟩;have:=Xu.mp y p t;simp only[Bool.or_eq_true] at this;rcases this with q|q
 exact .inl<|beq_iff_eq.mp q;exact .inr ⟨beq_iff_eq.mp q,λ n=>eU _ _ _ _<|mem_of_lookup<|beq_iff_eq.mp q⟩;obtain⟨x,k⟩:=p;subst hc;exact eU _ _ _ _ t
def bF {K:Frag}(X:K.In hb)(lim:hb.NoLimit){T:Tb}{e:List IS}{rest:List Str}(Ai:ym K a ps=true)(b:∀ws:List Wx,ws.length=ps.length->bindArgs (cm K a) ⟨ws,[]⟩=pure (ps.zip ws)) (f:T.kinds=eT K a) (h:T.names=ps++rest) (i:decide T.names.Nodup=true) (comp:aV m T (aq K a)=Kf e) :FnT hb a T e ps rest (cm K a) (aq K a) m:=⟨pG X lim Ai b f h i,comp⟩
def rL {w:Wv}(b:hb.Ns mainGlobals mg)(e:mg x=Kf g)(f:∀c α h,a7 c α h v g):d5 prog w hb x v:=by refine⟨g,f,λ env A s Q i j o k base l=>?_⟩;rw[loadName_read i.kind k];refine Calls.loadGlobal_global (mg:=mg) ?_ e l;rw[j];exact b.keeps base
def rl {w:Wv}{mb:Str->Option Wx}(f:hb.Ns mainGlobals mg)(b:hb.Ns builtinsNs mb)(e:mg x=Wq)(i:mb x=Kf g)(j:∀c α h,a7 c α h v g):d5 prog w hb x v:=by refine⟨g,j,λ env A s Q k l o p base q=>?_⟩;rw[loadName_read k.kind p];refine Calls.loadGlobal_builtin (mg:=mg) (mb:=mb) ?_ e ?_ i q;rw[l];exact f.keeps base;rw[o];exact b.keeps base
def mg_of {K:Frag}(X:K.In hb)(f:hb.Ns mainGlobals mg)(h:(K.lookup mainGlobals).isSome=true)(x:Str):mg x=nsFind (nsOf K mainGlobals) x:=by obtain⟨o,e⟩:=Option.isSome_iff_exists.mp h;obtain⟨k,l,p,b,i,q,j⟩:=f;rw[X _ _ e] at b;injection b with b;subst b;unfold nsOf;rw[e];dsimp only;rw[i];exact (j x).symm
def Wf.drop (W:Wf c){b:Nat}{o:O}(f:b∉dom c):cK (c++[(b,o)]) c c:=by rw[celW_iff];intro p j;obtain⟨k,i,l⟩:=celW_iff.mp W.w p j;have q:=aj i;exact⟨k,by rw[aY f,Wg (λ e:p.1=b=>f<|by rw[<-e];exact q)];exact i,gU (λ _ h=>h) l⟩
def iN (a:Int){m:Int}(h:0<m):0<=a.fmod m/\a.fmod m<m:=⟨Int.fmod_nonneg_of_pos a h,Int.fmod_lt_of_pos a h⟩
def xJ (l:List Int):PyData.canLayAll0 (dQ<|l.map .int)=true/\PyData.depthAll (dQ<|l.map .int)=0:=by induction l with|nil=>exact⟨rfl,rfl⟩|cons a l rH=>obtain⟨b,e⟩:=rH;exact⟨by show (true&&PyData.canLayAll0 (dQ<|l.map .int))=true;rw[b];rfl,by show max 0 (PyData.depthAll<|dQ<|l.map .int)=0;rw[e];rfl⟩
section
end
section
open PySem.StrLaws PySem.Builtin.Str
def l9 (x:Str){hi:Nat}(j:hi<=x.length):StrLaws.At x ⟨#[10]⟩ hi i↔(sg x)[i]?=Kf 10/\i<hi:=by have h:=subAt_one x 10 i;constructor;intro e_;obtain⟨b,e⟩:=e_;have f:i+1<=hi:=b;exact⟨h.mp ⟨Zk b j,e⟩,by exact U74 f⟩;intro e_;obtain⟨b,e⟩:=e_;exact⟨(show i+1<=hi by exact U82 e),(h.mpr b).2⟩
def og {hi:Nat}(b:hi<=x.length):(cw x ⟨#[10]⟩ 0 hi=-1/\∀i,i<hi->(sg x)[i]?≠Kf 10)\/∃i:Nat,cw x ⟨#[10]⟩ 0 hi=(i:Int)/\i<hi/\(sg x)[i]?=Kf 10/\∀k,i<k->k<hi->(sg x)[k]?≠Kf 10:=by
 unfold cw;rw[last_eq];have key:=last_run x ⟨#[10]⟩ hi (List.range' 0<|hi+1-0) [] Wq (λ _ h=>nomatch h) (λ _ h=>nomatch h)<|by simpa using List.pairwise_lt_range' (s:=0) (n:=hi+1-0)
 have mem:∀i,i<hi->i∈[]++List.range' 0 (hi+1-0):=λ i h=>by simp[List.mem_range'];exact {h}
 cases e:(forIn (List.range' 0<|hi+1-0) Wq<|lastBody x ⟨#[10]⟩ hi).run with|none=>simp only[e] at key;exact .inl ⟨rfl,λ i h q=>key i (mem i h)<|(l9 x b).mpr ⟨q,h⟩⟩|some a=>simp only[e] at key;obtain⟨f,j⟩:=(l9 x b).mp key.1;exact .inr ⟨a,rfl,j,f,λ k l h q=>key.2 k (mem k h) l<|(l9 x b).mpr ⟨q,h⟩⟩
def oM {hi:Nat}(w:hi<=x.length)(h:∃j:Nat,i<=j/\j<hi/\(sg x)[j]?=Kf 10):∃j:Nat,fA x ⟨#[10]⟩ i hi=(j:Int)/\i<=j/\j<hi/\(sg x)[j]?=Kf 10/\∀m:Nat,i<=m->m<j->(sg x)[m]?≠Kf 10:=by
 unfold fA;rw[occ_eq,me x ⟨#[10]⟩ hi _ i (λ m p=>by have:=List.mem_range'_1.mp p;exact {this.1})];have e:∀m,(decide (m+(⟨#[10]⟩:Str).length<=hi)&&subAt x ⟨#[10]⟩ m)=true↔(sg x)[m]?=Kf 10/\m<hi:=λ m=>by simp only[Xv,decide_eq_true_eq];exact l9 x w
 cases u:(List.range' i<|hi+1-i).find? (λ i=>decide (i+(⟨#[10]⟩:Str).length<=hi)&&subAt x ⟨#[10]⟩ i) with
 |none=>refine bc λ M k=>?_;obtain⟨j,y,hl,z⟩:=h;refine k ?_;exact absurd ((e j).mpr ⟨z,hl⟩)<|List.find?_eq_none.mp u j<|List.mem_range'_1.mpr<|U32 y hl
 |some j=>
  obtain⟨G,I,J,hl,l⟩:=List.find?_eq_some_iff_append.mp u;obtain⟨L,r⟩:=(e j).mp G;have o:j∈List.range' i (hi+1-i):=by rw[hl];simp
  have t:=(List.mem_range'_1.mp o).1;refine⟨j,rfl,t,r,L,λ m p f q=>?_⟩;have b:m∈List.range' i (hi+1-i):=List.mem_range'_1.mpr<|U140 r p f;rw[hl] at b;have pw:(I++j::J).Pairwise (·<·):=by rw[<-hl];exact List.pairwise_lt_range'
  rcases Qu.mp b with b|b
  have:=l m b;rw[(e m).mpr ⟨q,by exact {r,f}⟩] at this;contradiction;rcases Qy.mp b with rfl|b
  exact Om.ff {f};have:=(List.pairwise_cons.mp (List.pairwise_append.mp pw).2.1).1 m b;exact Om.ff {f,this}
noncomputable def ay:List Nat->Nat->Nat
 |_,0=>0| [],_+1=>0|c::l,n+1=>if c=10 then 1+ay l n else 1+ay l (n+1)
noncomputable def aG:List Nat->Nat
 | []=>0|c::l=>(if c=10 then 1 else 0)+aG l
def EW {c:Nat}{l:List Nat}:ay (c::l) (n+1)=if c=10 then 1+ay l n else 1+ay l (n+1):=rfl
def zf {c:Nat}{l:List Nat}:aG (c::l)=(if c=10 then 1 else 0)+aG l:=rfl
def cx (l:List Nat):ay l 0=0:=by cases l<;>rfl
def kH (l:List Nat):∀(n:Nat),n<aG l->ay l n<ay l (n+1)/\l[ay l (n+1)-1]?=Kf 10/\∀k,ay l n<=k->k<ay l (n+1)-1->l[k]?≠Kf 10:=by
 induction l with|nil=>intro n h;exact absurd h<|Nat.not_lt_zero _|cons c l rH=>
  intro n h;rw[zf] at h;by_cases i:c=10;subst i;rw[Wy rfl] at h
  cases n with
  |zero=>
   have e:ay (10::l) 1=1:=by rw[EW,Wy rfl];cases l<;>rfl
   rw[show (0:Nat)+1=1 from rfl,e];rw[cx];exact⟨by exact U139,rfl,λ k _ f=>by exact (U138 f).elim⟩
  |succ n=>
   obtain⟨j,p,o⟩:=rH n {h};have q:ay (10::l) (n+1)=1+ay l n:=by rw[EW,Wy rfl]
   have r:ay (10::l) (n+1+1)=1+ay l (n+1):=by rw[EW,Wy rfl]
   rw[q,r];refine⟨by exact {j},?_,λ k f b=>?_⟩;simp only[show 1+ay l (n+1)-1=(ay l (n+1)-1)+1 by exact U136 j,List.getElem?_cons_succ];exact p;rw[show k=(k-1)+1 by exact U130 f,List.getElem?_cons_succ];exact o (k-1) (U129 f)<|U128 f b
  rw[Wg i,Nat.zero_add] at h;obtain⟨j,p,o⟩:=rH n h;have r:ay (c::l) (n+1)=1+ay l (n+1):=by rw[EW,Wg i]
  have t:0<ay l (n+1):={j};rw[r]
  cases n with
  |zero=>rw[cx];rw[cx] at o;refine⟨by exact {1},?_,λ k f b=>?_⟩;simp only[show 1+ay l (0+1)-1=(ay l (0+1)-1)+1 by exact U131 t,List.getElem?_cons_succ];exact p;cases k with|zero=>simp[i]|succ k=>simp only[List.getElem?_cons_succ];exact o k (Zj _)<|U133 b
  |succ n=>
   have q:ay (c::l) (n+1)=1+ay l (n+1):=by rw[EW,Wg i]
   rw[q];refine⟨by exact {j},?_,λ k f b=>?_⟩;simp only[show 1+ay l (n+1+1)-1=(ay l (n+1+1)-1)+1 by exact U131 t,List.getElem?_cons_succ];exact p;rw[show k=(k-1)+1 by exact U130 f,List.getElem?_cons_succ];exact o (k-1) (U129 f)<|U128 f b
def wB (l:List Nat):(l=[]\/l.getLast?=Kf 10)->ay l (aG l)=l.length:=by
 induction l using bj with
 |nil=>intro _;exact rfl|zero c=>
  intro h;have:c=10:=by simpa using h
  subst this;rfl
 |cons c d l rH1 rH2=>
  intro h;have f:(d::l).getLast?=Kf 10:=by simpa [List.getLast?_cons_cons] using h
  have b:=rH2<|.inr f;have i:0<aG (d::l):=by cases j:aG (d::l) with|zero=>rw[j] at b;contradiction|succ n=>exact {1}
  rw[zf];by_cases e:c=10;rw[Wy e,Nat.add_comm 1,EW,Wy e,b];dsimp only[Qz];exact Om.an {1} {1};rw[Wg e,Nat.zero_add];obtain⟨m,k⟩:∃m,aG (d::l)=m+1:=⟨_,(Nat.succ_pred_eq_of_pos i).symm⟩;rw[k] at b ⊢;rw[EW,Wg e,b];dsimp only[Qz];exact Om.an {1} {1}
def fZ (l:List Nat)(h:m<n)(b:n<=aG l):ay l m<ay l n:=by induction n with|zero=>exact (Om.ff {h}).elim|succ n ih=>have:=(kH l n<|U74 b).1;by_cases q:m=n;subst q;exact this;have:=ih (U124 h q)<|U73 b;exact U123 ‹_› this
theorem kM (l:List Nat):∀n,n<=aG l->ay l n<=l.length
 |0,_=>by rw[cx];exact Zj _|n+1,h=>by obtain⟨e,b,_⟩:=kH l n h;have:=aL b;exact U122 this
def Hp (h:m<aG (sg x)):cw x ⟨#[10]⟩ 0 (ay (sg x) (m+1)-1)+1=(ay (sg x) m:Nat):=by
 obtain⟨l,r,o⟩:=kH (sg x) m h;have j:=kM (sg x) (m+1) h;have hl:=am x;rcases og (x:=x) (hi:=ay (sg x) (m+1)-1) (U121 j) with ⟨e,k⟩|⟨i,e,hi,p,k⟩
 rw[e];cases m with|zero=>rw[cx];rfl|succ m=>obtain⟨g1,g2,_⟩:=kH (sg x) m<|U120 h;exact absurd g2<|k _<|U119 l g1
 rw[e];cases m with|zero=>exact absurd p<|o i (by rw[cx];exact Zj _) hi|succ m=>obtain⟨g1,g2,g3⟩:=kH (sg x) m<|U120 h;have f:¬ay (sg x) (m+1)<=i:=λ q=>o i q hi p;have b:¬i<ay (sg x) (m+1)-1:=λ q=>k _ q (U119 l g1) g2;exact U118 f b
def r7 (s:St)(c:Nat):(step s c).ln=s.ln+if c=10 then 1 else 0:=
 gw (P:=λ t=>t.ln=s.ln+if c=10 then 1 else 0) (λ h=>by rw[Wy h];rfl) (λ _ _ h=>by rw[Wg h];rfl) (λ h _=>by rw[Wy h])
def zK (l:List Nat):∀(s:St),(scan s l).ln=s.ln+aG l:=by induction l with|nil=>intro s;exact rfl|cons c l rH=>intro s;simp only[aO,rH,r7,zf];exact Om.an {1} {1}
def jH (s:St)(c:Nat):(step s c).gd=s.gd\/((step s c).gd=s.gd++[s.ln+1]/\(step s c).ln=s.ln+1):=by refine gw (P:=λ t=>t.gd=s.gd\/(t.gd=s.gd++[s.ln+1]/\t.ln=s.ln+1)) (λ _=>?_) (λ _ _ _=>.inl rfl)<|λ _ _=>.inl rfl;by_cases h:s.lv=0;exact .inr ⟨Wy h,rfl⟩;exact .inl<|if_neg h
structure GdOk (s:St):Prop where
 up:s.gd.Pairwise (·<·)
 le:∀m∈s.gd,m<=s.ln
 hd:s.gd.head?=Kf 0
theorem GdOk.step {s:St}(h:GdOk s)(c:Nat):GdOk (step s c):=by
 have hl:=r7 s c;rcases jH s c with e|⟨e,i⟩
 exact⟨by rw[e];exact h.up,λ m f=>by rw[e] at f;have:=h.le m f;exact U116 hl this,by rw[e];exact h.hd⟩;refine⟨?_,λ m f=>?_,?_⟩;rw[e,List.pairwise_append];exact⟨h.up,List.pairwise_singleton _ _,λ a j b k=>by
                                have:=h.le a j;have:b=s.ln+1:=by simpa using k
                                exact U115 ‹_› this⟩
 rw[e] at f;rcases Qu.mp f with f|f
 have:=h.le m f;exact U114 i this;have:m=s.ln+1:=by simpa using f
 exact U113 i this;simp only[e,List.head?_append,h.hd];rfl
theorem GdOk.scan:∀(l:List Nat) {s:St},GdOk s->GdOk (scan s l)
 | [],s,h=>h|c::l,s,h=>by simp only[aO];exact GdOk.scan l<|h.step c
def Li:GdOk st0:=by
 refine⟨List.pairwise_singleton _ _,λ m b=>?_,rfl⟩;have:m=0:=by simpa [st0] using b
 exact U112 this
def FK (l:List Nat):aG (l.map tr)=aG l:=by induction l with|nil=>exact rfl|cons c l rH=>show (if tr c=10 then 1 else 0)+aG (l.map tr)=_;simp only[rH,zf];congr 1;by_cases h:c=10;subst h;rfl;rw[Wg h,Wg];unfold tr;split;exact U111;split;exact U110;split;exact U109 h;exact U108
structure GoodOk (x:Str)(gl:List Nat):Prop where
 up:gl.Pairwise (·<·)
 hd:gl.head?=Kf 0
 last:gl.getLast?=Kf (aG<|sg x)
def lR (x:Str):GoodOk x (ax<|fin x):=by
 have G:GdOk (fin x):=GdOk.scan _ Li;have e:(fin x).ln=aG (sg x):=by unfold fin;rw[zK,FK];show 0+_=_;exact Om.an {1} {1}
 unfold ax;split;rename_i h;exact⟨G.up,G.hd,by rw[h,e]⟩;rename_i h;refine⟨?_,by rw[List.head?_append,G.hd];rfl,by rw[Qb,e];rfl⟩;rw[List.pairwise_append];refine⟨G.up,List.pairwise_singleton _ _,λ a k b j=>?_⟩;have j:b=(fin x).ln:=by simpa using j
 subst j;refine Nat.lt_of_le_of_ne (G.le a k) λ q=>h ?_;obtain⟨i,f,l⟩:=List.getElem_of_mem k;rw[Qp];by_cases hl:i=(fin x).gd.length-1;simp only[<-hl,Qk f,l,q];have:=List.pairwise_iff_getElem.mp G.up i ((fin x).gd.length-1) f (U105 f) (U106 f hl);have o:=G.le ((fin x).gd[(fin x).gd.length-1]'(U105 f))<|List.getElem_mem _;simp only[l] at this;exact (U104 q this o).elim
def GoodOk.at_ {e:List Nat}(G:GoodOk x e){a b:Nat}(j:e[i]?=Kf a)(hb:e[i+1]?=Kf b):a<b/\b<=aG (sg x):=by
 obtain⟨k,l⟩:=Qw.mp j;obtain⟨f,h⟩:=Qw.mp hb;refine⟨l▸h▸List.pairwise_iff_getElem.mp G.up i (i+1) k f (U43),?_⟩;have hl:=G.last;rw[Qp] at hl;obtain⟨o,p⟩:=Qw.mp hl;by_cases q:i+1=e.length-1;have:b=aG (sg x):=by rw[<-q] at hl;rw[hl] at hb;injection hb with hb;subst hb;rfl
 exact U14 this;have:=List.pairwise_iff_getElem.mp G.up (i+1) (e.length-1) f o (U103 f q);exact U102 h p this
end
section
open PySem.Builtin PySem.Builtin.Re
noncomputable abbrev jl:String:="re.Pattern.match"
noncomputable abbrev DM (pv fv:Wx) (tup:Ww):Obj:={cls:=.type "re.Pattern",data:=.fields #[pv,fv,.int 0 0,.none,.none,.ref tup,.int 0 0]}
noncomputable abbrev Fb (sv:Wx) (pat:Ww) (a b:Nat) (tup:Ww):Obj:={cls:=.type "re.Match",data:=.fields #[sv,.ref pat,.int a 0,.int b 0,.int (-1) 0,.ref tup]}
def uy:isSubtype (.type "re.Pattern") (.type "module")=pure false:=by rw[isSubtype_type];kernel_rfl
def oP:builtinKind jl=Kf .method:={3}
def nS:entryFor table jl=Kf Builtin.«re.Pattern.match»:=entryFor_of_tree<|{2}
def nL (a b c:Wx):(match Manifest.signature? jl with|some sig=>Bind.checkArgs jl {sig with full:=toString (Bind.lastOf "re.Pattern")++toString "."++toString (Bind.lastOf jl)} ⟨[a,b,c],[]⟩|none=>pure ())=pure ():={2}
def ni (a b c d:Wx):(match Manifest.signature? jl with|some sig=>Bind.checkArgs jl {sig with full:=toString (Bind.lastOf "re.Pattern")++toString "."++toString (Bind.lastOf jl)} ⟨[a,b,c,d],[]⟩|none=>pure ())=pure ():={2}
def Ge (a b:Wx):reNamed jl "match" ["string","pos","endpos"] 1 [a,b] []=pure [Kf a,Kf b,Wq]:=by rfl
def Dh (a b c:Wx):reNamed jl "match" ["string","pos","endpos"] 1 [a,b,c] []=pure [Kf a,Kf b,Kf c]:=by rfl
section
def tP {m:Sre.M}(h:m.outcome.isSome=true):m.step=m:=by unfold Sre.M.step;rw[Wy h]
theorem iH {m:Sre.M}(h:m.outcome.isSome=true):∀n,Re.it n m=m
 |0=>rfl|n+1=>by show Re.it n m.step=m;rw[tP h];exact iH h n
def tN (n:Nat):∀(m:Sre.M),Sre.M.runFor n m=Re.it n m:=by induction n with|zero=>intro m;exact rfl|succ n rH=>intro m;show (if m.outcome.isSome=true then m else Sre.M.runFor n m.step)=_;cases h:m.outcome.isSome with|true=>rw[Wy rfl];exact (iH h _).symm|false=>rw[Wg<|{4}];exact rH m.step
def pU (a:Nat):∀(b:Nat) (m:Sre.M),Re.it (a+b) m=Re.it b (Re.it a m):=by induction a with|zero=>intro b m;rw[Nat.zero_add];rfl|succ a rH=>intro b m;rw[Nat.add_right_comm];exact rH b m.step
end
section
variable {A:Around}{E:Wx->Wj->Prop}
def wg {turns:Nat}:∀{n:Nat} {m:Sre.M} {Q:Sre.M->Wj->Prop},n<4*turns->(Re.it n m).outcome.isSome=true->Q (Re.it n m) s->wpAny M A (reDrive turns m) Q E s:=by
 induction turns with|zero=>intro n m Q f _ _;exact absurd f<|U167|succ turns rH=>
  intro n m Q f b h;unfold reDrive reTurnSteps;show wpAny M A (if (Sre.M.runFor 4 m).outcome.isSome=true then pure (Sre.M.runFor 4 m) else _) Q E s;rw[tN];by_cases q:n<=4;have e:Re.it 4 m=Re.it n m:=by rw[show 4=n+(4-n) by exact U166 q,pU];exact iH b _
  rw[e,Wy b];exact Zp h;cases i:(Re.it 4 m).outcome.isSome with
   |true=>
    have e:Re.it n m=Re.it 4 m:=by rw[show n=4+(n-4) by exact U165 q,pU];exact iH i _
    rw[Wy rfl];rw[e] at h;exact Zp h
   |false=>
    rw[Wg<|{4}];refine Zb<|wpAny_rule ?_;have e:Re.it n m=Re.it (n-4) (Re.it 4 m):=by rw[<-pU];congr 1;exact U165 q
    rw[e] at b h;exact rH (U164 f q) b h
def xo {m:Sre.M}{Q:PUnit->Wj->Prop}(h:Q ⟨⟩ s)(l:List Nat):wpAny M A (forIn l PUnit.unit λ i (_:PUnit)=>if m.seen.has i=true then (do rule (Sre.names.getD i "");pure (ForInStep.yield PUnit.unit)) else pure (ForInStep.yield PUnit.unit)) Q E s:=by
 induction l with
 |nil=>
  rw[List.forIn_nil];exact Zp h
 |cons i l rH=>
  rw[List.forIn_cons]
  refine Zb ?_
  split
  ·exact Zb<|wpAny_rule<|Zp<|rH
  ·exact Zp<|rH
def BB {z:Re.Z}{r:Option Nat}{N:Nat}{a:Re.A}{f:Sre.Seen}{Q:Option Sre.M->Wj->Prop}(h:Re.Ends z r N a)(l:N<2 ^ 60)(i:match r with|some e=>∀m:Sre.M,m.start=z.start->m.lastindex=-1->m.handed=e->Q (Kf m) s|none=>Q Wq s):wpAny M A (reRunToEnd<|Re.mk z a f) Q E s:=by
 obtain⟨n,o,j,k,b⟩:=h f;unfold reRunToEnd;refine Zb<|wg (n:=n) (by omega) ?_ ?_;cases r with|none=>rw[b];rfl|some e=>rw[b.1];rfl
 refine Zb ?_;refine xo ?_ _;cases r with|none=>rw[b];exact Zp i|some e=>rw[b.1];exact Zp<|i _ j k b.2
end
section
variable {A:Around}{E:Wx->Wj->Prop}
def j7 {i:Int}{Q:Int->Wj->Prop}(b:0<=i)(f:i<=1048576)(h:Q i s):wpAny M A (reSsize<|.int i t) Q E s:=by
 unfold reSsize;refine Zb<|Vz (a:=i) rfl ?_;have e:(decide (i < -(2 ^ 63))||decide (i ≥ 2 ^ 63))=false:=by rw[decide_eq_false (by omega),decide_eq_false<|by omega];rfl
 show wpAny M A (if (decide (i < -(2 ^ 63))||decide (i ≥ 2 ^ 63))=true then _ else _) Q E s;rw[e,Wg<|{4}];exact Zp h
structure PatAt (h:Wu)(m pat:Ww)(code:Array Nat):Prop where
 fn:h.get? m=Kf (nH jl pat)
 ob:∃pv fv tup ep,h.get? pat=Kf (DM pv fv tup)/\h.get? tup=Kf (bp "tuple" (code.toList.map λ (w:Nat)=>rawInt w) ep)
def vz (code:Array Nat):(((code.toList.map λ (w:Nat)=>rawInt w).toArray).map reRawOf).map (·.toNat)=code:=by apply Array.ext;simp;intro i b e;simp[rawInt,reRawOf]
def jP {m:Ww}(P:PatAt s.heap m pat code){pos lim:Int}{Q:ReTarget->Wj->Prop}
  (h:Q {pattern:=.ref pat,string:=.str x t,code,text:=x.cps,kind:=0,groups:=0,pos:=min pos.toNat x.cps.size,lim:=min lim.toNat x.cps.size} s) :
  wpAny M A (do
   let fs <-fieldsOf (.ref pat)
   let (text,kind) <-reTextOf (.str x t)
   let jj:=reRawNat<|fs.getD 6 .none
   if jj==0&&kind==1 then raiseError "TypeError" "cannot use a string pattern on a bytes-like object"
   if jj==1&&kind==0 then raiseError "TypeError" "cannot use a bytes pattern on a string-like object"
   reNoCollectionInside (.str x t) kind
   let clip (i:Int):Nat:=min i.toNat text.size
   pure {pattern:=.ref pat,string:=.str x t,code:=(<-reRawItems (fs.getD 5 .none)).map (·.toNat),text,kind,groups:=reRawNat (fs.getD 2 .none),pos:=clip pos,lim:=clip lim:ReTarget}) Q E s:=by
 obtain⟨f,j,tup,k,b,e⟩:=P.ob
 refine Zb<|wpAny_fieldsOf b rfl ?_
 refine Zb<|Vz (a:=(x.cps,0)) rfl ?_
 refine Zb<|Vz (a:=()) rfl ?_
 refine Zb ?_
 show wpAny M A (seqItems? (.ref tup)>>=λ o=>pure<|(o.getD #[]).map reRawOf) _ E s
 refine Zb<|wpAny_seqItems e rfl<|Zp ?_
 show wpAny M A (pure {pattern:=.ref pat,string:=.str x t,code:=(((code.toList.map λ (w:Nat)=>rawInt w).toArray).map reRawOf).map (·.toNat),text:=x.cps,kind:=0,groups:=0,pos:=min pos.toNat x.cps.size,lim:=min lim.toNat x.cps.size:ReTarget}) Q E s
 rw[vz]
 exact Zp h
def zG {m:Ww}(P:PatAt s.heap m pat code){tp:Tok}{pos:Int}(b:0<=pos)(f:pos<=1048576)(i:x.cps.size<=1048576){Q:ReTarget->Wj->Prop}(h:Q {pattern:=.ref pat,string:=.str x t,code,text:=x.cps,kind:=0,groups:=0,pos:=min pos.toNat x.cps.size,lim:=x.cps.size} s) :wpAny M A (reTarget jl "match" ⟨[.ref pat,.str x t,.int pos tp],[]⟩) Q E s:=by
 unfold reTarget;refine Zb<|Vz (Ge _ _) ?_;refine Zb<|j7 b f ?_;refine Zb<|Vz (a:=(2 ^ 63-1:Int)) rfl ?_;refine jP P ?_;have e:min ((2 ^ 63-1:Int)).toNat x.cps.size=x.cps.size:=by
  have:((2 ^ 63-1:Int)).toNat=9223372036854775807:={4}
  rw[this];exact U170 i
 rw[e];exact h
def A2 {m:Ww}(P:PatAt s.heap m pat code){tp b:Tok}{pos lim:Int}(e:0<=pos)(f:pos<=1048576)(i:0<=lim)(j:lim<=1048576){Q:ReTarget->Wj->Prop}(h:Q {pattern:=.ref pat,string:=.str x t,code,text:=x.cps,kind:=0,groups:=0,pos:=min pos.toNat x.cps.size,lim:=min lim.toNat x.cps.size} s) :wpAny M A (reTarget jl "match" ⟨[.ref pat,.str x t,.int pos tp,.int lim b],[]⟩) Q E s:=by unfold reTarget;refine Zb<|Vz (Dh _ _ _) ?_;refine Zb<|j7 e f ?_;refine Zb<|j7 i j ?_;exact jP P h
def I9 (s:Wj)(sv:Wx)(pat:Ww)(pos lim:Nat)(Q:Wx->Wj->Prop):Option Nat->Prop
 |none=>Q .none s|some e=>Q (.ref<|s.heap.objs.size+1) {s with heap:=(s.heap.push<|bp "tuple" [rawInt pos,rawInt e] 0).push (Fb sv pat pos lim s.heap.objs.size)}
def mL {pos lim:Nat}(h:(Sre.header code).1<=lim-pos):∃b,Sre.forMatch code text 0 pos lim false false=Re.mk ⟨code,text,lim,pos⟩ (Re.start (Sre.header code).2 pos) b:=by unfold Sre.forMatch;refine⟨if (Sre.header code).2==0 then {} else ({}:Sre.Seen).add 14,?_⟩;rw[Wg<|by simp only[Xv,decide_eq_true_eq,not_and];intro _ _;exact U169 h ‹_›];rfl
def jJ {pos lim:Nat}(hl:pos<=lim)(h:lim-pos<(Sre.header code).1):∃b,Sre.forMatch code text 0 pos lim false false=Re.mk ⟨code,text,lim,pos⟩ {Re.start (Sre.header code).2 pos with answer:=Kf false} b:=by unfold Sre.forMatch;refine⟨if (Sre.header code).2==0 then {} else ({}:Sre.Seen).add 14,?_⟩;rw[Wy<|by simp only[Xv,decide_eq_true_eq,bne_iff_ne];exact U168 hl h];rfl
def tX {pos lim N:Nat}{sv:Wx}{r:Option Nat}(hl:pos<=lim)(k:N<2 ^ 60)(i:1<=N)(l:Re.Ends ⟨code,text,lim,pos⟩ r N (Re.start (Sre.header code).2 pos)/\(Sre.header code).1<=lim-pos\/r=Wq/\lim-pos<(Sre.header code).1){Q:Fin->Wj->Prop}(h:I9 s sv pat pos lim (λ v s=>Q (.done<|.ret v) s) r) :wpAny M A (reAnswer {pattern:=.ref pat,string:=sv,code,text,kind:=0,groups:=0,pos,lim}<|Sre.forMatch code text 0 pos lim false false) Q E s:=by
 have go:∀{a f},Re.Ends ⟨code,text,lim,pos⟩ r N a->wpAny M A (reAnswer {pattern:=.ref pat,string:=sv,code,text,kind:=0,groups:=0,pos,lim}<|Re.mk ⟨code,text,lim,pos⟩ a f) Q E s:=by
  intro a f j;unfold reAnswer;refine Zb<|BB j k ?_
  cases r with|none=>exact Zp h|some e=>
   intro m b o p;refine Zb ?_;unfold reNewMatch;refine Zb<|wpAny_newTuple ?_ ?_;rw[b,p];refine wpAny_newObj_type ?_<|by show (6:Nat)<=sizeLine+2;rw[sizeLine_eq];decide
   show wpAny M A (ret<|.ref (s.heap.push _).objs.size) Q E _;rw[Heap.size_push,o];exact Zp h;show (2:Nat)<=sizeLine;rw[sizeLine_eq];decide
 rcases l with ⟨j,b⟩|⟨rfl,b⟩
 obtain⟨f,e⟩:=mL (text:=text) b;rw[e];exact go j;obtain⟨f,e⟩:=jJ (text:=text) hl b;rw[e];exact go<|Re.Ends.mono Re.fin_no i
end
section
variable {w:Wv}{A:Around}{E:Wx->Wj->Prop}{m:Ww}
def oS {b e:Wx}{tup:Ww}(f:s.heap.get? pat=Kf (DM b e tup)){Q:Bool->Wj->Prop}(h:Q false s):wpAny (model prog w) A (isType<|.ref pat) Q E s:=by have i:s.TypeIs (.ref pat) "re.Pattern":=⟨_,f,rfl⟩;unfold isType;repeat (any_goals (first|assumption|wp_step))
def n5 {args:List Wx}(e:∃f i tup,s.heap.get? pat=Kf (DM f i tup)){Q:Unit->Wj->Prop}(j:(match Manifest.signature? jl with|some sig=>Bind.checkArgs jl {sig with full:=toString (Bind.lastOf "re.Pattern")++toString "."++toString (Bind.lastOf jl)} ⟨.ref pat::args,[]⟩|none=>pure ())=pure ()) (h:Q () s) :wpAny (model prog w) A (checkBoundCall jl ⟨.ref pat::args,[]⟩) Q E s:=by obtain⟨f,i,tup,e⟩:=e;have k:s.TypeIs (.ref pat) "re.Pattern":=⟨_,e,rfl⟩;unfold checkBoundCall;cases b:Manifest.signature? jl with|none=>exact Zp h|some sig=>rw[b] at j;rw[oP];dsimp only;rw[Wg<|{4}];refine Zb<|wpAny_isInstance k uy ?_;rw[Wg<|{3}];refine Zb<|oS e ?_;rw[Wg<|{4}];refine Zb<|wpAny_typeOf k ?_;exact Vz j h
end
section
variable {w:Wv}{A:Around}{m:Ww}
def m5 {args:List Wx}(P:PatAt s.heap m pat code){R:Result->Wj->Prop}
  (e:(match Manifest.signature? jl with|some sig=>Bind.checkArgs jl {sig with full:=toString (Bind.lastOf "re.Pattern")++toString "."++toString (Bind.lastOf jl)} ⟨.ref pat::args,[]⟩|none=>pure ())=pure ())
  (h:∀(i:Around) (E:Wx->Wj->Prop),wpAny (model prog w) i (Builtin.«re.Pattern.match» ⟨.ref pat::args,[]⟩) (λ f s'=>∃v,f=.done (.ret v)/\R (.ok<|.ret v) s') E s):codeAny (model prog w) A (.call (.ref m) ⟨args,[]⟩) R s:=by
 refine codeAny_of_tree ?_
 refine Zb<|wpAny_load P.fn ?_
 show wpAny _ A.in1 (if (Value.type "builtin_function_or_method" != Value.type "method")=true then (do checkBoundCall jl ⟨.ref pat::args,[]⟩;again (.builtin jl ⟨.ref pat::args,[]⟩)) else _) _ _ _
 rw[Wy<|{4}]
 refine bc λ o b=>?_;obtain⟨p,q,tup,r,j,t⟩:=P.ob;refine b ?_
 refine Zb<|n5 ⟨_,_,_,j⟩ e<|Zp ?_
 refine⟨Code.quiet_builtin _ {3},?_⟩
 refine codeAny_builtin nS ?_
 refine Vq (h _ _) (λ f s' k=>?_)<|λ _ _ x=>x
 obtain⟨v,rfl,l⟩:=k
 exact l
end
def aP (code:Array Nat):Spec:=λ vs c K=>∃(x:Str) (p q:Nat) (r:Option Nat) (N:Nat),
 (vs=[.d<|.str x,.d<|.int p]/\q=x.length\/vs=[.d<|.str x,.d<|.int p,.d<|.int q])/\p<=q/\q<=x.length/\x.length<=big/\(1<=N/\N<2 ^ 60)/\
 (Re.Ends ⟨code,x.cps,q,p⟩ r N (Re.start (Sre.header code).2 p)/\(Sre.header code).1<=q-p\/r=Wq/\q-p<(Sre.header code).1)/\
 match r with|some e=>K (.mt e) c|none=>K (.d .none) c
def pW {m:Ww}(P:PatAt h m pat code):∃k,Looks M h (keeperOf<|.ref m) k:=by refine⟨.machine,λ A Q E s k q=>?_⟩;unfold keeperOf;refine Zb<|wpAny_load (k _ _ P.fn) ?_;exact Zp q
def PatAt.keeps {m:Ww}(P:PatAt h m pat code)(k:∀b o,h.get? b=Kf o->h'.get? b=Kf o):PatAt h' m pat code:=by obtain⟨e,f,tup,i,j,l⟩:=P.ob;exact⟨k _ _ P.fn,e,f,tup,i,k _ _ j,k _ _ l⟩
def DW {w:Wv}{d:Nat}{m:Ww}(P:PatAt hb m pat code):FnOk prog w hb d m (aP code):=by
 intro A _ vs ws c α s K R hs C T J U;obtain⟨x,p,q,r,r_⟩:=J;obtain⟨N,Y,h,y,r_⟩:=r_;obtain⟨l,⟨L,hN⟩,he,W⟩:=r_;have G:=P.keeps C.base;have hxs:x.cps.size=x.length:=rfl;unfold big at l;have fin:∀{t:Tok} {I:Around} {E:Wx->Wj->Prop},wpAny (model prog w) I (reAnswer {pattern:=.ref pat,string:=.str x t,code,text:=x.cps,kind:=0,groups:=0,pos:=p,lim:=q}<|Sre.forMatch code x.cps 0 p q false false) (λ f s'=>∃v,f=.done (.ret v)/\R (.ok<|.ret v) s') E s:=by intro t I E;refine tX h hN L he ?_;cases r with|none=>exact⟨_,rfl,U _ c α _ s.heap s.toks W C (Le.refl ..) .none⟩|some e=>refine⟨_,rfl,?_⟩;have M:∀b o,s.heap.get? b=Kf o->((s.heap.push<|bp "tuple" [rawInt p,rawInt e] 0).push<|Fb (.str x t) pat p q s.heap.objs.size).get? b=Kf o:=λ b o g=>Xz _<|Xz _ g;obtain⟨C',L'⟩:=C.keeps M;refine U _ c α _ _ s.toks W C' L' ⟨_,rfl,⟨⟨#[.str x t,.ref pat,.int p 0,.int q 0,.int (-1) 0,.ref s.heap.objs.size],s.heap.objs.size,p,0,?_,rfl,Xz _<|Xj _ rfl,be C⟩,?_⟩⟩;have:=Xj (s.heap.push<|bp "tuple" [rawInt p,rawInt e] 0) (o:=Fb (.str x t) pat p q s.heap.objs.size) rfl;rw[Heap.size_push] at this;exact this;intro e_;obtain⟨k,M,e⟩:=e_;obtain⟨q,g⟩:=C.ex M;rw[e] at g;exact absurd (Heap.lt_size g)<|by show ¬s.heap.objs.size+1<s.heap.objs.size;exact U177
 rcases Y with ⟨rfl,rfl⟩|rfl
 refine bc λ G9 z=>?_;obtain⟨v,v',rfl,i,j⟩:=T.two;refine z ?_;cases i;cases j;refine m5 G (nL _ _ _) λ I E=>?_;unfold Builtin.«re.Pattern.match»;refine Zb<|zG G (U72) (U176 l h) (U175 l) ?_;rw[show min ((p:Int)).toNat x.cps.size=p by exact U171 h];exact fin;obtain⟨u,us,rfl,i1,ir⟩:=T.uncons;obtain⟨v,v',rfl,i2,i3⟩:=ir.two;cases i1;cases i2;cases i3;refine m5 G (ni _ _ _ _) λ I E=>?_;unfold Builtin.«re.Pattern.match»;refine Zb<|A2 G (U72) {0,(Om.zl h),(Om.zl y),(Om.zl l)} (U72) {0,(Om.zl y),(Om.zl l)} ?_;simp only[show min ((p:Int)).toNat x.cps.size=p by exact U172 h y,show min ((q:Int)).toNat x.cps.size=q by exact U171 y];exact fin
end
noncomputable def fB:List IS:=[.asg 4<|.bin .Add (.meth (.v 1) .rfind [(.c<|.str ⟨#[10]⟩),(.c<|.int 0),(.bin .Sub (.v 4)<|.c<|.int 1)])<|.c<|.int 1]
def CS:IS:=.for_ 6 (.call (.g<|.bi .range) [(.item (.v 2)<|.bin .Sub (.v 3)<|.c<|.int 1),(.item (.v 2)<|.v 3)] Wq) fB
def JK (jr:Ww):List IS:=[.assert (.v 4),.asg 5 (.v 4),CS,.if_ (.call (.g (.val (.ref jr))) [(.v 1),(.v 4)] Wq) [.asg 3 (.bin .Sub (.v 3) (.c (.int 1)))] [.brk]]
abbrev S1 (k:Nat) (x:Str) (gl:List Nat) (i p q nn:Option V):Sl:=[Kf<|.obj k,Kf<|.d<|.str x,Kf<|.d<|.lst<|ao gl,i,p,q,nn,Wq,Wq,Wq,Wq,Wq,Wq,Wq]
noncomputable abbrev I_ (i:Nat):Option V:=Kf<|.d<|.int (i:Nat)
def bH (x:Str)(gl:List Nat):Nat->Nat×Nat
 |0=>(0,0)|i+1=>if Re.junkB ((sg x).drop<|ay (sg x)<|gl.getD i 0)=true then bH x gl i else (ay (sg x)<|gl.getD i 0,ay (sg x)<|gl.getD (i+1) 0)
def HN {b:List Nat}:bH x b (i+1)=if Re.junkB ((sg x).drop<|ay (sg x)<|b.getD i 0)=true then bH x b i else (ay (sg x)<|b.getD i 0,ay (sg x)<|b.getD (i+1) 0):=rfl
section
def Cj (l:k∈dom c)(o:cK c c c)(r:∀j∈pr,j∈dom c){p:Nat}{q f nn b:Option V}(t:f=Wq\/∃d,q=Kf (.d d)/\f=q)(u:b=Wq\/∃d,nn=Kf (.d d)/\b=nn) :Wk pr ⟨S1 k x gl (I_ i) (I_ p) q nn,c⟩ ⟨S1 k x gl (I_ i) (I_ p) f b,c⟩:=by
 refine⟨?_,rfl,o,r⟩;refine⟨⟨_,rfl,.inl ⟨rfl,l⟩⟩,⟨_,rfl,vD _ _ _⟩,⟨_,rfl,vD _ _ _⟩,⟨_,rfl,vD _ _ _⟩,⟨_,rfl,vD _ _ _⟩,?_⟩;have h:yU (S1 k x gl (I_ i) (I_ p) q nn) c c 7 [Wq,Wq,Wq,Wq,Wq,Wq,Wq]:=trivial;have tn:yU (S1 k x gl (I_ i) (I_ p) q nn) c c 6 (b::[Wq,Wq,Wq,Wq,Wq,Wq,Wq]):=by
  rcases u with rfl|⟨d,e,rfl⟩
  exact h;rw[e];exact⟨⟨_,e▸rfl,vD _ _ _⟩,h⟩
 rcases t with rfl|⟨d,e,rfl⟩
 exact tn;rw[e];rw[e] at tn;exact⟨⟨_,rfl,vD _ _ _⟩,tn⟩
def nT {l:List Nat}{a:Nat}(h:l[i]?=Kf a):(ao l)[i]?=Kf (.int (a:Nat)):=by simp[ao,h]
def zi {a b:Nat}{d:D}(h:(db (a:Int) (b:Int))[j]?=Kf d):a+j<b:=by unfold db at h;have:=(Qw.mp h).1;simp at this;exact U194 this
def z3 (a b:Nat):(db (a:Int) (b:Int)).length=b-a:=by simp[db]
def gp {f i:IE}{j:Option Nat}{v1 v2:V}{K:V->aa->Prop}(o:∀b:V->aa->Prop,b u c->aU P (n+3) f l c b)(p:∀b:V->aa->Prop,b v1 c->aU P (n+2) e l c b)(q:∀b:V->aa->Prop,b v2 c->aU P (n+1) i l c b)(h:d8 P c j u [v1,v2] K):aU P (n+4) (.call f [e,i] j) l c K:=by rw[jv];refine o _ ?_;rw[bx];refine p _ ?_;rw[bx];refine q _ ?_;exact h
def kR {a:Nat}(h:gl[i]?=Kf a)(hl:gl.length<=big){K:D->Prop}(e:K<|.int (a:Nat)):f8 c (.d<|.lst<|ao gl) (.d<|.int (i:Nat)) K:=by
 have f:=(Qw.mp h).1;have b:(ao gl).length=gl.length:=by simp[ao]
 refine⟨by rw[b];exact hl,i,.int (a:Nat),?_,nT h,e⟩;rw[b];unfold seqIndex?;have j:¬((i:Int)<0):=U17;simp only[j,if_false];rw[decide_eq_true<|U72,decide_eq_true<|U53 f];simp
def xH (J:k∈dom c)(L:cK c c c)(M:∀j∈pr,j∈dom c)(T:TextOk x){a b:Nat}(R:gl[i]?=Kf a)(hb:gl[i+1]?=Kf b)(p:a<b)(f:b<=aG (sg x))(r:gl.length<=big){K:F->Sg'->Prop}(h:∀nn,(nn=Wq\/∃d,nn=Kf (.d d))->K .next ⟨S1 k x gl (I_<|i+1) (I_<|ay (sg x) a) (I_<|ay (sg x) b) nn,c⟩) {nn:Option V} (z:nn=Wq\/∃d,nn=Kf (.d d)) :oK P pr (n+20) CS ⟨S1 k x gl (I_<|i+1) (I_<|ay (sg x) b) (I_<|ay (sg x) b) nn,c⟩ K:=by
 have q:b<=big:=by
  have h1:=fZ (sg x) (m:=b-1) (n:=b) (U105 p) f;have U:∀m,m<=aG (sg x)->m<=ay (sg x) m:=by intro m;induction m with|zero=>intro _;exact Zj _|succ m ih=>intro y;have:=fZ (sg x) (m:=m) (n:=m+1) (U43) y;have:=ih<|U73 y;exact U193 ‹_› this
  have W:=U b f;have Y:=kM (sg x) b f;have:=T.len;exact {W,Y,this}
 have hlx:=T.len;have hle:ay (sg x) b<=(sg x).length:=kM (sg x) b f;have hsl:=am x;unfold CS;rw[qL];refine gp (n:=n+15) (u:=.bi .range) (v1:=.d<|.int (a:Nat)) (v2:=.d<|.int (b:Nat)) (λ l h=>h) (λ l h=>?_) (λ l h=>?_) ?_;refine bS (n:=n+16) (.d<|.lst<|ao gl) (.d<|.int (i:Nat)) (λ l h=>h) (λ l h=>?_) (kR R r h);have e:(((i+1:Nat):Int)-1)=(i:Nat):=U88;show l (.d<|.int<|((i+1:Nat):Int)-1) c;rw[e];exact h;exact bS (n:=n+15) (.d<|.lst<|ao gl) (.d<|.int<|(i+1:Nat)) (λ l h=>h) (λ l h=>h)<|kR hb r h;unfold big at q;refine⟨⟨by exact U190,by exact {0,(Om.zl p),(Om.zl q)},by exact U190,by exact {0,(Om.zl q)}⟩,db (a:Int) (b:Int),rfl,λ j τ=>∃nn,(nn=Wq\/∃d,nn=Kf (.d d))/\j<=b-a/\τ=⟨S1 k x gl (I_<|i+1) (I_<|ay (sg x)<|b-j) (I_<|ay (sg x) b) nn,c⟩,⟨nn,z,Zj _,rfl⟩,?_,?_⟩;intro j d τ hd e_;obtain⟨nn,G,hj,rfl⟩:=e_;have o:=zi hd;have y:b-j-1<aG (sg x):=U188 f o;have I:=Hp (x:=x) y;rw[show b-j-1+1=b-j by exact U187 o] at I;have t:0<ay (sg x) (b-j):=by have:=fZ (sg x) (m:=0) (n:=b-j) (U186 o)<|U185 f;rw[cx] at this;exact this
 have w:ay (sg x) (b-j)<=(sg x).length:=kM (sg x) (b-j)<|U185 f;refine⟨by show 6<14;exact U184,?_⟩;unfold fB;refine aN (n:=n+17) (.d<|.int<|(ay (sg x) (b-(j+1)):Nat)) (λ l h=>?_) ?_;refine⟨rfl,rfl,⟨{4},?_,?_⟩,?_⟩;show (0:Int)<=((ay (sg x) (b-j):Nat):Int)-1;exact {0,(Om.zl t)};show ((ay (sg x) (b-j):Nat):Int)-1<=((x.length:Nat):Int);exact U182 w;show l (.d<|.int<|cw x ⟨#[10]⟩ (0:Int).toNat (((ay (sg x) (b-j):Nat):Int)-1).toNat+1) c;rw[show (((ay (sg x) (b-j):Nat):Int)-1).toNat=ay (sg x) (b-j)-1 by exact U181,show (0:Int).toNat=0 from rfl,I,show b-j-1=b-(j+1) by exact U180];exact h;refine aM ⟨_,Cj J L M (.inr ⟨_,rfl,rfl⟩)<|.inr ⟨d,rfl,rfl⟩,Kf<|.d d,.inr ⟨d,rfl⟩,by exact U179 o,rfl⟩;intro τ e_;obtain⟨nn,G,hj,rfl⟩:=e_;rw[z3,show b-(b-a)=a by exact U178 p];exact h nn G
end
def nr (x:Str){p st:Nat}(b:p<=q)(e:q<=x.length):Re.At ⟨code,x.cps,q,st⟩ p (((sg x).take q).drop p):=by
 have hl:=am x;refine⟨by show p+(((sg x).take q).drop p).length=q;rw[Xp,List.length_take];exact U203 b e,λ i c h=>?_⟩;rw[Zx,List.getElem?_take] at h;split at h;have f:x.cps[p+i]?=Kf c:=by rw[<-Array.getElem?_toList];exact h
 show x.cps.getD (p+i) 0=c;rw[Array.getD_eq_getD_getElem?,f];rfl;contradiction
def jL (T:TextOk x)(p q:Nat):Re.Low (((sg x).take q).drop p):=λ c b=>T.ascii c<|List.mem_of_mem_take<|List.mem_of_mem_drop b
section
def zC (T:TextOk x){p:Nat}(b:p<x.length):10∈(sg x).drop p:=by
 have hl:=am x;rcases T.ends with h|h
 rw[h] at hl;simp at hl;exact (U202 b hl).elim;rw[Qp] at h;have:((sg x).drop p)[(sg x).length-1-p]?=Kf 10:=by rw[Zx,show p+((sg x).length-1-p)=(sg x).length-1 by exact U201 b];exact h
 exact Qg this
def sM (T:TextOk x)(I:P.isFn b=true)(t:P.fn b=aP Re.junkC){p:Nat}(j:p<x.length)(J:av l 1=Kf (.d<|.str x))(L:av l 4=Kf (.d<|.int (p:Nat)))(o:Bool->aa->Prop)(h:o (Re.junkB<|(sg x).drop p) c) :fN P (n+5) (.call (.g<|.val<|.ref b) [(.v 1),(.v 4)] Wq) l c o:=by
 have hl:=am x;have w:=T.len;have M:x.length<=big:=U63 w;have e:((sg x).take x.length).drop p=(sg x).drop p:=by rw[<-hl,List.take_length]
 have y:=nr x (p:=p) (q:=x.length) (st:=p) (code:=Re.junkC) (U58 j)<|Zv _;rw[e] at y;have f:Re.Low ((sg x).drop p):=e▸jL T p x.length;have i:((sg x).drop p).length<=1048576:=by rw[Xp];unfold big at w;exact U200 w
 obtain⟨r,z,R⟩:=Re.junk_ok (text:=x.cps) (lim:=x.length) (st:=p) y f {i}<|zC T j;show aU P (n+4) (.call (.g<|.val<|.ref b) [(.v 1),(.v 4)] Wq) l c (λ u G=>bJ G u λ r=>o r G);refine gp (n:=n) (u:=.val<|.ref b) (v1:=.d<|.str x) (v2:=.d<|.int (p:Nat)) (λ o h=>h) (cJ J) (cJ L) ?_;refine⟨I,?_⟩;rw[t];refine⟨x,p,x.length,r,_,.inl ⟨rfl,rfl⟩,by exact U58 j,Zv _,M,⟨?_,?_⟩,.inl ⟨R,by show 1<=x.length-p;exact U198 j⟩,?_⟩;exact {1};omega;cases r with|none=>exact⟨λ _ q=>q,by rw[<-z] at h;exact h⟩|some e=>exact⟨λ _ q=>q,by rw[<-z] at h;exact h⟩
def xB {y:Ww}(T:TextOk x)(G:GoodOk x gl)(z:gl.length<=big)(hj:P.isFn y=true)(I:P.fn y=aP Re.junkC)(W:k∈dom c)(Y:cK c c c)(hp:∀j∈pr,j∈dom c){K:F->Sg'->Prop}(h0:bH x gl (gl.length-1)=(0,0)->K .next ⟨S1 k x gl (I_ 0) (I_ 0) Wq Wq,c⟩)(h1:∀i a b nn,(nn=Wq\/∃d,nn=Kf (.d d))->gl[i]?=Kf a->gl[i+1]?=Kf b->bH x gl (gl.length-1)=(ay (sg x) a,ay (sg x) b)->K .next ⟨S1 k x gl (I_<|i+1) (I_<|ay (sg x) a) (I_<|ay (sg x) b) nn,c⟩) :oK P pr (n+30) (.while_ (.v 3) (JK y) []) ⟨S1 k x gl (I_<|gl.length-1) (I_ x.length) Wq Wq,c⟩ K:=by
 have J:=am x;have f:=G.last;rw[Qp] at f;refine⟨λ k' τ=>∃i g,k'=i/\gl[i]?=Kf g/\bH x gl i=bH x gl (gl.length-1)/\τ=⟨S1 k x gl (I_ i) (I_<|ay (sg x) g) Wq Wq,c⟩,gl.length-1,⟨_,_,rfl,f,rfl,by rw[wB (sg x) T.ends,J]⟩,?_⟩;intro i τ e_;obtain⟨_,g,rfl,q,o,rfl⟩:=e_;show ((((i:Nat):Int) != 0)=true->_)/\((((i:Nat):Int) != 0)=false->_);refine⟨λ hne=>?_,λ he=>?_⟩
 cases i with|zero=>contradiction|succ i=>
   have L:=(Qw.mp q).1;obtain⟨a,t⟩:∃a,gl[i]?=Kf a:=⟨_,Qk<|U120 L⟩;obtain⟨u,p⟩:=G.at_ t q;have l:ay (sg x) a<ay (sg x) g:=fZ (sg x) u p;have M:=kM (sg x) g p;unfold JK;refine b7 (n:=n+27) (c':=c) (λ r h=>?_) ?_;show r (((ay (sg x) g:Nat):Int) != 0) c;rw[show ((((ay (sg x) g:Nat):Int) != 0)=true) from bne_iff_ne.mpr (U196 l)];exact h;refine aN (n:=n+26) (.d<|.int<|(ay (sg x) g:Nat)) (λ r h=>h) ?_;refine dq (n:=n+26)<|xH (n:=n+6) W Y hp T t q u p z (λ nn R=>?_)<|.inl rfl;have w:bH x gl (i+1)=if Re.junkB ((sg x).drop<|ay (sg x) a)=true then bH x gl i else (ay (sg x) a,ay (sg x) g):=by rw[HN,List.getD_eq_getElem?_getD,List.getD_eq_getElem?_getD,t,q];rfl
   refine bQ (n:=n+24) (Re.junkB<|(sg x).drop<|ay (sg x) a) (c':=c) (λ r h=>sM (n:=n+19) T hj I (U195 l M) rfl rfl r h) ?_;cases hq:Re.junkB ((sg x).drop<|ay (sg x) a) with|true=>rw[hq,Wy rfl] at w;refine aN (n:=n+22) (.d<|.int<|(i:Nat)) (λ r h=>?_)<|aM<|aM ⟨i,_,Nat.lt_succ_self _,Cj (i:=i) W Y hp (.inl rfl)<|.inl rfl,i,a,rfl,t,w▸o,rfl⟩;have e:(((i+1:Nat):Int)-1)=(i:Nat):=U88;show r (.d<|.int<|((i+1:Nat):Int)-1) c;rw[e];exact h|false=>rw[hq,Wg<|{4}] at w;exact h1 i a g nn R t q<|by rw[<-o,w]
 have U:i=0:=by
  have:((i:Nat):Int)=0:=by simpa using he
  exact U49 this
 subst U;have:g=0:=by have h2:=G.hd;rw[List.head?_eq_getElem?,q] at h2;cases h2;rfl
 subst this;rw[cx];exact aM<|h0<|by rw[<-o];rfl
end
section
open PySem.StrLaws PySem.Builtin.Str
def fe (x:Str)(c:Nat):Txt.contains x ⟨#[c]⟩=(sg x).contains c:=by unfold Txt.contains;rw[occ_eq,me x ⟨#[c]⟩ x.length _ 0<|λ m _=>Zj _];cases e:(List.range' 0<|x.length+1-0).find? (λ i=>decide (i+(⟨#[c]⟩:Str).length<=x.length)&&subAt x ⟨#[c]⟩ i) with|none=>show false=_;symm;rw[List.contains_eq_mem,decide_eq_false_iff_not];intro j;obtain⟨i,f⟩:=List.getElem?_of_mem j;have k:=(subAt_one x c i).mpr f;have b:=(Qw.mp f).1;have:=List.find?_eq_none.mp e i<|List.mem_range'_1.mpr (by have:=am x;unfold sg at *;exact U276 b);rw[Xv,decide_eq_true_eq] at this;exact this k|some i=>show true=_;symm;have h:=(List.find?_eq_some_iff_append.mp e).1;rw[Xv,decide_eq_true_eq] at h;rw[List.contains_eq_mem,decide_eq_true_eq];exact Qg<|(subAt_one x c i).mp h
structure L2 where
 p:Nat
 last:Str
 st:List Nat
 br:List (Nat×Nat)
noncomputable def aZ (c:Nat):Bool:=c==32||c==9||c==10
def d0 (l:List Nat):Option Nat:=l.reverse.find? λ c=>!aZ c
def ij (l:List Nat)(c:Nat):d0 (l++[c])=if aZ c=true then d0 l else Kf c:=by unfold d0;rw[List.reverse_append,List.reverse_singleton,List.singleton_append,List.find?_cons];cases aZ c<;>rfl
def lastOf (r:List Nat)(last:Str):Str:=match d0 r with|some c=>⟨#[c]⟩|none=>last
noncomputable def dL (p1:Nat)(last1:Str)(st:List Nat)(br:List<|Nat×Nat)(w:List Nat):L2:=match w with
 | []=>⟨p1,last1,st,br⟩
 |ch::r=>
  if ch=40\/ch=91\/ch=123 then ⟨p1+1,⟨#[ch]⟩,st++[p1],br++[(p1,st.length+1)]⟩
  else if ch=41\/ch=93\/ch=125 then ⟨p1+1,⟨#[ch]⟩,st.dropLast,br++[(p1+1,st.dropLast.length)]⟩
  else if ch=34\/ch=39 then ⟨p1+Re.strEnd (ch::r),⟨#[ch]⟩,st,br++[(p1,st.length+1)]++[(p1+Re.strEnd (ch::r),st.length)]⟩
  else if ch=35 then ⟨p1+(r.takeWhile<|λ c=>c != 10).length+2,last1,st,br++[(p1,st.length+1)]++[(p1+(r.takeWhile<|λ c=>c != 10).length+2,st.length)]⟩
  else match r with| []=>⟨p1+1,last1,st,br⟩|d::_=>⟨p1+2,if d=10 then last1 else ⟨#[ch,d]⟩,st,br⟩
def au (x:Str)(q p:Nat):List Nat:=((sg x).take q).drop p
def dH (x:Str)(q:Nat)(s:L2):L2:=
 dL (s.p+((au x q s.p).takeWhile Re.ord_).length) (lastOf ((au x q s.p).takeWhile Re.ord_) s.last) s.st s.br ((au x q s.p).dropWhile Re.ord_)
section
def xE {f i j:IE}{k:Option Nat}{v1 v2 v3:V}{K:V->aa->Prop}(o:∀b:V->aa->Prop,b u c->aU P (n+4) f l c b)(p:∀b:V->aa->Prop,b v1 c->aU P (n+3) e l c b)(q:∀b:V->aa->Prop,b v2 c->aU P (n+2) i l c b)(r:∀b:V->aa->Prop,b v3 c->aU P (n+1) j l c b) (h:d8 P c k u [v1,v2,v3] K):aU P (n+5) (.call f [e,i,j] k) l c K:=by rw[jv];refine o _ ?_;rw[bx];refine p _ ?_;rw[bx];refine q _ ?_;rw[bx];refine r _ ?_;exact h
def cC {p:Nat}(b:q<=x.length):(au x q p).length=q-p:=by unfold au;rw[Xp,List.length_take];have:=am x;exact U275 b
noncomputable def Ky:Option Nat->V
 |some e=>.mt (e:Nat)|none=>.d .none
def od (T:TextOk x)(j:P.isFn a=true)(f:P.fn a=aP code){p N:Nat}{r:Option Nat}(b:p<q)(k:q<=x.length)(o:1<=N/\N<2 ^ 60)(t:Re.Ends ⟨code,x.cps,q,p⟩ r N<|Re.start (Sre.header code).2 p) (w:(Sre.header code).1=1) {l:Sl} (y:av l 1=Kf (.d<|.str x)) (z:av l 4=Kf (.d<|.int (p:Nat))) (G:av l 5=Kf (.d<|.int (q:Nat))) (i:V->aa->Prop)(h:i (Ky r) c):aU P (n+5) (.call (.g<|.val<|.ref a) [(.v 1),(.v 4),(.v 5)] Wq) l c i:=by have hl:=am x;have I:=T.len;refine xE (n:=n) (u:=.val<|.ref a) (v1:=.d<|.str x) (v2:=.d<|.int (p:Nat)) (v3:=.d<|.int (q:Nat)) (λ i h=>h) (cJ y) (cJ z) (cJ G) ?_;refine⟨j,?_⟩;rw[f];refine⟨x,p,q,r,N,.inr rfl,by exact U58 b,k,by exact U63 I,o,.inl ⟨t,by rw[w];exact U198 b⟩,?_⟩;cases r with|none=>exact⟨λ _ q=>q,h⟩|some e=>exact⟨λ _ q=>q,h⟩
def tS (T:TextOk x)(r:P.isFn a=true)(k:P.fn a=aP Re.chewC){p:Nat}(b:p<q)(i:q<=x.length)(t:av l 1=Kf (.d<|.str x))(u:av l 4=Kf (.d<|.int (p:Nat)))(w:av l 5=Kf (.d<|.int (q:Nat)))(j:V->aa->Prop)(h:j (if ((au x q p).takeWhile Re.ord_).length=0 then .d .none else .mt ((p+((au x q p).takeWhile Re.ord_).length:Nat))) c):aU P (n+5) (.call (.g<|.val<|.ref a) [(.v 1),(.v 4),(.v 5)] Wq) l c j:=by
 have o:=T.len;have hl:=am x;have f:(au x q p).length<=4294967295:=by rw[cC i];unfold big at o;exact U274 i o
 refine od T r k b i (N:=4) {4} (Re.chew_ok (nr x (U58 b) i) (jL T p q) f) rfl t u w j ?_;show j (Ky<|if ((au x q p).takeWhile Re.ord_).length=0 then Wq else Kf (p+((au x q p).takeWhile Re.ord_).length)) c;split at h;rename_i e;rw[Wy e];exact h;rename_i e;rw[Wg e];exact h
def vN (T:TextOk x)(w:P.isFn a=true)(o:P.fn a=aP Re.strC){p:Nat}(i:p<q)(f:q<=x.length){ch:Nat}(y:au x q p=ch::r)(t:ch=34\/ch=39)(z:av l 1=Kf (.d<|.str x))(G:av l 4=Kf (.d<|.int (p:Nat)))(I:av l 5=Kf (.d<|.int (q:Nat)))(u:V->aa->Prop)(h:u (.mt<|(p+Re.strEnd (ch::r):Nat)) c):aU P (n+5) (.call (.g<|.val<|.ref a) [(.v 1),(.v 4),(.v 5)] Wq) l c u:=by
 have j:=T.len;have hl:=am x;have b:(au x q p).length=q-p:=cC f;have k:=nr x (p:=p) (q:=q) (st:=p) (code:=Re.strC) (U58 i) f;have e:=jL T p q;change Re.At _ p (au x q p) at k;change Re.Low (au x q p) at e;rw[y] at k e b;simp only[Qz] at b;unfold big at j;have J:Re.Ends ⟨Re.strC,x.cps,q,p⟩ (Kf<|p+Re.strEnd (ch::r)) (20*r.length+60) (Re.start 10 p):=by
  rcases t with rfl|rfl
  exact Re.str_ok false k (Re.low_next e)<|U273 f j b;exact Re.str_ok true k (Re.low_next e)<|U273 f j b
 exact od T w o i f (N:=20*r.length+60) ⟨by exact {1},by exact Gi {Xx 20<|Nat.le_of_eq b,Xx 20<|Zk (Nat.sub_le q p) f,Xx 20 (hl▸j:x.length+5<=1048576)}⟩ J rfl z G I u h
end
end
noncomputable def b9 (br:List<|Nat×Nat):List D:=br.map λ r=>.tup [.int (r.1:Nat),.int (r.2:Nat)]
def Cs (c0:aa)(A B Z:Nat)(st:List Nat)(br:List<|Nat×Nat):aa:=c0++[(A,.list<|ao st)]++[(B,.bound "list.append" A)]++[(Z,.list<|b9 br)]
structure Cel2 (c0:aa)(A B Z k:Nat)(pr:List Nat):Prop where
 a:A∉dom c0
 b:B∉dom c0
 z:Z∉dom c0
 ab:A≠B
 az:A≠Z
 bz:B≠Z
 w:Wf c0
 k_:k∈dom c0
 pr:∀j∈pr,j∈dom c0
section
variable {c0:aa}{A B Z:Nat}(C:Cel2 c0 A B Z k pr){st:List Nat}
def yo:dom (Cs c0 A B Z st br)=dom c0++[A]++[B]++[Z]:=by unfold Cs;rw[al,al,al]
def ap {o:O}(h:j∉dom c):ae (c++[(j,o)]) i=if i=j then Kf o else ae c i:=aY h i
include C
def nb:B∉dom (c0++[(A,.list<|ao st)]):=by rw[al];simp[C.b,Ne.symm C.ab]
def nz:Z∉dom (c0++[(A,.list<|ao st)]++[(B,.bound "list.append" A)]):=by rw[al,al];simp[C.z,Ne.symm C.az,Ne.symm C.bz]
def wS:ae (Cs c0 A B Z st br) A=Kf (.list<|ao st):=by unfold Cs;rw[ap<|nz C,Wg C.az,ap<|nb C,Wg C.ab,ap C.a,Wy rfl]
def Fd:ae (Cs c0 A B Z st br) B=Kf (.bound "list.append" A):=by unfold Cs;rw[ap<|nz C,Wg C.bz,ap<|nb C,Wy rfl]
def yN:ae (Cs c0 A B Z st br) Z=Kf (.list<|b9 br):=by unfold Cs;rw[ap<|nz C,Wy rfl]
def r9 (h:j∈dom c0):ae (Cs c0 A B Z st br) j=ae c0 j:=by have f:j≠A:=λ e=>C.a<|e▸h;have i:j≠B:=λ e=>C.b<|e▸h;have l:j≠Z:=λ e=>C.z<|e▸h;unfold Cs;rw[ap<|nz C,Wg l,ap<|nb C,Wg i,ap C.a,Wg f]
theorem oQ (h:j∈dom c0):j∈dom (Cs c0 A B Z st br):=by rw[yo];simp[h]
def qT (st':List Nat):cset (Cs c0 A B Z st br) A (.list<|ao st')=Cs c0 A B Z st' br:=by
 have b:A∈dom (c0++[(A,O.list<|ao st)]):=by rw[al];simp
 unfold Cs;rw[bd (by rw[al];simp[b]),bd b,eR C.a]
def Ao (b:List<|Nat×Nat):cset (Cs c0 A B Z st br) Z (.list<|b9 b)=Cs c0 A B Z st b:=by unfold Cs;rw[eR<|nz C]
def Gu:cK (Cs c0 A B Z st br) (Cs c0 A B Z st br) (Cs c0 A B Z st br):=by
 rw[celW_iff];intro p b;have h:∀j∈dom c0,j∈dom (Cs c0 A B Z st br):=λ j i=>oQ C i;have l:A∈dom (Cs c0 A B Z st br):=by rw[yo];simp
 unfold Cs at b;rcases Qu.mp b with b|b
 rcases Qu.mp b with b|b
 rcases Qu.mp b with b|b
 obtain⟨o,f,q⟩:=celW_iff.mp C.w.w p b;exact⟨o,by rw[r9 C<|aj f];exact f,gU h q⟩;have e:p=(A,.list<|ao st):=by simpa using b
 subst e;exact⟨_,wS C,rfl⟩;have e:p=(B,.bound "list.append" A):=by simpa using b
 subst e;exact⟨_,Fd C,rfl,rfl,l⟩;have e:p=(Z,.list<|b9 br):=by simpa using b
 subst e;exact⟨_,yN C,rfl⟩
end
abbrev S2 (k:Nat) (x:Str) (gl:List Nat) (A B Z:Nat) (i p q nn last m np ch:Option V):Sl:=[Kf<|.obj k,Kf<|.d<|.str x,Kf<|.d<|.lst<|ao gl,i,p,q,nn,last,Kf<|.obj A,Kf<|.obj B,Kf<|.obj Z,m,np,ch]
def dr (C:aa)(o o':Option V):Prop:=o'=Wq\/∃v,o=Kf v/\o'=Kf v/\Jb C v
def dZ (C:aa)(o:Option V):dr C o Wq:=.inl rfl
def iC (C:aa)(d:D):dr C (Kf<|.d d) (Kf<|.d d):=.inr ⟨_,rfl,rfl,trivial⟩
def ck {r:Sl}{b:Option V}(h:dr c (av l i) b)(k:yU l c c (i+1) r):yU l c c i (b::r):=by
 rcases h with rfl|⟨v,e,rfl,f⟩
 exact k;exact⟨⟨v,e,.inl ⟨rfl,f⟩⟩,k⟩
def B0 {c0:aa}{A B Z:Nat}(C:Cel2 c0 A B Z k pr){st:List Nat}{t:List Nat}{i p q nn last m u ch w b m' e f:Option V}(hi:dr (Cs c0 A B Z st br) i w) (y:dr (Cs c0 A B Z st br) p p) (z:dr (Cs c0 A B Z st br) q q) (G:dr (Cs c0 A B Z st br) nn b) (hl:dr (Cs c0 A B Z st br) last last) (I:dr (Cs c0 A B Z st br) m m') (h:dr (Cs c0 A B Z st br) u e) (l:dr (Cs c0 A B Z st br) ch f) :Wk pr ⟨S2 k x t A B Z i p q nn last m u ch,Cs c0 A B Z st br⟩ ⟨S2 k x t A B Z w p q b last m' e f,Cs c0 A B Z st br⟩:=by have o:∀j,j∈dom (Cs c0 A B Z st br)->dr (Cs c0 A B Z st br) (Kf<|.obj j) (Kf<|.obj j):=λ j r=>.inr ⟨_,rfl,rfl,r⟩;refine⟨?_,rfl,Gu C,λ j r=>oQ C<|C.pr j r⟩;exact ck (o k<|oQ C C.k_)<|ck (iC _ _)<|ck (iC _ _)<|ck hi<|ck y<|ck z<|ck G<|ck hl<|ck (o A<|aj<|wS C)<|ck (o B<|aj<|Fd C)<|ck (o Z<|aj<|yN C)<|ck I<|ck h<|ck l trivial
noncomputable def qC:IS:=.while_ (.and (.cmp .GtE (.v 3)<|.v 4)<|.cmp .In (.item (.v 1)<|.v 3)<|.c<|.str ⟨#[32,9,10]⟩) [.asg 3<|.bin .Sub (.v 3)<|.c<|.int 1] []
section
variable {c0:aa}{A B Z:Nat}
def xq (C:Cel2 c0 A B Z k pr)(T:TextOk x){p:Nat}{st:List Nat}{nn m l ch:Option V}(t:dr (Cs c0 A B Z st br) nn nn)(R:dr (Cs c0 A B Z st br) m m)(u:dr (Cs c0 A B Z st br) l l)(w:dr (Cs c0 A B Z st br) ch ch){run:List Nat} (o:∀j d,run[j]?=Kf d->(sg x)[p+j]?=Kf d) {n:Nat} {K:F->Sg'->Prop}(h:∀j:Nat,(j=0/\d0 run=Wq\/∃d,0<j/\(sg x)[p+j-1]?=Kf d/\d0 run=Kf d)->K .next ⟨S2 k x gl A B Z (Kf<|.d<|.int<|((p+j:Nat):Int)-1) (I_ p) (I_ q) nn (Kf<|.d<|.str last) m l ch,Cs c0 A B Z st br⟩) :oK P pr (n+20) qC ⟨S2 k x gl A B Z (Kf<|.d<|.int<|((p+run.length:Nat):Int)-1) (I_ p) (I_ q) nn (Kf<|.d<|.str last) m l ch,Cs c0 A B Z st br⟩ K:=by
 have hl:=am x;have U:=T.len;unfold qC;refine⟨λ y τ=>∃j,y=j/\j<=run.length/\d0 (run.take j)=d0 run/\τ=⟨S2 k x gl A B Z (Kf<|.d<|.int<|((p+j:Nat):Int)-1) (I_ p) (I_ q) nn (Kf<|.d<|.str last) m l ch,Cs c0 A B Z st br⟩,run.length,⟨_,rfl,Zv _,by rw[List.take_length],rfl⟩,?_⟩;intro j τ e_;obtain⟨_,rfl,I,f,rfl⟩:=e_;show ((decide<|((p:Nat):Int)<=((p+j:Nat):Int)-1)=false->_)/\((decide<|((p:Nat):Int)<=((p+j:Nat):Int)-1)=true->_);refine⟨λ e=>?_,λ e=>?_⟩;have z:j=0:=by have:=of_decide_eq_false e;exact U282 this
 subst z;refine⟨(λ e=>by contradiction),λ _=>aM<|h 0<|.inl ⟨rfl,?_⟩⟩;rw[<-f];rfl;obtain⟨b,rfl⟩:∃b,j=b+1:=⟨j-1,by have:=of_decide_eq_true e;exact U281 this⟩;obtain⟨d,J⟩:∃d,run[b]?=Kf d:=⟨_,Qk<|U74 I⟩;have i:=o b d J;have G:=(Qw.mp i).1;have L:(((p+(b+1):Nat):Int)-1)=((p+b:Nat):Int):=Int.le_antisymm {0} {0};have hit:=eA i;have M:run.take (b+1)=run.take b++[d]:=by rw[List.take_add_one,J];rfl
 refine d6 (n:=n+17) (.d<|.str<|Txt.item x<|((p+(b+1):Nat):Int)-1) (.d<|.str ⟨#[32,9,10]⟩) (λ r h=>?_) (λ r h=>h) ?_;refine bS (n:=n+16) (.d<|.str x) (.d<|.int<|((p+(b+1):Nat):Int)-1) (λ r h=>h) (λ r h=>h) ⟨by exact U279,by exact U278 G,by exact U63 U,h⟩;rw[L,hit];show (Txt.contains ⟨#[32,9,10]⟩ ⟨#[d]⟩=true->_)/\(Txt.contains ⟨#[32,9,10]⟩ ⟨#[d]⟩=false->_);have W:Txt.contains ⟨#[32,9,10]⟩ ⟨#[d]⟩=aZ d:=by rw[fe];show ([32,9,10]:List Nat).contains d=_;unfold aZ;simp only[List.contains_cons,List.contains_nil,Bool.or_false,Bool.or_assoc]
 rw[W];refine⟨λ e=>?_,λ e=>?_⟩;refine aN (n:=n+17) (.d<|.int<|((p+b:Nat):Int)-1) (λ r h=>h) ?_;refine aM ?_;show ∃y Y,y<b+1/\_;exact⟨b,_,Nat.lt_succ_self _,B0 C (iC _ _) (iC _ _) (iC _ _) t (iC _ _) R u w,b,rfl,by exact U73 I,by rw[<-f,M,ij,Wy e],rfl⟩;have:=h (b+1) (.inr ⟨d,by exact {1},(by rw[show p+(b+1)-1=p+b by exact U277];exact i),(by rw[<-f,M,ij,Wg<|by rw[e];decide])⟩);rw[L] at this;exact aM this
end
section
variable {c0:aa}{A B Z:Nat}{st:List Nat}
def HT (C:aa)(e:Int):dr C (Kf<|.mt e) (Kf<|.mt e):=.inr ⟨_,rfl,rfl,trivial⟩
def gv {f:IE}{i:Option Nat}{v1:V}{K:V->aa->Prop}(j:∀b:V->aa->Prop,b u c->aU P (n+2) f l c b)(o:∀b:V->aa->Prop,b v1 c->aU P (n+1) e l c b)(h:d8 P c i u [v1] K):aU P (n+3) (.call f [e] i) l c K:=by rw[jv];refine j _ ?_;rw[bx];refine o _ ?_;exact h
def ve {o:IE}{m:Mn}{v1:V}{K:V->aa->Prop}(f:∀b:V->aa->Prop,b u c->aU P (n+2) o l c b)(i:cH c u m)(j:∀b:V->aa->Prop,b v1 c->aU P (n+1) e l c b)(h:i8 c u m [v1] K):aU P (n+3) (.meth o m [e]) l c K:=by rw[fS];refine f _ ⟨i,?_⟩;rw[bx];refine j _ ?_;exact h
def rP {f:IE}{d1 d2:D}{K:V->aa->Prop}(i:∀b:V->aa->Prop,b (.d d1) c->aU P (n+2) e l c b)(j:∀b:V->aa->Prop,b (.d d2) c->aU P (n+1) f l c b)(h:K (.d<|.tup [d1,d2]) c):aU P (n+4) (.tup [e,f]) l c K:=by rw[BF,bx];refine i _ ?_;rw[bx];refine j _ ?_;exact⟨(by show 2<=big;decide),h⟩
def aW (l:List Nat):(ao l).length=l.length:=by simp[ao]
def gE (l:List<|Nat×Nat):(b9 l).length=l.length:=by simp[b9]
def Aj (C:Cel2 c0 A B Z k pr):ca (Cs c0 A B Z st br) (.obj A)=Kf (false,ao st):=by show (match ae (Cs c0 A B Z st br) A with|some (.list xs)=>Kf (false,xs)|_=>Wq)=_;rw[wS C]
def Kh (C:Cel2 c0 A B Z k pr):ca (Cs c0 A B Z st br) (.obj Z)=Kf (false,b9 br):=by show (match ae (Cs c0 A B Z st br) Z with|some (.list xs)=>Kf (false,xs)|_=>Wq)=_;rw[yN C]
def iX (C:Cel2 c0 A B Z k pr)(e:av l 8=Kf (.obj A))(f:st.length<=big)(b:V->aa->Prop)(h:b (.d<|.int (st.length:Nat))<|Cs c0 A B Z st br) :aU P (n+4) (.call (.g<|.bi .len) [(.v 8)] Wq) l (Cs c0 A B Z st br) b:=by refine gv (n:=n+1) (u:=.bi .len) (v1:=.obj A) (λ b h=>h) (cJ e) ?_;show Bk (Cs c0 A B Z st br) (.obj A) b;show aC (ca (Cs c0 A B Z st br)<|.obj A) _;rw[Aj C];exact⟨by rw[aW];exact f,by rw[aW];exact h⟩
def sj (C:Cel2 c0 A B Z k pr)(f:av l 8=Kf (.obj A))(i:st.length<=big)(b:V->aa->Prop)(h:b (.d<|.int<|(st.length+1:Nat))<|Cs c0 A B Z st br) :aU P (n+5) (.bin .Add (.call (.g<|.bi .len) [(.v 8)] Wq)<|.c<|.int 1) l (Cs c0 A B Z st br) b:=by rw[fR];refine iX C f i _ ?_;have e:((st.length:Nat):Int)+1=((st.length+1:Nat):Int):=Int.le_antisymm {0} {0};show b (.d<|.int<|((st.length:Nat):Int)+1) _;rw[e];exact h
def gV (C:Cel2 c0 A B Z k pr){p v:Nat}{r:List IS}{K:F->Sg'->Prop}(f:av l 10=Kf (.obj Z))(i:av l 4=Kf (.d<|.int (p:Nat)))(hb:br.length<=big)(j:∀b:V->aa->Prop,b (.d<|.int (v:Nat)) (Cs c0 A B Z st br)->aU P (n+1) e l (Cs c0 A B Z st br) b) (h:aJ P pr (n+7) r ⟨l,Cs c0 A B Z st<|br++[(p,v)]⟩ K) :aJ P pr (n+8) (.expr (.meth (.v 10) .append [(.tup [(.v 4),e])])::r) ⟨l,Cs c0 A B Z st br⟩ K:=by
 refine rI (n:=n+6) (.d .none) (c':=Cs c0 A B Z st<|br++[(p,v)]) (λ b o=>?_) h;refine ve (n:=n+3) (u:=.obj Z) (v1:=.d<|.tup [.int (p:Nat),.int (v:Nat)]) (cJ f) ?_ (λ b h=>rP (n:=n) (cJ i) j h) ?_;refine⟨rfl,?_⟩;rw[yN C];trivial;refine⟨rfl,?_⟩;rw[yN C];show (b9 br).length<=big/\b (.d .none) (cset (Cs c0 A B Z st br) Z<|.list<|b9 br++[.tup [.int (p:Nat),.int (v:Nat)]]);refine⟨by rw[gE];exact hb,?_⟩;have e:b9 br++[D.tup [.int (p:Nat),.int (v:Nat)]]=b9 (br++[(p,v)]):=by simp[b9]
 rw[e,Ao C];exact o
def BA (C:Cel2 c0 A B Z k pr){p:Nat}{r:List IS}{K:F->Sg'->Prop}(b:av l 9=Kf (.obj B))(f:av l 4=Kf (.d<|.int (p:Nat)))(i:st.length<=big)(h:aJ P pr (n+5) r ⟨l,Cs c0 A B Z (st++[p]) br⟩ K) :aJ P pr (n+6) (.expr (.call (.v 9) [(.v 4)] Wq)::r) ⟨l,Cs c0 A B Z st br⟩ K:=by
 refine rI (n:=n+4) (.d .none) (c':=Cs c0 A B Z (st++[p]) br) (λ o j=>?_) h;refine gv (n:=n+1) (u:=.obj B) (v1:=.d<|.int (p:Nat)) (cJ b) (cJ f) ?_;show iE (ae (Cs c0 A B Z st br) B) _;rw[Fd C];refine⟨rfl,?_⟩;show dB (ae (Cs c0 A B Z st br) A) _;rw[wS C];refine⟨by rw[aW];exact i,?_⟩;have e:ao st++[D.int (p:Nat)]=ao (st++[p]):=by simp[ao]
 rw[e,qT C];exact j
def vK (cr:Ww):List IS:=[.asg 11 (.call (.g (.val (.ref cr))) [(.v 1),(.v 4),(.v 5)] Wq),.if_ (.v 11) [.asg 12 (.meth (.v 11) .end_ []),.asg 3 (.bin .Sub (.v 12) (.c (.int 1))),qC,.if_ (.cmp .GtE (.v 3) (.v 4)) [.asg 7 (.item (.v 1) (.v 3))] [],.asg 4 (.v 12),.if_ (.cmp .GtE (.v 4) (.v 5)) [.brk] []] []]
def yg {p:Nat}(f:q<=x.length)(j d:Nat)(h:((au x q p).takeWhile Re.ord_)[j]?=Kf d):(sg x)[p+j]?=Kf d:=by
 have b:(au x q p)[j]?=Kf d:=by have e:=(Qw.mp h).1;rw[<-Re.tw_take Re.ord_ (au x q p),List.getElem?_take,Wy e] at h;exact h
 unfold au at b;rw[Zx,List.getElem?_take] at b;split at b;exact b;contradiction
def ua (C:Cel2 c0 A B Z k pr)(T:TextOk x){M:Ww}(R:P.isFn M=true)(U:P.fn M=aP Re.chewC){p:Nat}(u:p<q)(W:q<=x.length){i nn m t ch:Option V}(Y:nn=Wq\/∃d,nn=Kf (.d d))(hch:ch=Wq){r:List IS}{K:F->Sg'->Prop}(hb:(au x q p).dropWhile Re.ord_=[]->∀i m t,K .brk ⟨S2 k x gl A B Z i (I_<|p+((au x q p).takeWhile Re.ord_).length) (I_ q) nn (Kf<|.d<|.str<|lastOf ((au x q p).takeWhile Re.ord_) last) m t ch,Cs c0 A B Z st br⟩)(hn:(au x q p).dropWhile Re.ord_≠[]->∀i m t,aJ P pr (n+38) r ⟨S2 k x gl A B Z i (I_<|p+((au x q p).takeWhile Re.ord_).length) (I_ q) nn (Kf<|.d<|.str<|lastOf ((au x q p).takeWhile Re.ord_) last) m t ch,Cs c0 A B Z st br⟩ K) :aJ P pr (n+40) (vK M++r) ⟨S2 k x gl A B Z i (I_ p) (I_ q) nn (Kf<|.d<|.str last) m t ch,Cs c0 A B Z st br⟩ K:=by
 have w:∀C,dr C nn nn:=λ C=>by rcases Y with rfl|⟨d,rfl⟩;exact dZ _ _;exact iC _ _
 subst hch;have hl:=am x;have hT:=T.len;have y:=cC (p:=p) W;have hsplit:((au x q p).takeWhile Re.ord_).length+((au x q p).dropWhile Re.ord_).length=q-p:=by rw[<-Qj,List.takeWhile_append_dropWhile,y]
 have z:=yg (x:=x) (p:=p) W;generalize hw:(au x q p).takeWhile Re.ord_=run at *
 generalize hd:(au x q p).dropWhile Re.ord_=dr' at *
 show aJ P pr (n+40) (.asg 11 _::.if_ (.v 11) _ []::r) _ K;refine aN (n:=n+38) (if run.length=0 then .d .none else .mt ((p+run.length:Nat))) (λ b h=>tS (n:=n+33) T R U u W rfl rfl rfl b<|by rw[hw];exact h) ?_;by_cases J:run.length=0;rw[Wy J];have hr0:run=[]:=List.length_eq_zero_iff.mp J;have hne:dr'≠[]:=λ e=>by rw[e,J] at hsplit;simp at hsplit;exact U290 u hsplit
 refine bQ (n:=n+37) false (c':=Cs c0 A B Z st br) (λ b h=>h)<|aM ?_;have:=hn hne i (Kf<|.d .none) t;subst hr0;exact this
 ·rw[Wg J]
  refine bQ (n:=n+37) true (c':=Cs c0 A B Z st br) (λ b h=>h) ?_;show aJ P pr (n+37) [_,_,_,_,_,_] _ _;refine aN (n:=n+35) (.d<|.int<|(p+run.length:Nat)) (λ b h=>by rw[fS];exact cJ (n:=n+33) (v:=.mt<|(p+run.length:Nat)) rfl _ ⟨rfl,rfl,rfl,h⟩) ?_;refine aN (n:=n+34) (.d<|.int<|((p+run.length:Nat):Int)-1) (λ b h=>h) ?_;refine dq (n:=n+34)<|xq (n:=n+14) C T (w _) (HT _ _) (iC _ _) (dZ _ _) z λ j R=>?_
  have go:∀l,l=lastOf run last->∀i,aJ P pr (n+33) [.asg 4<|.v 12,.if_ (.cmp .GtE (.v 4)<|.v 5) [.brk] []] ⟨S2 k x gl A B Z i (I_ p) (I_ q) nn (Kf<|.d<|.str l) (Kf<|.mt<|(p+run.length:Nat)) (Kf<|.d<|.int<|(p+run.length:Nat)) Wq,Cs c0 A B Z st br⟩
    (λ f τ=>match f with | .next=>aJ P pr (n+38) r τ K|f=>K f τ):=by
   intro l e i;subst e;refine aN (n:=n+31) (.d<|.int<|(p+run.length:Nat)) (λ b h=>h) ?_;by_cases L:dr'=[];rw[L] at hsplit;dsimp only[List.length_nil,Nat.add_zero] at hsplit;refine bQ (n:=n+30) true (c':=Cs c0 A B Z st br) (λ b h=>?_) ?_;show b (decide<|((q:Nat):Int)<=((p+run.length:Nat):Int)) _;rw[decide_eq_true<|U289 hsplit];exact h;exact hb L i _ _;have:0<dr'.length:=List.length_pos_iff.mpr L;refine bQ (n:=n+30) false (c':=Cs c0 A B Z st br) (λ b h=>?_) ?_;show b (decide<|((q:Nat):Int)<=((p+run.length:Nat):Int)) _;rw[decide_eq_false<|U288 hsplit this];exact h;exact aM<|aM<|hn L i _ _
  rcases R with ⟨rfl,o⟩|⟨d,G,I,o⟩
  refine bQ (n:=n+32) false (c':=Cs c0 A B Z st br) (λ b h=>?_) (aM<|go last ?_ _);show b (decide<|((p:Nat):Int)<=((p+0:Nat):Int)-1) _;rw[decide_eq_false<|U287];exact h;unfold lastOf;rw[o];refine bQ (n:=n+32) true (c':=Cs c0 A B Z st br) (λ b h=>?_) ?_;show b (decide<|((p:Nat):Int)<=((p+j:Nat):Int)-1) _;rw[decide_eq_true {0,(Om.zl G)}];exact h;have ei:(((p+j:Nat):Int)-1)=((p+j-1:Nat):Int):=U285 G;have hlt:=(Qw.mp I).1;refine aN (n:=n+30) (.d<|.str<|Txt.item x<|((p+j:Nat):Int)-1) (λ b h=>bS (n:=n+29) (.d<|.str x) (.d<|.int<|((p+j:Nat):Int)-1) (λ b h=>h) (λ b h=>h) ⟨by exact U284 ei,by exact U283 hlt,by exact U63 hT,h⟩) ?_;rw[ei,eA I];exact aM<|go _ (by unfold lastOf;rw[o]) _
end
section
open PySem.StrLaws PySem.Builtin.Str
def Ah (x:Str)(lim:Nat)(m:Nat):∀(a free:Nat) (acc:Array Nat),free<=a->acc.size+m<=lim->a+m=x.length+1->(forIn (List.range' a m) (acc,free)<|occBody x ⟨#[10]⟩ x.length lim).run.fst.size=acc.size+aG ((sg x).drop a):=by
 induction m with|zero=>intro a free acc _ _ h;rw[List.drop_of_length_le (by have:=am x;exact U539 h)];rfl|succ m rH=>
  intro a free acc i hl h;have j:=am x;show (forIn (a::List.range' (a+1) m) (acc,free)<|occBody x ⟨#[10]⟩ x.length lim).run.fst.size=_;rw[List.forIn_cons];have nR:aG ((sg x).drop a)=(if (sg x)[a]?=Kf 10 then 1 else 0)+aG ((sg x).drop<|a+1):=by by_cases b:a<(sg x).length;rw[List.drop_eq_getElem_cons b,Qk b];show (if (sg x)[a]=10 then 1 else 0)+_=_;by_cases e:(sg x)[a]=10;rw[Wy e,Wy<|by rw[e]];rw[Wg e,Wg<|λ q=>e<|Option.some.inj q];rw[List.drop_of_length_le (by exact U537 b),List.drop_of_length_le (by exact {(Om.nl b)}),List.getElem?_eq_none (by exact U537 b),Wg nofun];rfl
  unfold occBody;by_cases f:(sg x)[a]?=Kf 10;have b:=(Qw.mp f).1;rw[Wy ⟨⟨⟨by show acc.size<lim;exact U536 hl,i⟩,by show a+1<=x.length;exact U535 b⟩,((subAt_one x 10 a).mpr f).2⟩];rw[nR,Wy f];refine (rH (a+1) (a+1) (acc.push a) (Zv _) (by rw[Array.size_push];exact {hl})<|by exact U530 h).trans ?_;rw[Array.size_push];exact Om.an {1} {1};rw[Wg (λ q=>f<|(subAt_one x 10 a).mp ⟨q.1.2,q.2⟩),nR,Wg f];refine (rH (a+1) free acc (by exact {i}) (by exact {hl})<|by exact U530 h).trans ?_;exact Om.an {1} {1}
def x9 (x:Str):Txt.count x ⟨#[10]⟩=(aG (sg x):Nat):=by
 unfold Txt.count;rw[occ_eq];have:=Ah x (x.length+1) (x.length+1-0) 0 0 #[] (Zv _) (by simp)<|by simp
 rw[Array.length_toList,this];simp
def vC (x:Str){a:Nat}(b:a<=x.length):Txt.slice x (Kf (a:Int)) Wq=⟨((sg x).drop a).toArray⟩:=by
 have i:=am x;have e:strSliceIndices (Kf (a:Int)) Wq 1 x.length=strSliceIndices (Kf (a:Int)) (Kf ((x.length:Nat):Int)) 1 x.length:=by unfold strSliceIndices;have f:¬(((x.length:Nat):Int)<0):=U17;dsimp only[f,if_false,show (1:Int) > 0 from by decide,if_true];congr 1;exact (show (x.length:Int)=max 0 (min (x.length:Int) x.length) by exact U528)
 have h:Txt.slice x (Kf (a:Int)) Wq=Txt.slice x (Kf (a:Int)) (Kf ((x.length:Nat):Int)):=by unfold Txt.slice;rw[e]
 rw[h,gR x b (by exact U524 b),List.take_of_length_le<|by rw[Xp];exact U527]
def vJ (x:Str)(b:Nat):Txt.slice x Wq (Kf (b:Int))=⟨((sg x).take b).toArray⟩:=by
 have e:strSliceIndices Wq (Kf (b:Int)) 1 x.length=strSliceIndices (Kf ((0:Nat):Int)) (Kf (b:Int)) 1 x.length:=by unfold strSliceIndices;dsimp only[show (1:Int) > 0 from by decide,if_true];congr 1
 have f:Txt.slice x Wq (Kf (b:Int))=Txt.slice x (Kf ((0:Nat):Int)) (Kf (b:Int)):=by unfold Txt.slice;rw[e]
 rw[f,gR x (Zj b)<|Zj _];rfl
section
section
variable {a b:IE}
def GV (e:Ex P n l c a<|sV x)(hb:Ex P n l c b<|sV y)(h:x.length+y.length<=big):Ex P (n+1) l c (.bin .Add a b) (sV<|x++y):=iB e hb λ _ k=>⟨h,k⟩
def mT {ys:List D}(e:Ex P n l c a<|.d<|.lst xs)(hb:Ex P n l c b<|.d<|.lst ys)(h:xs.length+ys.length<=big):Ex P (n+1) l c (.bin .Add a b) (.d<|.lst<|xs++ys):=iB e hb λ _ k=>⟨h,k⟩
def jX (h:pD P n l c es vs)(e:iA vs=Kf ds)(hl:ds.length<=big):Ex P (n+1) l c (.tup es) (.d<|.tup ds):=λ f k=>h _<|by rw[e];exact⟨hl,k⟩
def ja (h:pD P n l c es vs)(e:iA vs=Kf ds)(hl:ds.length<=big):Ex P (n+1) l c (.lst es Wq) (.d<|.lst ds):=λ f k=>h _<|by rw[e];exact⟨hl,k⟩
def Cp (e:Ex P (n+1) l c a<|.d<|.lst xs)(f:xs.length<=big):Ex P (n+3) l c (.call (.g<|.bi .len) [a] Wq) (nV xs.length):=kN xg (x1 e x0) λ _ k=>⟨f,k⟩
def Er {q:Bool}(e:Ex P n l c a u)(hb:Ex P n l c b v)(h:∀K:Bool->Prop,K q->gH c op u v K):Ex P (n+1) l c (.cmp op a b) (.d<|.bool q):=λ f k=>e _<|hb _<|h _ k
def Do (e:Ex P n l c a<|sV<|ch z)(hb:Ex P n l c b<|sV ⟨w.toArray⟩):Tx P (n+1) l c (.cmp .In a b) (w.contains z):=cM e hb λ K k=>by show K (Txt.contains ⟨w.toArray⟩<|ch z);rw[fe];exact k
def Io (e:Ex P n l c a<|sV<|ch z)(hb:Ex P n l c b<|sV ⟨w.toArray⟩):Tx P (n+1) l c (.cmp .NotIn a b) (!w.contains z):=cM e hb λ K k=>by show K (!Txt.contains ⟨w.toArray⟩ (ch z));rw[fe];exact k
def wD {p q:Bool}(f:Tx P n l c a p)(hb:p=true->Tx P n l c b q):Tx P (n+1) l c (.and a b) (p&&q):=λ h k=>f _ ⟨λ e=>by rw[e] at k;exact k,λ e=>hb e _<|by rw[e] at k;exact k⟩
end
noncomputable def cu (L:List<|Option D):Sl:=L.map<|Option.map V.d
def zx (C:aa)(L:List<|Option D):∀(M:List<|Option D),yU (cu<|M++L) C C M.length (cu L):=by induction L with|nil=>intro M;exact trivial|cons o L rH=>intro M;have r:=rH<|M++[o];rw[Qv,Qj] at r;cases o with|none=>exact r|some d=>exact⟨⟨.d d,by unfold av cu;rw[Xy,List.getElem?_append_right<|Zv _,Nat.sub_self];rfl,vD _ _ _⟩,r⟩
def H8 (W:Wf c)(L:List<|Option D):Wk (dom c) ⟨cu L,c⟩ ⟨cu L,c⟩:=⟨zx c L [],rfl,W.w,λ _ h=>h⟩
variable {K:F->Sg'->Prop}{r a b:List IS}{t:IE}
def I4 {f:List Nat}(h:Ex P n l c e<|.d<|.tup xs)(hl:xs.length=f.length)(k:aJ P pr (n+1) r ⟨oL l f xs,c⟩ K):aJ P pr (n+2) (.unpT f e::r) ⟨l,c⟩ K:=h _ ⟨hl,k⟩
def Ko (f:List (Option D)->Sl)(P:Pm)(c:aa)(n:Nat)(r:List IS)(K:F->Sg'->Prop)(I:Nat->List (Option D)->Prop)(m:Nat)(g:F)(υ:Sg'):Prop:=match g with| .next | .cont=>∃k' υ',k'<m/\Wk (dom c) υ υ'/\∃L,υ'=⟨f L,c⟩/\I k' L| .brk=>aJ P (dom c) (n+1) r υ K| .ret v=>K (.ret v) υ
abbrev WK:=Ko cu
def pA {f:List (Option D)->Sl}(e:∀L,Wk (dom c) ⟨f L,c⟩ ⟨f L,c⟩){m':Nat}(h:m'<m)(i:I m' L'):aJ P (dom c) (q+1) [] ⟨f L',c⟩ (Ko f P c n r K I m):=⟨m',⟨f L',c⟩,h,e L',L',rfl,i⟩
def jm (W:Wf c){m':Nat}(e:m'<m)(f:I m' L'):aJ P (dom c) (q+1) [] ⟨cu L',c⟩ (WK P c n r K I m):=pA (H8 W) e f
def lN (f:List (Option D)->Sl)(I:Nat->List (Option D)->Prop)(m:Nat)(e:I m L)(h:∀m L,I m L->∃q,Tx P n (f L) c t q/\(q=true->aJ P (dom c) n a ⟨f L,c⟩ (Ko f P c n r K I m))/\(q=false->aJ P (dom c) n b ⟨f L,c⟩ (Nx P (dom c) (n+1) r K))):aJ P (dom c) (n+2) (.while_ t a b::r) ⟨f L,c⟩ K:=by refine dq ⟨λ m τ=>∃L,τ=⟨f L,c⟩/\I m L,m,⟨L,rfl,e⟩,?_⟩;intro m _ e_;obtain⟨L,rfl,i⟩:=e_;obtain⟨q,j,k,o⟩:=h m L i;exact j _ ⟨k,o⟩
def gX (I:Nat->List (Option D)->Prop)(m:Nat)(e:I m L)(h:∀m L,I m L->∃q,Tx P n (cu L) c t q/\(q=true->aJ P (dom c) n a ⟨cu L,c⟩ (WK P c n r K I m))/\(q=false->aJ P (dom c) n b ⟨cu L,c⟩ (Nx P (dom c) (n+1) r K))):aJ P (dom c) (n+2) (.while_ t a b::r) ⟨cu L,c⟩ K:=lN cu I m e h
end
end
noncomputable abbrev pg:IE:=.call (.g<|.bi .len) [(.v 8)] Wq
noncomputable abbrev pb (e:IE):IS:=.expr<|.meth (.v 10) .append [(.tup [(.v 4),e])]
noncomputable abbrev tJ:IS:=.asg 4<|.bin .Add (.v 4)<|.c<|.int 1
def wF:List IS:=[.expr<|.call (.v 9) [(.v 4)] Wq,pb pg,.asg 7<|.v 13,tJ,.cont]
def my:List IS:=[.if_ (.v 8) [.del_ (.v 8)<|.c<|.int<|-1] [],.asg 7<|.v 13,tJ,pb pg,.cont]
def EF (sr:Ww):List IS:=[pb<|.bin .Add pg<|.c<|.int 1,.asg 7<|.v 13,.asg 4<|.meth (.call (.g<|.val<|.ref sr) [(.v 1),(.v 4),(.v 5)] Wq) .end_ [],pb pg,.cont]
def FB:List IS:=[pb<|.bin .Add pg<|.c<|.int 1,.asg 4<|.bin .Add (.meth (.v 1) .find [(.c<|.str ⟨#[10]⟩),(.v 4),(.v 5)])<|.c<|.int 1,.assert<|.cmp .Gt (.v 4)<|.c<|.int 0,pb pg,.cont]
def EU:List IS:=[.assert (.cmp .Eq (.v 13) (.c (.str ⟨#[92]⟩))),tJ,.assert (.cmp .Lt (.v 4) (.v 5)),.if_ (.cmp .NotEq (.item (.v 1) (.v 4)) (.c (.str ⟨#[10]⟩))) [.asg 7 (.bin .Add (.v 13) (.item (.v 1) (.v 4)))] [],tJ]
def z5 (sr:Ww):List IS:=.asg 13 (.item (.v 1)<|.v 4)::.if_ (.cmp .In (.v 13)<|.c<|.str ⟨#[40,91,123]⟩) wF []::.if_ (.cmp .In (.v 13)<|.c<|.str ⟨#[41,93,125]⟩) my [] ::
 .if_ (.or (.cmp .Eq (.v 13)<|.c<|.str ⟨#[34]⟩)<|.cmp .Eq (.v 13)<|.c<|.str ⟨#[39]⟩) (EF sr) []::.if_ (.cmp .Eq (.v 13)<|.c<|.str ⟨#[35]⟩) FB []::EU
section
variable {c0:aa}{A B Z:Nat}{st:List Nat}{p ch:Nat}{i nn m np:Option V}{K:F->Sg'->Prop}
noncomputable abbrev mG (ch:Nat):Option V:=Kf<|.d<|.str ⟨#[ch]⟩
def xr (p:Nat):((p:Nat):Int)+1=((p+1:Nat):Int):=Int.le_antisymm {0} {0}
def DJ {a i:IE}{r:List IS}{K:F->Sg'->Prop}(e:∀b:V->aa->Prop,b u c->aU P n a l c b)(hi:∀b:V->aa->Prop,b v c->aU P n i l c b)(h:z6 c u v<|λ c3=>aJ P pr (n+1) r ⟨l,c3⟩ K) :aJ P pr (n+2) (.del_ a i::r) ⟨l,c⟩ K:=by exact e _<|hi _ h
def Ba (C:Cel2 c0 A B Z k pr)(e:st.length+2<=big)(hb:br.length+2<=big)(h:K .cont ⟨S2 k x gl A B Z i (I_<|p+1) (I_ q) nn (mG ch) m np<|mG ch,Cs c0 A B Z (st++[p])<|br++[(p,st.length+1)]⟩) :aJ P pr (n+20) wF ⟨S2 k x gl A B Z i (I_ p) (I_ q) nn (Kf<|.d<|.str last) m np<|mG ch,Cs c0 A B Z st br⟩ K:=by unfold wF;refine BA (n:=n+14) C rfl rfl (U293 e) ?_;refine gV (n:=n+11) (v:=st.length+1) C rfl rfl (U293 hb) (λ b h=>iX (n:=n+8) C rfl (by rw[Qj];dsimp only[Qz,List.length_nil];exact {e}) b<|by rw[Qj];exact h) ?_;refine aN (n:=n+16) (.d<|.str ⟨#[ch]⟩) (λ b h=>h) ?_;refine aN (n:=n+15) (.d<|.int<|(p+1:Nat)) (λ b h=>by rw[<-xr] at h;exact h) ?_;exact h
def sH (C:Cel2 c0 A B Z k pr)(f:st.length+2<=big)(hb:br.length+2<=big)(h:K .cont ⟨S2 k x gl A B Z i (I_<|p+1) (I_ q) nn (mG ch) m np<|mG ch,Cs c0 A B Z st.dropLast<|br++[(p+1,st.dropLast.length)]⟩) :aJ P pr (n+20) my ⟨S2 k x gl A B Z i (I_ p) (I_ q) nn (Kf<|.d<|.str last) m np<|mG ch,Cs c0 A B Z st br⟩ K:=by
 unfold my;have go:aJ P pr (n+19) [.asg 7<|.v 13,tJ,pb pg,.cont] ⟨S2 k x gl A B Z i (I_ p) (I_ q) nn (Kf<|.d<|.str last) m np<|mG ch,Cs c0 A B Z st.dropLast br⟩ K:=by refine aN (n:=n+17) (.d<|.str ⟨#[ch]⟩) (λ b h=>h) ?_;refine aN (n:=n+16) (.d<|.int<|(p+1:Nat)) (λ b h=>by rw[<-xr] at h;exact h) ?_;refine gV (n:=n+9) (v:=st.dropLast.length) C rfl rfl (U293 hb) (λ b h=>iX (n:=n+6) C rfl (by rw[List.length_dropLast];exact U302 f) b h) ?_;exact h
 have j:∀b:Bool->aa->Prop,b (!st.isEmpty) (Cs c0 A B Z st br)->fN P (n+18) (.v 8) (S2 k x gl A B Z i (I_ p) (I_ q) nn (Kf<|.d<|.str last) m np<|mG ch) (Cs c0 A B Z st br) b:=λ b h=>by
  show aC (ca (Cs c0 A B Z st br)<|.obj A) _;rw[Aj C];refine⟨by rw[aW];exact U293 f,?_⟩;have e:(ao st).isEmpty=st.isEmpty:=by cases st<;>rfl
  rw[e];exact h
 refine bQ (n:=n+18) (!st.isEmpty) (c':=Cs c0 A B Z st br) j ?_
 cases st with|nil=>exact aM go|cons a r=>
  show aJ P pr (n+18) [.del_ (.v 8)<|.c<|.int<|-1] _ _;refine DJ (n:=n+16) (u:=.obj A) (v:=.d<|.int<|-1) (λ b h=>h) (λ b h=>h) ?_;refine⟨rfl,?_⟩;rw[wS C];refine⟨by simp[ao],by rw[aW];exact U293 f,aM ?_⟩;have e:(ao<|a::r).dropLast=ao (a::r).dropLast:=by unfold ao;rw[List.map_dropLast]
  rw[e,qT C];exact go
def y5 (C:Cel2 c0 A B Z k pr)(T:TextOk x){e:Ww}(t:P.isFn e=true)(f:P.fn e=aP Re.strC)(j:p<q)(u:q<=x.length)(w:au x q p=ch::r)(l:ch=34\/ch=39)(o:st.length+2<=big)(hb:br.length+2<=big)(h:K .cont ⟨S2 k x gl A B Z i (I_<|p+Re.strEnd (ch::r)) (I_ q) nn (mG ch) m np<|mG ch,Cs c0 A B Z st<|br++[(p,st.length+1)]++[(p+Re.strEnd (ch::r),st.length)]⟩) :aJ P pr (n+20) (EF e) ⟨S2 k x gl A B Z i (I_ p) (I_ q) nn (Kf<|.d<|.str last) m np<|mG ch,Cs c0 A B Z st br⟩ K:=by unfold EF;refine gV (n:=n+12) (v:=st.length+1) C rfl rfl (U293 hb) (λ b h=>sj (n:=n+8) C rfl (U293 o) b h) ?_;refine aN (n:=n+17) (.d<|.str ⟨#[ch]⟩) (λ b h=>h) ?_;refine aN (n:=n+16) (.d<|.int<|(p+Re.strEnd (ch::r):Nat)) (λ b h=>?_) ?_;rw[fS];refine vN (n:=n+10) T t f j u w l rfl rfl rfl _ ⟨rfl,?_⟩;exact⟨rfl,rfl,h⟩;refine gV (n:=n+9) (v:=st.length) C rfl rfl (by rw[Qj];dsimp only[Qz,List.length_nil];exact {hb}) (λ b h=>iX (n:=n+6) C rfl (U293 o) b h) ?_;exact h
def iQ {d:Nat}(b:q<=x.length)(h:(au x q p)[j]?=Kf d):(sg x)[p+j]?=Kf d/\p+j<q:=by unfold au at h;rw[Zx,List.getElem?_take] at h;split at h;rename_i hl;exact⟨h,hl⟩;contradiction
def EJ (C:Cel2 c0 A B Z k pr)(T:TextOk x)(u:q<=x.length)(y:au x q p=35::r)(z:10∈r)(L:st.length+2<=big)(hb:br.length+2<=big)(h:K .cont ⟨S2 k x gl A B Z i (I_<|p+(r.takeWhile<|λ c=>c != 10).length+2) (I_ q) nn (Kf<|.d<|.str last) m np<|mG ch,Cs c0 A B Z st<|br++[(p,st.length+1)]++[(p+(r.takeWhile<|λ c=>c != 10).length+2,st.length)]⟩) :aJ P pr (n+20) FB ⟨S2 k x gl A B Z i (I_ p) (I_ q) nn (Kf<|.d<|.str last) m np<|mG ch,Cs c0 A B Z st br⟩ K:=by
 have hl:=am x;have G:∀b:List Nat,10∈b->b[(b.takeWhile<|λ c=>c != 10).length]?=Kf 10/\∀j,j<(b.takeWhile<|λ c=>c != 10).length->b[j]?≠Kf 10:=by
  intro b
  induction b with|nil=>intro h;contradiction|cons c b ih=>
   intro R;by_cases w:c=10;subst w;exact⟨rfl,λ j l=>by simp at l⟩;have hb:(c != 10)=true:=bne_iff_ne.mpr w;have:=ih<|by rcases Qy.mp R with h|h;exact absurd h.symm w;exact h
   rw[Xw,hb,Wy rfl,Qz];refine⟨by rw[List.getElem?_cons_succ];exact this.1,λ j l=>?_⟩;cases j with|zero=>simp[w]|succ j=>rw[List.getElem?_cons_succ];exact this.2 j {l}
 obtain⟨U,W⟩:=G r z;have I:(sg x)[p+((r.takeWhile<|λ c=>c != 10).length+1)]?=Kf 10/\p+((r.takeWhile<|λ c=>c != 10).length+1)<q:=iQ u<|by rw[y,List.getElem?_cons_succ];exact U
 have Y:(sg x)[p]?=Kf 35:=(iQ (j:=0) u<|by rw[y];rfl).1;have hf:fA x ⟨#[10]⟩ p q+1=((p+(r.takeWhile<|λ c=>c != 10).length+2:Nat):Int):=by
  obtain⟨j,e,j1,j2,M,j4⟩:=oM (x:=x) (i:=p) (hi:=q) u ⟨_,by exact {1},I.2,I.1⟩;rw[e];have l:j=p+((r.takeWhile<|λ c=>c != 10).length+1):=by
   rcases Nat.lt_trichotomy j (p+((r.takeWhile<|λ c=>c != 10).length+1)) with h|h|h
   exfalso;by_cases o:j=p;rw[o,Y] at M;contradiction;obtain⟨t,J⟩:∃t,j=p+(t+1):=⟨j-p-1,by exact U300 j1 o⟩;refine W t (U299 h J) ?_;have:(au x q p)[t+1]?=Kf 10:=by unfold au;rw[Zx,List.getElem?_take,Wy<|J▸j2,<-J];exact M
   rw[y,List.getElem?_cons_succ] at this;exact this;exact h;exact absurd I.1<|j4 _ {1} h
  rw[l];exact Int.le_antisymm {0} {0}
 unfold FB;refine gV (n:=n+12) (v:=st.length+1) C rfl rfl (U293 hb) (λ f h=>sj (n:=n+8) C rfl (U293 L) f h) ?_;refine aN (n:=n+17) (.d<|.int<|(p+(r.takeWhile<|λ c=>c != 10).length+2:Nat)) (λ f h=>?_) ?_;refine⟨rfl,rfl,⟨?_,?_,?_⟩,?_⟩;show (0:Int)<=((p:Nat):Int);exact U72;show (0:Int)<=((q:Nat):Int);exact U72;show ((q:Nat):Int)<=((x.length:Nat):Int);exact {0,(Om.zl u)};show f (.d<|.int<|fA x ⟨#[10]⟩ ((p:Nat):Int).toNat ((q:Nat):Int).toNat+1) _;rw[Int.toNat_natCast,Int.toNat_natCast,hf];exact h;refine b7 (n:=n+16) (c':=Cs c0 A B Z st<|br++[(p,st.length+1)]) (λ f h=>?_) ?_;show f (decide<|(0:Int)<((p+(r.takeWhile<|λ c=>c != 10).length+2:Nat):Int)) _;rw[decide_eq_true<|U295];exact h;refine gV (n:=n+9) (v:=st.length) C rfl rfl (by rw[Qj];dsimp only[Qz,List.length_nil];exact {hb}) (λ f h=>iX (n:=n+6) C rfl (U293 L) f h) ?_;exact h
def CW (T:TextOk x)(t:q<=x.length){d:Nat}(u:au x q p=92::d::r)(h:K .next ⟨S2 k x gl A B Z i (I_<|p+2) (I_ q) nn (Kf<|.d<|.str<|if d=10 then last else ⟨#[92,d]⟩) m np<|mG 92,Cs c0 A B Z st br⟩) :aJ P pr (n+20) EU ⟨S2 k x gl A B Z i (I_ p) (I_ q) nn (Kf<|.d<|.str last) m np<|mG 92,Cs c0 A B Z st br⟩ K:=by
 have hl:=am x;have w:=T.len;obtain⟨o,y⟩:=iQ (j:=1) (d:=d) t<|by rw[u];rfl
 have hit:=eA o;have f:=(Qw.mp o).1;unfold EU;refine b7 (n:=n+18) (c':=Cs c0 A B Z st br) (λ b h=>h) ?_;refine aN (n:=n+17) (.d<|.int<|(p+1:Nat)) (λ b h=>by rw[<-xr] at h;exact h) ?_;refine b7 (n:=n+16) (c':=Cs c0 A B Z st br) (λ b h=>?_) ?_;show b (decide<|((p+1:Nat):Int)<((q:Nat):Int)) _;rw[decide_eq_true<|U70 y];exact h
 have itm:∀{n:Nat} {l:Sl},av l 1=Kf (.d<|.str x)->av l 4=Kf (.d<|.int<|(p+1:Nat))->∀b:V->aa->Prop,b (.d<|.str ⟨#[d]⟩) (Cs c0 A B Z st br)->aU P (n+2) (.item (.v 1)<|.v 4) l (Cs c0 A B Z st br) b:=λ z G b h=>
  bS (.d<|.str x) (.d<|.int<|(p+1:Nat)) (cJ z) (cJ G) ⟨by exact U71,by exact U70 f,by exact U63 w,by rw[hit];exact h⟩
 have fin:aJ P pr (n+16) [tJ] ⟨S2 k x gl A B Z i (I_<|p+1) (I_ q) nn (Kf<|.d<|.str<|if d=10 then last else ⟨#[92,d]⟩) m np<|mG 92,Cs c0 A B Z st br⟩ K:=
  aN (n:=n+14) (.d<|.int<|(p+2:Nat)) (λ b h=>by rw[show ((p+2:Nat):Int)=((p+1:Nat):Int)+1 by exact Int.le_antisymm {0} {0}] at h;exact h) (aM h)
 refine bQ (n:=n+15) (!decide (d=10)) (c':=Cs c0 A B Z st br) (λ b h=>?_) ?_;refine d6 (n:=n+14) (.d<|.str ⟨#[d]⟩) (.d<|.str ⟨#[10]⟩) (itm rfl rfl) (λ b h=>h) ?_;show b (!((⟨#[d]⟩:Str)==⟨#[10]⟩)) _;rw[xS];exact h;by_cases e:d=10;rw[Wy e] at fin;rw[decide_eq_true e];exact aM fin;rw[Wg e] at fin;rw[decide_eq_false e];refine aN (n:=n+13) (.d<|.str ⟨#[92,d]⟩) (λ b h=>?_)<|aM fin;rw[fR];refine cJ rfl _ ?_;exact itm rfl rfl _ ⟨(by show 1+1<=big;decide),h⟩
end
section
variable {c0:aa}{A B Z:Nat}{st:List Nat}{p ch:Nat}{i nn m np:Option V}{K:F->Sg'->Prop}
def HZ (e:av l 13=mG ch)(b:Bool->aa->Prop)(h:b ((sg y).contains ch) c):fN P (n+2) (.cmp .In (.v 13)<|.c<|.str y) l c b:=by refine d6 (n:=n+1) (.d<|.str ⟨#[ch]⟩) (.d<|.str y) (cJ e) (λ b h=>h) ?_;show b (Txt.contains y ⟨#[ch]⟩) c;rw[fe];exact h
def FX {a:Nat}(e:av l 13=mG ch)(b:Bool->aa->Prop)(h:b (decide<|ch=a) c):fN P (n+2) (.cmp .Eq (.v 13)<|.c<|.str ⟨#[a]⟩) l c b:=by refine d6 (n:=n+1) (.d<|.str ⟨#[ch]⟩) (.d<|.str ⟨#[a]⟩) (cJ e) (λ b h=>h) ?_;show b ((⟨#[ch]⟩:Str)==⟨#[a]⟩) c;rw[xS];exact h
def c3 (a b c ch:Nat):(sg ⟨#[a,b,c]⟩).contains ch=decide (ch=a\/ch=b\/ch=c):=by show ([a,b,c]:List Nat).contains ch=_;simp only[List.contains_cons,List.contains_nil,Bool.or_false];by_cases e:ch=a<;>by_cases f:ch=b<;>by_cases h:ch=c<;>simp[e,f,h]
abbrev T2 (k:Nat) (x:Str) (gl:List Nat) (A B Z q:Nat) (i nn m np ch:Option V) (c0:aa) (s:L2):Sg':=⟨S2 k x gl A B Z i (I_ s.p) (I_ q) nn (Kf<|.d<|.str s.last) m np ch,Cs c0 A B Z s.st s.br⟩
def A1 {ch:Nat}(b:Re.special ch=true)(e:¬(ch=40\/ch=91\/ch=123))(f:¬(ch=41\/ch=93\/ch=125))(j:¬(ch=34\/ch=39))(l:¬ch=35):ch=92:=by
 unfold Re.special at b;simp only[Bool.or_eq_true,beq_iff_eq] at b;rcases b with ((((((((h|h)|h)|h)|h)|h)|h)|h)|h)|h
 exact absurd (.inr<|.inl h) e;exact absurd (.inr<|.inl h) f;exact absurd (.inl h) e;exact absurd (.inl h) f;exact absurd (.inr<|.inr h) e;exact absurd (.inr<|.inr h) f;exact absurd h l;exact absurd (.inr h) j;exact absurd (.inl h) j;exact h
def xp (C:Cel2 c0 A B Z k pr)(T:TextOk x){J:Ww}(hj:P.isFn J=true)(L:P.fn J=aP Re.strC)(M:p<q)(z:q<=x.length)(G:au x q p=ch::r)(R:Re.special ch=true)(l:(ch::r).getLast?=Kf 10)(I:st.length+2<=big)(hb:br.length+2<=big)(h:∀f U,(f=.next\/f=.cont)->K f (T2 k x gl A B Z q i nn m np U c0<|dL p last st br<|ch::r)) :aJ P pr (n+30) (z5 J) ⟨S2 k x gl A B Z i (I_ p) (I_ q) nn (Kf<|.d<|.str last) m np Wq,Cs c0 A B Z st br⟩ K:=by
 have hl:=am x;have hT:=T.len;have a0:(sg x)[p]?=Kf ch:=(iQ (j:=0) (d:=ch) z<|by rw[G];rfl).1;have W:=(Qw.mp a0).1;unfold z5;refine aN (n:=n+28) (.d<|.str ⟨#[ch]⟩) (λ b h=>bS (n:=n+27) (.d<|.str x) (.d<|.int (p:Nat)) (λ b h=>h) (λ b h=>h) ⟨by exact U54,by exact U53 W,by exact U63 hT,by rw[eA a0];exact h⟩) ?_;refine bQ (n:=n+27) (decide<|ch=40\/ch=91\/ch=123) (c':=Cs c0 A B Z st br) (λ b h=>HZ (n:=n+25) rfl b<|by rw[c3];exact h) ?_;by_cases t:ch=40\/ch=91\/ch=123;rw[decide_eq_true t];have e:dL p last st br (ch::r)=⟨p+1,⟨#[ch]⟩,st++[p],br++[(p,st.length+1)]⟩:=by unfold dL;dsimp only;rw[Wy t]
 rw[e] at h;exact Ba (n:=n+7) C I hb<|h .cont _<|.inr rfl;rw[decide_eq_false t];refine aM ?_;refine bQ (n:=n+26) (decide<|ch=41\/ch=93\/ch=125) (c':=Cs c0 A B Z st br) (λ b h=>HZ (n:=n+24) rfl b<|by rw[c3];exact h) ?_;by_cases u:ch=41\/ch=93\/ch=125;rw[decide_eq_true u];have e:dL p last st br (ch::r)=⟨p+1,⟨#[ch]⟩,st.dropLast,br++[(p+1,st.dropLast.length)]⟩:=by unfold dL;dsimp only;rw[Wg t,Wy u]
 rw[e] at h;exact sH (n:=n+6) C I hb<|h .cont _<|.inr rfl;rw[decide_eq_false u];refine aM ?_;refine bQ (n:=n+25) (decide<|ch=34\/ch=39) (c':=Cs c0 A B Z st br) (λ b h=>?_) ?_;simp only[Db];refine FX (n:=n+22) rfl _ ⟨λ e=>?_,λ e=>?_⟩;have:=of_decide_eq_true e;rw[decide_eq_true<|.inl this] at h;exact h;have Y:=of_decide_eq_false e;refine FX (n:=n+22) rfl _ ?_;have:decide (ch=39)=decide (ch=34\/ch=39):=by by_cases q:ch=39;rw[decide_eq_true q,decide_eq_true<|.inr q];rw[decide_eq_false q,decide_eq_false<|λ o=>o.elim Y q]
 simp only[this];exact h;by_cases w:ch=34\/ch=39;rw[decide_eq_true w];have e:dL p last st br (ch::r)=⟨p+Re.strEnd (ch::r),⟨#[ch]⟩,st,br++[(p,st.length+1)]++[(p+Re.strEnd (ch::r),st.length)]⟩:=by unfold dL;dsimp only;rw[Wg t,Wg u,Wy w]
 rw[e] at h;exact y5 (n:=n+5) C T hj L M z G w I hb<|h .cont _<|.inr rfl;rw[decide_eq_false w];refine aM ?_;refine bQ (n:=n+24) (decide<|ch=35) (c':=Cs c0 A B Z st br) (λ b h=>FX (n:=n+22) rfl b h) ?_;by_cases y:ch=35;rw[decide_eq_true y];subst y;have hnl:10∈r:=by cases r with|nil=>contradiction|cons d r=>rw[List.getLast?_cons_cons] at l;exact List.mem_of_getLast? l
 have e:dL p last st br (35::r)=⟨p+(r.takeWhile<|λ c=>c != 10).length+2,last,st,br++[(p,st.length+1)]++[(p+(r.takeWhile<|λ c=>c != 10).length+2,st.length)]⟩:=by unfold dL;dsimp only;rw[Wg t,Wg u,Wg w,Wy rfl]
 rw[e] at h;exact EJ (n:=n+4) C T z G hnl I hb<|h .cont _<|.inr rfl;rw[decide_eq_false y];refine aM ?_;have h5:=A1 R t u w y;subst h5
 cases r with|nil=>contradiction|cons d r=>
  have e:dL p last st br (92::d::r)=⟨p+2,if d=10 then last else ⟨#[92,d]⟩,st,br⟩:=by unfold dL;dsimp only;rw[Wg t,Wg u,Wg w,Wg y]
  rw[e] at h;exact CW (n:=n+5) T z G<|h .next _<|.inl rfl
structure Ln (x:Str)(q:Nat)(s:L2):Prop where
 p:s.p<=q
 st:s.st.length<=s.p
 br:s.br.length<=2*s.p+1
theorem kf (q:Nat):∀w:List Nat,Re.sEnd3 q w<=w.length
 | []=>Zv _| [c]=>by unfold Re.sEnd3;split<;>simp
 |c::d::r=>by
  unfold Re.sEnd3;have e:=kf q r;have b:=kf q<|d::r;dsimp only[Qz] at b ⊢;split;exact {e};split;rename_i h;cases r with|nil=>exact absurd h.2.2<|by simp|cons a r=>dsimp only[Qz];exact {1}
  exact {b}
def vh (q:Nat)(w:List Nat):Re.sEnd1 q w<=w.length:=by induction w using bj with|nil=>exact Zv _|zero c=>unfold Re.sEnd1;split<;>simp|cons c d r rH1 rH2=>unfold Re.sEnd1;have e:=rH1;have b:=rH2;dsimp only[Qz] at b ⊢;split;exact {e};split;exact {1};split;exact {1};exact {b}
def tu (ch:Nat)(r:List Nat):1<=Re.strEnd (ch::r)/\Re.strEnd (ch::r)<=(ch::r).length:=by
 have e:Re.strEnd (ch::r)=if r.head?=Kf ch/\r.tail.head?=Kf ch then 3+Re.sEnd3 ch (r.drop 2) else 1+Re.sEnd1 ch r:=rfl
 have f:=vh ch r;rw[e];split;rename_i h;clear e f
 match r,h with|a::b::r,h=>have:=kf ch r;exact U321 this| [],h=>exact absurd h.1<|by simp| [a],h=>exact absurd h.2<|by simp
 dsimp only[Qz];exact U320 f
def qE {p e:Nat}{st st':List Nat}{b:List (Nat×Nat)}{l:Str}(f:p<e)(o:e<=q)(h:st.length<=p)(j:br.length<=2*p+1)(r:st'.length<=st.length+1)(t:b.length<=br.length+2):Ln x q ⟨e,l,st',b⟩/\p<e:=
 ⟨⟨o,{r,h,f},{t,j,Xx 2 f}⟩,f⟩
def DI {last1:Str}(j:p+w.length=q)(u:w≠[])(o:w.getLast?=Kf 10)(f:st.length<=p)(h:br.length<=2*p+1):Ln x q (dL p last1 st br w)/\p<(dL p last1 st br w).p:=by
 cases w with|nil=>exact absurd rfl u|cons ch r=>
  simp only[Qz] at j;unfold dL;dsimp only;have y:∀{α:Type} (l:List α) (a:α),(l++[a]).length<=l.length+1:=λ l a=>Nat.le_of_eq Qj;have G:∀{α:Type} (l:List α) (a b:α),(l++[a]++[b]).length<=l.length+2:=λ l a b=>Nat.le_of_eq (Qj.trans (congrArg (·+1) Qj));split;exact qE (Nat.lt_succ_self p) (by exact {(Nat.le_of_eq j)}) f h (y ..)<|Nat.le_succ_of_le<|y ..;split;exact qE (Nat.lt_succ_self p) (by exact {(Nat.le_of_eq j)}) f h (Nat.le_succ_of_le<|by rw[List.length_dropLast];exact Nat.sub_le ..)<|Nat.le_succ_of_le<|y ..;split;have:=tu ch r;simp only[Qz] at this;exact qE (by exact {this.1}) (by exact {this.2,(Nat.le_of_eq j)}) f h (Nat.le_succ _)<|G ..;split;have J:(r.takeWhile<|λ c=>c != 10).length<r.length:=by
   have t:10∈r:=by rename_i L;cases r with|nil=>subst L;contradiction|cons d r=>rw[List.getLast?_cons_cons] at o;exact List.mem_of_getLast? o
   have z:(r.takeWhile<|λ c=>c != 10).length<=r.length:=(List.takeWhile_sublist _).length_le;refine Nat.lt_of_le_of_ne z λ e=>?_;have I:=Re.tw_take (λ c=>c != 10) r;rw[e,List.take_length] at I;rw[I] at t;exact absurd (Re.tw_all _ _ _ t)<|{4}
  exact qE (by exact {1}) (by exact {J,(Nat.le_of_eq j)}) f h (Nat.le_succ _)<|G ..;cases r with|nil=>simp only[List.length_nil] at j;exact⟨⟨(by show p+1<=q;exact U319 j),(by show st.length<=p+1;exact U13 f),(by show br.length<=2*(p+1)+1;exact {h})⟩,(by show p<p+1;exact U43)⟩|cons d r=>simp only[Qz] at j;exact⟨⟨(by show p+2<=q;exact U317 j),(by show st.length<=p+2;exact {f}),(by show br.length<=2*(p+2)+1;exact {h})⟩,(by show p<p+2;exact U44)⟩
def nE (h:q<=x.length)(b:(sg x)[q-1]?=Kf 10)(e:p<q):(au x q p).getLast?=Kf 10:=by have f:=cC (p:=p) h;rw[Qp,f];unfold au;rw[Zx,List.getElem?_take,Wy<|U314 e,show p+(q-p-1)=q-1 by exact U313 e];exact b
def xb (C:Cel2 c0 A B Z k pr)(T:TextOk x)(o:2*x.length+10<=big){cr sr:Ww}(hc1:P.isFn cr=true)(hc2:P.fn cr=aP Re.chewC)(hj:P.isFn sr=true)(hjf:P.fn sr=aP Re.strC)(z:q<=x.length)(t:0<q->(sg x)[q-1]?=Kf 10)(hnn:nn=Wq\/∃d,nn=Kf (.d d)){J:L2->Prop} (hJ:∀s,J s->s.p<q->J (dH x q s)) {s0:L2} (hJ0:J s0) (hL0:Ln x q s0)(h:∀s i m np ch,J s->s.p=q->Ln x q s->K .next (T2 k x gl A B Z q i nn m np ch c0 s)) :oK P pr (n+60) (.while_ (.cmp .Lt (.v 4)<|.v 5) (vK cr++z5 sr) []) (T2 k x gl A B Z q i nn Wq Wq Wq c0 s0) K:=by
 have hl:=am x;refine⟨λ k' τ=>∃s i,k'=q-s.p/\J s/\Ln x q s/\τ=T2 k x gl A B Z q i nn Wq Wq Wq c0 s,_,⟨s0,i,rfl,hJ0,hL0,rfl⟩,?_⟩;intro k' τ e_;obtain⟨s,i,rfl,I,hLs,rfl⟩:=e_;obtain⟨L,j,u⟩:=hLs;refine⟨λ e=>?_,λ e=>?_⟩
 ·have b:s.p<q:=by have:=of_decide_eq_true e;exact Om.lz {0,this}
  have l:=hJ s I b;have hre:=nE (p:=s.p) z (t {b}) b;have G:=cC (p:=s.p) z;have hsplit:((au x q s.p).takeWhile Re.ord_).length+((au x q s.p).dropWhile Re.ord_).length=q-s.p:=by rw[<-Qj,List.takeWhile_append_dropWhile,G]
  have w:=Re.tw_drop Re.ord_<|au x q s.p
  have again:∀(f:F) (y:L2) (i m np ch:Option V),(f=.next\/f=.cont)->J y->Ln x q y->s.p<y.p->
    (match f with
     | .next | .cont=>∃k' υ',k'<q-s.p/\Wk pr (T2 k x gl A B Z q i nn m np ch c0 y) υ'/\∃s2 i,k'=q-s2.p/\J s2/\Ln x q s2/\υ'=T2 k x gl A B Z q i nn Wq Wq Wq c0 s2| .brk=>K .next<|T2 k x gl A B Z q i nn m np ch c0 y| .ret v=>K (.ret v) (T2 k x gl A B Z q i nn m np ch c0 y)):=by
   intro f y i m np ch hf hJ2 j hlt;clear hl I u L b l hre G hsplit w h hL0 hJ0 hJ t z hjf hj hc2 hc1 o T;have hnn':∀C,dr C nn nn:=λ C=>by rcases hnn with rfl|⟨d,rfl⟩;exact dZ _ _;exact iC _ _
   have:=j.p;rcases hf with rfl|rfl<;>exact⟨q-y.p,_,by exact U61 hlt this,B0 C (dZ _ _) (iC _ _) (iC _ _) (hnn' _) (iC _ _) (dZ _ _) (dZ _ _)<|dZ _ _,y,Wq,rfl,hJ2,j,rfl⟩
  refine ua (n:=n+19) C T hc1 hc2 b z hnn rfl (λ hd i m np=>?_)<|λ hd i m np=>?_;have e:dH x q s=⟨s.p+((au x q s.p).takeWhile Re.ord_).length,lastOf ((au x q s.p).takeWhile Re.ord_) s.last,s.st,s.br⟩:=by unfold dH;simp only[hd];rfl
  rw[hd] at hsplit;dsimp only[List.length_nil,Nat.add_zero] at hsplit;have hp:s.p+((au x q s.p).takeWhile Re.ord_).length=q:=U312 b hsplit;simp only[e] at l;exact h _ i m np Wq l hp ⟨by simp only;exact U311 hp,by simp only;exact {j},by simp only;exact {u}⟩;have hw:s.p+((au x q s.p).takeWhile Re.ord_).length+((au x q s.p).dropWhile Re.ord_).length=q:=U310 b hsplit;have M:au x q (s.p+((au x q s.p).takeWhile Re.ord_).length)=(au x q s.p).dropWhile Re.ord_:=by simp only[<-w];unfold au;simp only[Xg]
  have R:((au x q s.p).dropWhile Re.ord_).getLast?=Kf 10:=by rw[<-M];exact nE z (t {b}) (by have:0<((au x q s.p).dropWhile Re.ord_).length:=List.length_pos_iff.mpr hd;exact U309 hw this)
  obtain⟨U,W⟩:=DI (x:=x) (last1:=lastOf ((au x q s.p).takeWhile Re.ord_) s.last) hw hd R (st:=s.st) (br:=s.br) {j} {u};have e2:dH x q s=dL (s.p+((au x q s.p).takeWhile Re.ord_).length) (lastOf ((au x q s.p).takeWhile Re.ord_) s.last) s.st s.br ((au x q s.p).dropWhile Re.ord_):=rfl;simp only[e2] at l
  cases Y:(au x q s.p).dropWhile Re.ord_ with|nil=>exact absurd Y hd|cons ch r=>
   rw[Y] at M R U W l;have hsp:Re.special ch=true:=by have:=Re.dw_head Y;unfold Re.ord_ at this;simpa using this
   refine xp (n:=n+27) C T hj hjf (by have:=U.p;exact {W,this}) z M hsp R (U305 o z j hw) (U304 o z u hw) λ f ch' hf=>?_;exact again f _ i m np ch' hf l U {W}
 have hp:s.p=q:=by have:=of_decide_eq_false e;exact Nat.le_antisymm (Om.lz {0,(Om.zl L)}) (Om.lz {0,(Om.il this)})
 exact aM<|h s i Wq Wq Wq I hp ⟨L,j,u⟩
end
noncomputable abbrev dE:Str:=Qq "stmt_start"
noncomputable abbrev mV:Str:=Qq "stmt_end"
noncomputable abbrev eG:Str:=Qq "lastch"
noncomputable abbrev f5:Str:=Qq "lastopenbracketpos"
noncomputable abbrev Ch:Str:=Qq "stmt_bracketing"
def rn:List IS:=[.asgA (.v 0) eG<|.v 7,.asgA (.v 0) f5<|.ite (.v 8) (.item (.v 8)<|.c<|.int<|-1)<|.c .none,.asgA (.v 0) Ch<|.call (.g<|.bi .tuple) [(.v 10)] Wq]
def AB (cr sr:Ww)(A B Z:Nat):List IS:=.unpA (.v 0) dE (.v 0) mV (.v 4) (.v 5)::.asg 7 (.c<|.str ⟨#[]⟩)::.asg 8 (.lst []<|some A)::.asg 9 (.bnd (.v 8) B)::.asg 10 (.lst [(.tup [(.v 4),(.c<|.int 0)])]<|some Z) ::
 .while_ (.cmp .Lt (.v 4)<|.v 5) (vK cr++z5 sr) []::rn
def f7 (st jr cr sr:Ww)(A B Z:Nat):List IS:=.if_ (.cmp .GtE (.attr (.v 0) dF)<|.c<|.int 2) [.ret Wq] []::.expr (.umeth (.v 0) st GH [])::.asgA (.v 0) dF (.c<|.int 2)::.unp2 1 2 (.attr (.v 0) cf) (.attr (.v 0) oJ) ::
 .asg 3 (.bin .Sub (.call (.g<|.bi .len) [(.v 2)] Wq)<|.c<|.int 1)::.asg 4 (.call (.g<|.bi .len) [(.v 1)] Wq)::.while_ (.v 3) (JK jr) [] ::
 .if_ (.cmp .Eq (.v 3)<|.c<|.int 0) [.assert<|.cmp .Eq (.v 4)<|.c<|.int 0,.asg 5<|.v 4] []::AB cr sr A B Z
inductive Rch (x:Str)(q:Nat)(s0:L2):L2->Prop
 |refl:Rch x q s0 s0
 |step {s:L2}:Rch x q s0 s->s.p<q->Rch x q s0 (dH x q s)
noncomputable def L0 (p:Nat):L2:=⟨p,⟨#[]⟩,[],[(p,0)]⟩
noncomputable def fm (st:List Nat):D:=match st.getLast? with|some a=>.int (a:Nat)|none=>.none
def p8 (fs:List<|Str×V)(s:L2):List (Str×V):=a6 (a6 (a6 fs eG<|.d<|.str s.last) f5<|.d<|fm s.st) Ch<|.d<|.tup<|b9 s.br
def kh (x:Str):Nat×Nat:=bH x (ax<|fin x)<|(ax<|fin x).length-1
structure Attr2 (P:Pm):Prop extends AttrOk P where
 st:P.attr dE=true
 en:P.attr mV=true
 la:P.attr eG=true
 op:P.attr f5=true
 br:P.attr Ch=true
section
variable {c0:aa}{A B Z:Nat}{i nn m np ch:Option V}{K:F->Sg'->Prop}{fs:List (Str×V)}
def wO {st:List Nat}(h:j∈dom c0)(o:O):cset (Cs c0 A B Z st br) j o=Cs (cset c0 j o) A B Z st br:=by unfold Cs;rw[bd (by rw[al,al];simp[h]),bd (by rw[al];simp[h]),bd h]
theorem Cel2.cset (C:Cel2 c0 A B Z k pr){e:List (Str×V)}(f:ae c0 dk=Kf (.ns fs))(h:mA (cset c0 dk<|.ns e) (cset c0 dk<|.ns e) e e):Cel2 (cset c0 dk<|.ns e) A B Z k pr:=
 ⟨by rw[ai];exact C.a,by rw[ai];exact C.b,by rw[ai];exact C.z,C.ab,C.az,C.bz,C.w.set f h,by rw[ai];exact C.k_,λ j l=>by rw[ai];exact C.pr j l⟩
def Cf {fs:List (Str×V)}(W:Wf c)(e:ae c dk=Kf (.ns fs))(b:Str)(d:D):mA (cset c dk<|.ns<|a6 fs b<|.d d) (cset c dk<|.ns<|a6 fs b<|.d d) (a6 fs b<|.d d) (a6 fs b<|.d d):=
 bW (vD _ _ _) (dp (λ j f=>by rw[ai];exact f)<|W.fs e)
def wG (C:Cel2 c0 A B Z k pr){st:List Nat}(t:ae c0 k=Kf (.inst P.C dk))(b:ae c0 dk=Kf (.ns fs)){f:Str}(j:P.attr f=true)(o:fs.length<=1000){d:D}{r:List IS}(u:av l 0=Kf (.obj k))(y:∀p:V->aa->Prop,p (.d d) (Cs c0 A B Z st br)->aU P (n+1) e l (Cs c0 A B Z st br) p) (h:Cel2 (cset c0 dk<|.ns<|a6 fs f<|.d d) A B Z k pr->aJ P pr (n+2) r ⟨l,Cs (cset c0 dk<|.ns<|a6 fs f<|.d d) A B Z st br⟩ K) :aJ P pr (n+3) (.asgA (.v 0) f e::r) ⟨l,Cs c0 A B Z st br⟩ K:=by refine dA (n:=n+1) (.d d) (c':=Cs c0 A B Z st br) (k:=k) (dk:=dk) (fs:=fs) y (cJ u) (by rw[r9 C C.k_];exact t) (by rw[r9 C<|aj b];exact b) j o ?_;rw[wO<|aj b];exact h<|C.cset b<|Cf C.w b f d
def eD (fs:List<|Str×V)(b:Str)(v:V){m:Nat}(h:fs.length<=m):(a6 fs b v).length<=m+1:=by have:=iO fs b v;exact {h,this}
def yW (C:Cel2 c0 A B Z k pr)(At:Attr2 P)(U:ae c0 k=Kf (.inst P.C dk))(t:ae c0 dk=Kf (.ns fs))(j:fs.length<=950)(z:k≠dk){s:L2}(W:s.st.length<=big)(hb:s.br.length<=big)(G:av l 0=Kf (.obj k))(h7:av l 7=Kf (.d<|.str s.last))(Y:av l 8=Kf (.obj A))(I:av l 10=Kf (.obj Z))(h:Cel2 (cset c0 dk<|.ns<|p8 fs s) A B Z k pr->K .next ⟨l,Cs (cset c0 dk<|.ns<|p8 fs s) A B Z s.st s.br⟩):aJ P pr (n+20) rn ⟨l,Cs c0 A B Z s.st s.br⟩ K:=by
 have dkd:=aj t;have w:∀f,ae (cset c0 dk<|.ns f) k=Kf (.inst P.C dk):=λ f=>by rw[aI dkd,Wg z];exact U
 have y:∀f,ae (cset c0 dk<|.ns f) dk=Kf (.ns f):=λ f=>by rw[aI dkd,Wy rfl]
 unfold rn;refine wG (n:=n+17) C U t At.la {j} G (cJ h7) λ J=>?_;refine wG (n:=n+16) (d:=fm s.st) J (w _) (y _) At.op (Zk (eD fs _ _ j)<|U327) G (λ L p=>?_) λ M=>?_;show aC (av l 8) λ v=>bJ (Cs (cset c0 dk<|.ns<|a6 fs eG<|.d<|.str s.last) A B Z s.st s.br) v _;rw[Y];show aC (ca (Cs (cset c0 dk<|.ns<|a6 fs eG<|.d<|.str s.last) A B Z s.st s.br)<|.obj A) _;rw[Aj J];refine⟨by rw[aW];exact W,λ e=>?_,λ e=>?_⟩
 cases b:s.st.getLast? with|none=>have:s.st=[]:=List.getLast?_eq_none_iff.mp b;rw[this] at e;contradiction|some a=>
   have o:fm s.st=.int (a:Nat):=by unfold fm;rw[b]
   rw[o] at p;refine bS (n:=n+15) (.obj A) (.d<|.int<|-1) (cJ Y) (λ L h=>h) ?_;show aC (ca (Cs (cset c0 dk<|.ns<|a6 fs eG<|.d<|.str s.last) A B Z s.st s.br)<|.obj A) _;rw[Aj J];have R:0<s.st.length:=by cases T:s.st with|nil=>rw[T] at b;contradiction|cons _ _=>simp
   refine⟨by rw[aW];exact W,s.st.length-1,.int (a:Nat),?_,?_,p⟩;rw[aW];show (if (decide (0<=(if (-1:Int)<0 then -1+(s.st.length:Int) else -1))&&decide ((if (-1:Int)<0 then -1+(s.st.length:Int) else -1)<(s.st.length:Int)))=true then Kf (if (-1:Int)<0 then -1+(s.st.length:Int) else -1).toNat else Wq)=_;rw[Wy (show (-1:Int)<0 by decide),decide_eq_true<|U28 R,decide_eq_true<|U27,Bool.and_self,Wy rfl];congr 1;exact U26;rw[Qp] at b;exact nT b
 have b:s.st=[]:=by cases T:s.st with|nil=>rfl|cons a r=>rw[T] at e;contradiction
 have o:fm s.st=.none:=by unfold fm;rw[b];rfl
 rw[o] at p;exact p;rw[bn] at M ⊢;refine wG (n:=n+15) (d:=.tup<|b9 s.br) M (w _) (y _) At.br (Zk (eD _ _ _<|eD fs _ _ j)<|U326) G (λ L p=>?_) λ C3=>?_;refine gv (n:=n+13) (u:=.bi .tuple) (v1:=.obj Z) (λ L h=>h) (cJ I) ?_;show aC (ca (Cs (cset c0 dk<|.ns<|a6 (a6 fs eG<|.d<|.str s.last) f5<|.d<|fm s.st) A B Z s.st s.br)<|.obj Z) _;rw[Kh M];exact⟨rfl,by rw[gE];exact hb,p⟩;rw[bn] at C3 ⊢;exact aM<|h C3
end
section
variable {c0:aa}{A B Z:Nat}{p:Nat}{i nn m np ch:Option V}{K:F->Sg'->Prop}{fs:List (Str×V)}
def AA {o1 o2 a b:IE}{o t:Str}{r:List IS}{u v:D}(G:ae c k=Kf (.inst P.C dk))(f:ae c dk=Kf (.ns fs))(w:k≠dk)(I:P.attr o=true)(J:P.attr t=true)(j:fs.length<=990)(L:∀e:V->aa->Prop,e (.d u) c->aU P n a l c e) (hb:∀e:V->aa->Prop,e (.d v) c->aU P n b l c e) (y:∀(c':aa) (e:V->aa->Prop),e (.obj k) c'->aU P n o1 l c' e) (z:∀(c':aa) (e:V->aa->Prop),e (.obj k) c'->aU P n o2 l c' e)(h:aJ P pr (n+1) r ⟨l,cset c dk<|.ns<|a6 (a6 fs o<|.d u) t<|.d v⟩ K):aJ P pr (n+2) (.unpA o1 o o2 t a b::r) ⟨l,c⟩ K:=by have dkd:=aj f;refine L _<|hb _ ?_;refine y _ _<|dt G f I {j} ?_;refine z _ _<|dt (k:=k) (dk:=dk) (fs:=a6 fs o<|.d u) (by rw[aI dkd,Wg w];exact G) (by rw[aI dkd,Wy rfl]) J (Zk (eD fs _ _ j)<|U335) ?_;rw[bn];exact h
def Fy {s0:L2}:∀s,Rch x q s0 s->s.p<q->Rch x q s0 (dH x q s):=λ s h b=>.step h b
def EI (At:Attr2 P)(W:Wf c)(y:ae c k=Kf (.inst P.C dk))(b:ae c dk=Kf (.ns fs))(z:fs.length<=940)(T:TextOk x)(o:2*x.length+10<=big){M R:Ww}(U:P.isFn M=true)(Y:P.fn M=aP Re.chewC)(G:P.isFn R=true)(hjf:P.fn R=aP Re.strC)(hA:A∉dom c) (hB:B∉dom c) (hZ:Z∉dom c) (ab:A≠B) (az:A≠Z) (bz:B≠Z) (hpr:∀j∈pr,j∈dom c) (hpq:p<=q) (hq:q<=x.length) (I:0<q->(sg x)[q-1]?=Kf 10) (hnn:nn=Wq\/∃d,nn=Kf (.d d))(h:∀s l,Rch x q (L0 p) s->s.p=q->Cel2 (cset c dk (.ns (p8 (a6 (a6 fs dE (.d (.int (p:Nat)))) mV (.d (.int (q:Nat)))) s))) A B Z k pr->K .next ⟨l,Cs (cset c dk (.ns (p8 (a6 (a6 fs dE (.d (.int (p:Nat)))) mV (.d (.int (q:Nat)))) s))) A B Z s.st s.br⟩) :aJ P pr (n+80) (AB M R A B Z) ⟨S1 k x gl i (I_ p) (I_ q) nn,c⟩ K:=by
 have t:k≠dk:=λ e=>by rw[e,b] at y;simp at y
 have dkd:=aj b;have kd:=aj y;unfold AB;refine AA (n:=n+78) (u:=.int (p:Nat)) (v:=.int (q:Nat)) y b t At.st At.en {z} (λ r h=>h) (λ r h=>h) (λ c' r h=>h) (λ c' r h=>h) ?_;generalize hf:a6 (a6 fs dE<|.d<|.int (p:Nat)) mV (.d<|.int (q:Nat))=f at *
 have W1:Wf (cset c dk<|.ns f):=by rw[<-hf];refine W.set b<|bW (vD _ _ _)<|bW (vD _ _ _)<|dp (λ j G=>by rw[ai];exact G)<|W.fs b
 have hfl:f.length<=950:=by rw[<-hf];exact Zk (eD _ _ _<|eD fs _ _ z)<|U333
 have hk1:ae (cset c dk<|.ns f) k=Kf (.inst P.C dk):=by rw[aI dkd,Wg t];exact y
 have hd1:ae (cset c dk<|.ns f) dk=Kf (.ns f):=by rw[aI dkd,Wy rfl]
 have d1:dom (cset c dk<|.ns f)=dom c:=ai ..;have w:Cel2 (cset c dk<|.ns f) A B Z k pr:=⟨by rw[d1];exact hA,by rw[d1];exact hB,by rw[d1];exact hZ,ab,az,bz,W1,by rw[d1];exact kd,λ j G=>by rw[d1];exact hpr j G⟩;have ecc:∀s,cset (cset c dk<|.ns f) dk (.ns<|p8 f s)=cset c dk (.ns<|p8 f s):=λ s=>bn ..;generalize cset c dk (.ns f)=L at *
 refine aN (n:=n+77) (.d<|.str ⟨#[]⟩) (λ r h=>h) ?_;refine iI (n:=n+76) (.obj A) (c':=L++[(A,.list [])]) (λ r h=>⟨{4},w.a,h⟩) ?_;refine iI (n:=n+75) (.obj B) (c':=L++[(A,.list [])]++[(B,.bound "list.append" A)]) (λ r h=>CK (n:=n+73) (xs:=[]) rfl (by rw[show ([]:List D)=ao [] from rfl,ap w.a,Wy rfl]) (nb (st:=[]) w) _ h) ?_;refine iI (n:=n+74) (.obj Z) (c':=Cs L A B Z [] [(p,0)]) (λ r h=>?_) ?_;rw[BH,bx];refine rP (n:=n+68) (d1:=.int (p:Nat)) (d2:=.int 0) (λ r h=>h) (λ r h=>h) ?_;exact⟨(by show 1<=big;decide),nz (st:=[]) w,h⟩;refine dq (n:=n+74)<|xb (n:=n+14) w T o U Y G hjf hq I hnn (J:=Rch x q<|L0 p) Fy (s0:=L0 p) .refl ⟨hpq,Zj _,by show 1<=2*p+1;exact {1}⟩ λ s i m np ch hr hp hl=>?_;show aJ P pr (n+74) rn ⟨S2 k x gl A B Z i (I_ s.p) (I_ q) nn (Kf<|.d<|.str s.last) m np ch,Cs L A B Z s.st s.br⟩ K;refine yW (n:=n+54) w At hk1 hd1 hfl t (by have:=hl.st;exact U331 o hq hp this) (by have:=hl.br;exact U330 o hq hp this) rfl rfl rfl rfl λ C3=>?_;rw[ecc] at C3 ⊢;exact h s _ hr hp C3
end
noncomputable abbrev Fn:Str:=Qq "_study2"
noncomputable abbrev dR:Str:=Qq "indentwidth"
noncomputable abbrev dW:Str:=Qq "tabwidth"
def x5 (x:Str)(s:L2):Prop:=Rch x (kh x).2 (L0 (kh x).1) s/\s.p=(kh x).2
def aw (x:Str)(a b:Int)(s:L2)(i:Nat):List (Str×V):=
 (dR,.d (.int a))::(dW,.d (.int b))::(cf,.d (.str x))::(dF,.d (.int (i:Nat)))::(match i with
  |0=>[]
  |j+1=>(oJ,.d (.lst (ao (ax (fin x)))))::(n6,.d (.int (ar (fin x))))::(match j with
   |0=>[]|_+1=>[(dE,.d (.int ((kh x).1:Nat))),(mV,.d (.int ((kh x).2:Nat))),(eG,.d (.str s.last)),(f5,.d (fm s.st)),(Ch,.d (.tup (b9 s.br)))]))
structure TxOk (x:Str):Prop extends TextOk x where
 big_:2*x.length+10<=big
 two:2<=(ax<|fin x).length
structure Par (C:Ww)(c:aa)(k dk:Nat)(x:Str)(a b:Int)(s:L2)(i:Nat):Prop where
 w:Wf c
 k_:ae c k=Kf (.inst C dk)
 d_:ae c dk=Kf (.ns<|aw x a b s i)
 t:TxOk x
 le:i<=2
 e:i=2->x5 x s
def i3 {p:Nat->Prop}(h:i<=2)(e:p 0)(f:p 1)(j:p 2):p i:=by cases i with|zero=>exact e|succ i=>cases i with|zero=>exact f|succ i=>obtain rfl:i=0:=Nat.le_zero.mp<|Nat.le_of_add_le_add_right (b:=2) h;exact j
def w8:List (Str×V)->Prop
 | []=>True| (_,v)::r=>(∃d,v=.d d)/\w8 r
def lC {fs:List (Str×V)}:w8 fs->mA c c' fs fs:=by induction fs with|nil=>intro _;exact trivial|cons q_ _ b=>obtain⟨_,_⟩:=q_;intro q;obtain⟨p,h⟩:=q;obtain⟨_,rfl⟩:=p;exact⟨rfl,vD _ _ _,b h⟩
def lV (x:Str)(a b:Int)(s:L2)(i:Nat):w8 (aw x a b s i):=
 match i with|0=>⟨⟨_,rfl⟩,⟨_,rfl⟩,⟨_,rfl⟩,⟨_,rfl⟩,trivial⟩|1=>⟨⟨_,rfl⟩,⟨_,rfl⟩,⟨_,rfl⟩,⟨_,rfl⟩,⟨_,rfl⟩,⟨_,rfl⟩,trivial⟩|_+2=>⟨⟨_,rfl⟩,⟨_,rfl⟩,⟨_,rfl⟩,⟨_,rfl⟩,⟨_,rfl⟩,⟨_,rfl⟩,⟨_,rfl⟩,⟨_,rfl⟩,⟨_,rfl⟩,⟨_,rfl⟩,⟨_,rfl⟩,trivial⟩
def kS {o:O}(h:ae c k=Kf o):cset c k o=c:=by induction c with|nil=>rfl|cons p r ih=>obtain⟨j,u⟩:=p;dsimp only[ae,cset] at h ⊢;by_cases e:j=k;rw[Wy e] at h ⊢;rw[Option.some.inj h];rw[Wg e] at h ⊢;rw[ih h]
section
variable {C:Ww}{a b:Int}{s:L2}
def Par.ne (p:Par C c k dk x a b s i):k≠dk:=λ e=>by have:=p.k_;rw[e,p.d_] at this;injection this;contradiction
def Par.to {fs:List (Str×V)}(W:Wf c)(f:ae c k=Kf (.inst C dk))(h:ae c dk=Kf (.ns fs))(t:TxOk x)(l:j<=2)(e:j=2->x5 x s):Par C (cset c dk<|.ns<|aw x a b s j) k dk x a b s j:=by
 have dkd:=aj h;have kne:k≠dk:=λ e=>by rw[e,h] at f;injection f;contradiction
 exact⟨W.set h<|lC<|lV ..,by rw[aI dkd,Wg kne];exact f,by rw[aI dkd,Wy rfl],t,l,e⟩
end
def vH:List Str:=[GH,Fn,Qq "get_continuation_type",Qq "get_num_lines_in_stmt",Qq "get_last_stmt_bracketing",Qq "is_block_opener",Qq "is_block_closer",Qq "compute_bracket_indent",Qq "set_code"]
def keys:List Str:=[dR,dW,cf,dF,oJ,n6,dE,mV,eG,f5,Ch]
def EA:∀m∈vH,m∉keys:={3}
def mx {fs:List (Str×V)}{m:Str}(h:m∉fs.map (·.1)):look fs m=Wq:=by induction fs with|nil=>rfl|cons p r ih=>obtain⟨y,u⟩:=p;show (if y=m then Kf u else look r m)=Wq;rw[Wg (λ e=>h<|by rw[<-e];exact .head _),ih<|λ q=>h<|.tail _ q]
def oz {a b:Int}{s:L2}(h:i<=2){m:Str}(e:m∈vH):look (aw x a b s i) m=Wq:=
 mx λ q=>EA m e (i3 (p:=λ i=>∀m∈(aw x a b s i).map (·.1),m∈keys.take 4++keys.drop 4) h (λ m q=>List.mem_append_left _ q) (λ m q=>(List.take_append_drop 4 keys).symm▸List.mem_of_mem_take (i:=6) q) (λ m q=>(List.take_append_drop 4 keys).symm▸q) m q)
def aX (C:Ww)(F:List Nat)(need:Nat)(Pre:Str->Prop)(R:Str->Int->Int->L2->V->Prop):Spec:=λ vs c K=>∃k dk x a b s i,vs=[.obj k]/\Par C c k dk x a b s i/\(∀j∈F,j∉dom c)/\Pre x/\
 ∀v s',R x a b s' v->Par C (cset c dk<|.ns<|aw x a b s'<|max need i) k dk x a b s' (max need i)->K v (cset c dk<|.ns<|aw x a b s'<|max need i)
def fy:Str->Int->Int->L2->V->Prop:=λ _ _ _ _ v=>v=.d .none
def lX:List IS:=[.asgA (.v 0) dR<|.v 1,.asgA (.v 0) dW<|.v 2]
def rN:List IS:=[.assert (.or (.cmp .Eq (.call (.g<|.bi .len) [(.v 1)] Wq)<|.c<|.int 0)<|.cmp .Eq (.item (.v 1)<|.c<|.int<|-1)<|.c<|.str ⟨#[10]⟩),.asgA (.v 0) cf (.v 1),.asgA (.v 0) dF (.c (.int 0))]
structure Attr3 (P:Pm):Prop extends Attr2 P where
 iw:P.attr dR=true
 tw:P.attr dW=true
section
variable {a b:Int}{K:V->aa->Prop}
def AC (A:Attr3 P)(W:Wf c)(i:ae c k=Kf (.inst P.C dk))(f:ae c dk=Kf (.ns []))(o:K (.d .none)<|cset c dk<|.ns [(dR,.d<|.int a),(dW,.d<|.int b)]):aJ P (dom c) (n+10) lX ⟨start [.obj k,.d<|.int a,.d<|.int b] 0,c⟩ (EndP c K):=by
 have kne:k≠dk:=λ e=>by rw[e,f] at i;injection i;contradiction
 have dkd:=aj f;unfold lX;refine dA (n:=n+8) (.d<|.int a) (c':=c) (k:=k) (λ l h=>h) (λ l h=>h) i f A.iw {4} ?_
 refine dA (n:=n+7) (.d<|.int b) (c':=cset c dk<|.ns<|a6 [] dR<|.d<|.int a) (k:=k) (dk:=dk) (fs:=a6 [] dR<|.d<|.int a) (λ l h=>h) (λ l h=>h)
  (by rw[aI dkd,Wg kne];exact i) (by rw[aI dkd,Wy rfl]) A.tw (by show 1<=1000;decide) ?_
 rw[bn];have e:a6 (a6 [] dR<|V.d<|.int a) dW (V.d<|.int b)=[(dR,.d<|.int a),(dW,.d<|.int b)]:={2}
 rw[e];exact aM<|EndP.same (W.set f ⟨rfl,vD _ _ _,rfl,vD _ _ _,trivial⟩) (λ j p=>by rw[ai];exact p) rfl o
def E4 (A:Attr3 P)(W:Wf c)(t:ae c k=Kf (.inst P.C dk))(f:ae c dk=Kf (.ns [(dR,.d<|.int a),(dW,.d<|.int b)]))(T:TextOk x)(u:K (.d .none)<|cset c dk<|.ns<|aw x a b (L0 0) 0):aJ P (dom c) (n+20) rN ⟨start [.obj k,.d<|.str x] 0,c⟩ (EndP c K):=by
 have kne:k≠dk:=λ e=>by rw[e,f] at t;injection t;contradiction
 have dkd:=aj f;have l:x.length<=big:=by have:=T.len;rw[am] at this;exact U63 this
 unfold rN;refine b7 (n:=n+18) (c':=c) (λ o h=>?_) ?_;conv=>whnf
 refine⟨l,?_⟩;conv=>whnf
 refine⟨λ q=>h,λ q=>?_⟩;have p:sg x≠[]:=λ e=>by
  have:x.length=0:=by rw[<-am,e];rfl
  have w:((x.length:Int)==0)=false:=q;rw[this] at w;contradiction
 have i:(sg x).getLast?=Kf 10:=T.ends.resolve_left p;have r:0<x.length:=by rw[<-am];exact List.length_pos_iff.mpr p
 conv=>whnf
 refine⟨show -(x.length:Int)<=-1 by exact {0,(Om.zl r)},show (-1:Int)<x.length by exact U99,l,?_⟩;show o (Txt.item x (-1)==⟨#[10]⟩) c;rw[uC i];exact h;refine dA (n:=n+17) (.d<|.str x) (c':=c) (k:=k) (λ o h=>h) (λ o h=>h) t f A.co (by show 2<=1000;decide) ?_
 refine dA (n:=n+16) (.d<|.int 0) (c':=cset c dk<|.ns<|a6 [(dR,.d<|.int a),(dW,.d<|.int b)] cf<|.d<|.str x) (k:=k) (dk:=dk) (fs:=a6 [(dR,.d<|.int a),(dW,.d<|.int b)] cf<|.d<|.str x) (λ o h=>h) (λ o h=>h)
  (by rw[aI dkd,Wg kne];exact t) (by rw[aI dkd,Wy rfl]) A.sl (Zk (eD _ _ _<|Zv 2)<|{4}) ?_
 rw[bn];have e:a6 (a6 [(dR,.d<|.int a),(dW,.d<|.int b)] cf<|.d<|.str x) dF (.d<|.int 0)=aw x a b (L0 0) 0:={2}
 rw[e];exact aM<|EndP.same (W.set f<|lC<|lV ..) (λ j y=>by rw[ai];exact y) rfl u
def tm {g h r:Nat}{s:L2}(A:Attr3 P)(f:r=P.td)(j:P.tr=tr)(p:Par P.C c k dk x a b s i)(u:g∉dom c)(hb:h∉dom c)(l:g≠h)(o:Par P.C (cset c dk<|.ns<|aw x a b s<|max 1 i) k dk x a b s (max 1 i)->K (.d .none) (cset c dk<|.ns<|aw x a b s<|max 1 i)):aJ P (dom c) (n+130) (eW r g h) ⟨start [.obj k] 12,c⟩ (EndP c K):=by
 by_cases q:i=0;subst q;refine xQ (fs:=aw x a b s 0) A.toAttrOk f j p.w p.k_ p.d_ (by decide +kernel:4<=900) {2} {2} p.t.toTextOk u hb l ?_;have e:fY (aw x a b s 0) x=aw x a b s 1:={2}
 rw[e];exact o<|Par.to p.w p.k_ p.d_ p.t {4} nofun;have e:max 1 i=i:=Nat.max_eq_right (Nat.one_le_iff_ne_zero.mpr q);rw[e,kS p.d_] at o;have hl:look (aw x a b s i) dF=Kf (.d<|.int (i:Nat)):=i3 (p:=λ i=>look (aw x a b s i) dF=Kf (.d<|.int (i:Nat))) p.le {2} {2}<|{2}
 have y:decide ((1:Int)<=(i:Nat))=true:=decide_eq_true<|Int.ofNat_le.mpr<|Nat.one_le_iff_ne_zero.mpr q;unfold eW;refine bQ (n:=n+128) true (c':=c) (λ z h=>?_) ?_;rw[iG];exact bt (n:=n+125) rfl p.k_ p.d_ A.sl hl rfl _<|show z (decide<|(1:Int)<=(i:Nat)) c by rw[y];exact h
 exact⟨.d .none,c,vD _ _ _,p.w.w,λ _ h=>h,o p⟩
end
def G6 {l:List Nat}(h:l.Pairwise (·<·))(i:Nat):∀(a:Nat),l[i]?=Kf a->i<=a:=by induction i with|zero=>intro a _;exact Zj _|succ i rH=>intro a e;obtain⟨b,f⟩:=Qw.mp e;have j:=rH (l[i]'(U120 b))<|Qk _;have k:=List.pairwise_iff_getElem.mp h i (i+1) (U120 b) b<|U43;exact U350 f j k
theorem wk:∀l:List Nat,aG l<=l.length
 | []=>Zv _|c::l=>by unfold aG;have:=wk l;dsimp only[Qz];split<;>exact {this}
def j0 {b:List Nat}(G:GoodOk x b):1<=b.length/\b.length<=(sg x).length+1:=by have hl:=G.last;rw[Qp] at hl;have e:=(Qw.mp hl).1;have f:=G6 G.up _ _ hl;have h:=wk<|sg x;exact U349 e f h
def rS {e:List Nat}(G:GoodOk x e)(i:Nat):i+1<=e.length->(bH x e i).1<=(bH x e i).2/\(bH x e i).2<=x.length/\(0<(bH x e i).2->(sg x)[(bH x e i).2-1]?=Kf 10):=by induction i with|zero=>intro _;exact⟨Zv _,Zj _,λ h=>absurd h<|Nat.lt_irrefl _⟩|succ i rH=>intro j;unfold bH;split;exact rH {j};obtain⟨a,l⟩:∃a,e[i]?=Kf a:=⟨_,Qk {j}⟩;obtain⟨b,o⟩:∃b,e[i+1]?=Kf b:=⟨_,Qk {j}⟩;obtain⟨p,k⟩:=G.at_ l o;rw[List.getD_eq_getElem?_getD,List.getD_eq_getElem?_getD,l,o];have q:=fZ (sg x) p k;have r:=kM (sg x) b k;have u:=am x;obtain⟨f,rfl⟩:∃f,b=f+1:=⟨b-1,by exact U345 p⟩;have t:=(kH (sg x) f<|U74 k).2.1;refine⟨?_,?_,λ _=>t⟩;show ay (sg x) a<=ay (sg x) (f+1);exact U58 q;show ay (sg x) (f+1)<=x.length;exact U344 r
section
variable {c0:aa}{A B Z g b:Nat}{fs:List (Str×V)}
def EP (C:Cel2 c0 A B Z k pr){st:List Nat}:cK (Cs c0 A B Z st br) c0 c0:=by rw[celW_iff];intro p f;obtain⟨o,e,i⟩:=celW_iff.mp C.w.w p f;exact⟨o,by rw[r9 C<|aj e];exact e,gU (λ _ h=>h) i⟩
def ma {f:Ww}{o:Str}{need:Nat}{a b:Int}{s:L2}{r:List IS}{K:F->Sg'->Prop}(hi:av l 0=Kf (.obj k))(p:Par P.C c k dk x a b s i)(t:∀i s,i<=2->look (aw x a b s i) o=Wq)(w:P.isFn f=true)(u:P.fn f=aX P.C Fs need (λ _=>True) fy)(y:∀j∈Fs,j∉dom c)(h:∀s',Par P.C (cset c dk<|.ns<|aw x a b s'<|max need i) k dk x a b s' (max need i)->aJ P pr (n+4) r ⟨l,cset c dk<|.ns<|aw x a b s'<|max need i⟩ K):aJ P pr (n+5) (.expr (.umeth (.v 0) f o [])::r) ⟨l,c⟩ K:=by show aU P (n+3) (.umeth (.v 0) f o []) l c λ v z=>aJ P pr (n+4) r ⟨l,z⟩ K;refine lx (n:=n) hi p.k_ p.d_ (t i s p.le) w _ ?_;rw[u];exact⟨k,dk,x,a,b,s,i,rfl,p,y,trivial,λ v s' e G=>⟨λ j q=>by rw[ai];exact q,h s' G⟩⟩
def sJ {st jr cr sr:Ww}{g b:Nat}{o b1:Int}{s:L2}(At:Attr3 P)(p:Par P.C c k dk x o b1 s i)(hg:g∉dom c)(hb:b∉dom c)(hA:A∉dom c)(hB:B∉dom c)(hZ:Z∉dom c)(ab:A≠B)(az:A≠Z)(bz:B≠Z)(hs:P.isFn st=true) (hsf:P.fn st=aX P.C [g,b] 1 (λ _=>True) fy) (z:P.isFn jr=true) (hjf:P.fn jr=aP Re.junkC) (hc1:P.isFn cr=true) (hc2:P.fn cr=aP Re.chewC) (hs1:P.isFn sr=true) (hs2:P.fn sr=aP Re.strC) {K:V->aa->Prop}(h:∀s',Par P.C (cset c dk<|.ns<|aw x o b1 s' 2) k dk x o b1 s' 2->K (.d .none) (cset c dk<|.ns<|aw x o b1 s' 2)) :aJ P (dom c) (n+130) (f7 st jr cr sr A B Z) ⟨start [.obj k] 13,c⟩ (EndP c K):=by
 have hkd:=p.ne;have dkd:=aj p.d_;have kd:=aj p.k_;have T:=p.t.toTextOk;have hl:look (aw x o b1 s i) dF=Kf (.d<|.int (i:Nat)):=i3 (p:=λ i=>look (aw x o b1 s i) dF=Kf (.d<|.int (i:Nat))) p.le {2} {2}<|{2}
 unfold f7;by_cases h2:i=2;subst h2;have q:=h s;rw[kS p.d_] at q;refine bQ (n:=n+128) true (c':=c) (λ r h=>?_) ?_;rw[iG];exact bt (n:=n+125) rfl p.k_ p.d_ At.sl hl rfl _ h;exact EndP.same p.w (λ _ h=>h) rfl<|q p;have L:i<=1:=by have:=p.le;exact U541 h2 this
 have em:max 1 i=1:=Nat.max_eq_left L;refine bQ (n:=n+128) false (c':=c) (λ r h=>?_)<|aM ?_;rw[iG];refine bt (n:=n+125) rfl p.k_ p.d_ At.sl hl rfl _ ?_;show r (decide<|(2:Int)<=(i:Nat)) c;rw[decide_eq_false<|by exact U540 L];exact h;refine ma (n:=n+124) rfl p (λ i s hi=>oz hi<|{3}) hs hsf (λ j z=>?_) λ y I=>?_;simp only[Qy,Xb,or_false] at z;rcases z with rfl|rfl
 exact hg;exact hb;rw[em] at I ⊢;have G:=lR x;obtain⟨Y,gl2⟩:=j0 G;have hT:=T.len;have hlx:=am x;have hxb:x.length<=big:=U63 hT;have hgb:(ax<|fin x).length<=big:={gl2,hT};obtain⟨q1,q2,q3⟩:=rS G ((ax<|fin x).length-1)<|U342 Y;refine dA (n:=n+126) (.d<|.int 2) (c':=cset c dk<|.ns<|aw x o b1 y 1) (k:=k) (dk:=dk) (fs:=aw x o b1 y 1) (λ r h=>h) (λ r h=>h) I.k_ I.d_ At.sl (by show 6<=1000;decide) ?_;rw[bn];have M:ae (cset c dk<|.ns<|a6 (aw x o b1 y 1) dF<|.d<|.int 2) k=Kf (.inst P.C dk):=by rw[aI dkd,Wg hkd];exact p.k_
 have R:ae (cset c dk<|.ns<|a6 (aw x o b1 y 1) dF<|.d<|.int 2) dk=Kf (.ns<|a6 (aw x o b1 y 1) dF<|.d<|.int 2):=by rw[aI dkd,Wy rfl]
 have d1:dom (cset c dk<|.ns<|a6 (aw x o b1 y 1) dF<|.d<|.int 2)=dom c:=ai ..;have W1:Wf (cset c dk<|.ns<|a6 (aw x o b1 y 1) dF<|.d<|.int 2):=by have:=I.w.set I.d_<|Cf I.w I.d_ dF<|.int 2;rw[bn] at this;exact this
 have fl:(a6 (aw x o b1 y 1) dF<|.d<|.int 2).length<=940:=Zk (eD _ _ _<|Zv 6)<|{4}
 have hco:look (a6 (aw x o b1 y 1) dF<|.d<|.int 2) cf=Kf (.d<|.str x):={2}
 have hgl:look (a6 (aw x o b1 y 1) dF<|.d<|.int 2) oJ=Kf (.d<|.lst<|ao<|ax<|fin x):={2}
 have ecc:∀f,cset (cset c dk<|.ns<|a6 (aw x o b1 y 1) dF<|.d<|.int 2) dk (.ns f)=cset c dk (.ns f):=λ f=>bn ..;have e2:∀s,p8 (a6 (a6 (a6 (aw x o b1 y 1) dF<|.d<|.int 2) dE<|.d<|.int ((kh x).1:Nat)) mV<|.d<|.int ((kh x).2:Nat)) s=aw x o b1 s 2:=λ s=>by kernel_rfl
 have hw:=p.w;have hk0:=p.k_;have hd0:=p.d_;have t:=p.t;clear I hl L em h2 p;generalize a6 (aw x o b1 y 1) dF (.d<|.int 2)=f2 at *
 generalize hc1':cset c dk (.ns f2)=U at *
 refine rb (n:=n+125) (.str x) (.lst<|ao<|ax<|fin x) (λ r h=>bt (n:=n+123) rfl M R At.co hco rfl _ h) (λ r h=>bt (n:=n+123) rfl M R At.gl hgl rfl _ h) ?_;refine aN (n:=n+124) (.d<|.int<|((ax<|fin x).length-1:Nat)) (λ r h=>?_) ?_;rw[fR];refine gv (n:=n+120) (u:=.bi .len) (v1:=.d<|.lst<|ao<|ax<|fin x) (λ r h=>h) (λ r h=>h) ?_;refine⟨by rw[aW];exact hgb,?_⟩;have e:(((ax<|fin x).length-1:Nat):Int)=(((ao<|ax<|fin x).length:Nat):Int)-1:=by rw[aW];exact U338 Y
 rw[e] at h;exact h;refine aN (n:=n+123) (.d<|.int (x.length:Nat)) (λ r h=>⟨hxb,h⟩) ?_;have kd1:k∈dom U:=by rw[d1];exact kd
 have pr1:∀j∈dom c,j∈dom U:=λ j z=>by rw[d1];exact z
 have J:∀{i nn:Option V},(nn=Wq\/∃d,nn=Kf (.d d))->aJ P (dom c) (n+122) (AB cr sr A B Z) ⟨S1 k x (ax<|fin x) i (I_ (kh x).1) (I_ (kh x).2) nn,U⟩ (EndP c K):=by intro i nn W;refine EI (n:=n+42) At.toAttr2 W1 M R fl T t.big_ hc1 hc2 hs1 hs2 (by rw[d1];exact hA) (by rw[d1];exact hB) (by rw[d1];exact hZ) ab az bz pr1 q1 q2 q3 W λ s l hr hp CC=>?_;rw[ecc,e2] at CC ⊢;exact⟨.d .none,_,vD _ _ _,EP CC,λ j z=>by rw[ai];exact z,h s<|Par.to hw hk0 hd0 t (Zv 2) λ _=>⟨hr,hp⟩⟩
 refine dq (n:=n+123)<|xB (n:=n+93) T G hgb z hjf kd1 W1.w pr1 (λ h0=>?_) λ i a b nn W ha hb h1=>?_;refine bQ (n:=n+121) true (c':=U) (λ r h=>h) ?_;refine b7 (n:=n+119) (c':=U) (λ r h=>h) ?_;refine aN (n:=n+118) (.d<|.int 0) (λ r h=>h)<|aM ?_;have:=J (i:=I_ 0) (nn:=Wq)<|.inl rfl;have e:kh x=(0,0):=h0;rw[e] at this;exact this;refine bQ (n:=n+121) false (c':=U) (λ r h=>?_) (aM ?_);show r ((((i+1:Nat):Int))==0) U;rw[show ((((i+1:Nat):Int))==0)=false from beq_eq_false_iff_ne.mpr (U337)];exact h;have:=J (i:=I_<|i+1) W;have e:kh x=(ay (sg x) a,ay (sg x) b):=h1;rw[e] at this;exact this
end
noncomputable def Gn (n:Nat):Md->Md
 | .Q1 d f=>.Q1 d<|f+n| .Q2 d f=>.Q2 d<|f+n| .S1 d f=>.S1 d<|f+n| .S1e d f=>.S1e d<|f+n| .S3 d k f=>.S3 d k<|f+n| .S3e d f=>.S3e d<|f+n|m=>m
noncomputable def sh (g:List Nat)(n:Nat)(s:St):St:=⟨Gn n s.md,s.lv,s.ln+n,g++(s.gd.map (·+n)).tail⟩
def Go {g:List Nat}{s:St}(h:s.gd≠[]):nl (sh g n s)=sh g n (nl s):=by obtain⟨e,lv,b,gd⟩:=s;cases gd with|nil=>exact absurd rfl h|cons a gd=>cases lv with|zero=>show (⟨.N,0,b+n+1,g++gd.map (·+n)++[b+n+1]⟩:St)=⟨.N,0,b+1+n,g++(gd++[b+1]).map (·+n)⟩;rw[List.map_append,Nat.add_right_comm,Qv];rfl|succ k=>show (⟨.N,k+1,b+n+1,g++gd.map (·+n)⟩:St)=⟨.N,k+1,b+1+n,g++gd.map (·+n)⟩;rw[Nat.add_right_comm]
def dM {α β:Type}{F:α->β}{p:Prop}{i:Decidable p}{a b:α}{a' e:β}(f:p->a'=F a)(j:¬p->e=F b):@ite β p i a' e=F (@ite α p i a b):=by by_cases h:p;rw[Wy h,Wy h];exact f h;rw[Wg h,Wg h];exact j h
def Aq {g:List Nat}{s:St}(h:s.gd≠[])(c:Nat):step (sh g n s) c=sh g n (step s c):=by
 have e:=Go (g:=g) (n:=n) h;have b:∀{m:Md} {l:Nat} {k:List Nat},(⟨m,l,s.ln+n+1,k⟩:St)=⟨m,l,s.ln+1+n,k⟩:=by intro m l k;rw[Nat.add_right_comm]
 have i:fw (sh g n s) c=sh g n (fw s c):=dM (λ _=>e) λ _=>dM (λ _=>rfl) λ _=>dM (λ _=>rfl) λ _=>dM (λ _=>rfl) λ _=>dM (λ _=>rfl) λ _=>dM (λ _=>rfl) λ _=>dM (λ _=>rfl) λ _=>rfl;have j:∀d f,hM (sh g n s) d (f+n) c=sh g n (hM s d f c):=λ d f=>dM (λ _=>rfl) λ _=>dM (λ _=>e) λ _=>dM (λ _=>rfl) λ _=>rfl;obtain⟨o,lv,p,gd⟩:=s
 cases o with
 |N=>exact i|Nb=>exact i|E=>exact dM (λ _=>b) λ _=>rfl
 |C=>exact dM (λ _=>e) λ _=>rfl
 |Q1 d f=>exact dM (λ _=>rfl) λ _=>j d f
 |Q2 d f=>exact dM (λ _=>rfl) λ _=>i
 |S1 d f=>exact j d f|S1e d f=>exact dM (λ _=>b) λ _=>rfl
 |S3 d k f=>exact dM (λ _=>dM (λ _=>rfl) λ _=>rfl) λ _=>dM (λ _=>b) λ _=>dM (λ _=>rfl) λ _=>rfl
 |S3e d f=>exact dM (λ _=>b) λ _=>rfl
def Gr {s:St}(h:s.gd≠[])(c:Nat):(step s c).gd≠[]:=by
 rcases jH s c with e|⟨e,_⟩
 rw[e];exact h;rw[e];simp
def zW {g:List Nat}(l:List Nat):∀{s:St},s.gd≠[]->scan (sh g n s) l=sh g n (scan s l):=by induction l with|nil=>intro s h;exact rfl|cons c l rH=>intro s h;rw[aO,aO,Aq h];exact rH<|Gr h c
def bP (a:List Nat):∀(b:List Nat),aG (a++b)=aG a+aG b:=by induction a with|nil=>intro b;show aG b=0+aG b;exact Om.an {1} {1}|cons c a rH=>intro b;show (if c=10 then 1 else 0)+aG (a++b)=_;rw[rH b,aG];exact Om.an {1} {1}
def FA (a:List Nat):∀(b:List Nat) (t:Nat),(a=[]\/a.getLast?=Kf 10)->ay (a++b) (aG a+t)=a.length+ay b t:=by
 induction a using bj with
 |nil=>intro b t _;show ay b (0+t)=0+_;rw[Nat.zero_add,Nat.zero_add]|zero c=>
  intro b t h;have:c=10:=by simpa using h
  subst this;show ay (10::b) (1+0+t)=1+ay b t;rw[show 1+0+t=t+1 by exact Om.an {1} {1},ay,Wy rfl]
 |cons c d a rH1 rH2=>
  intro b t h;have f:(d::a).getLast?=Kf 10:=by simpa [List.getLast?_cons_cons] using h
  have i:=rH2 b t<|.inr f;have k:0<aG (d::a):=by have:=wB (d::a)<|.inr f;cases l:aG (d::a) with|zero=>rw[l,cx] at this;contradiction|succ n=>exact {1}
  show ay (c::(d::a++b)) (aG (c::d::a)+t)=_;by_cases e:c=10;rw[show aG (c::d::a)+t=(aG (d::a)+t)+1 by rw[aG,Wy e];exact Om.an {1} {1},ay,Wy e,i];dsimp only[Qz];exact Om.an {1} {1};obtain⟨m,j⟩:∃m,aG (d::a)+t=m+1:=⟨aG (d::a)+t-1,by exact U382 k⟩;rw[show aG (c::d::a)+t=m+1 by rw[aG,Wg e];exact U381 j,ay,Wg e,<-j,i];dsimp only[Qz];exact Om.an {1} {1}
structure Cl (l gd:List Nat):Prop where
 sc:scan st0 (l.map tr)=⟨.N,0,aG l,gd⟩
 last:gd.getLast?=Kf (aG l)
 ends:l=[]\/l.getLast?=Kf 10
def KU:Cl [] [0]:=⟨rfl,rfl,.inl rfl⟩
def mK {a b:List Nat}(e:a=[]\/a.getLast?=Kf 10)(hb:b=[]\/b.getLast?=Kf 10):a++b=[]\/(a++b).getLast?=Kf 10:=by
 rcases hb with rfl|hb
 rw[Zg];exact e;right;rw[Qb,hb];rfl
theorem Cl.scan {l:List Nat}(h:Cl l gd)(S:List Nat):scan st0 ((l++S).map tr)=sh gd (aG l) (scan st0<|S.map tr):=by
 rw[List.map_append,aE,h.sc];have e:(⟨.N,0,aG l,gd⟩:St)=sh gd (aG l) st0:=by show (⟨.N,0,aG l,gd⟩:St)=⟨.N,0,0+aG l,gd++[]⟩;rw[Zg,Nat.zero_add]
 rw[e,zW _<|{4}]
def Cl.app {l S b:List Nat}(h:Cl l gd)(e:Cl S<|0::b):Cl (l++S) (gd++b.map (·+aG l)):=by
 refine⟨?_,?_,mK h.ends e.ends⟩;rw[h.scan,e.sc];show (⟨.N,0,aG S+aG l,gd++b.map (·+aG l)⟩:St)=_;rw[bP,Nat.add_comm];have hl:=e.last;rw[bP]
 cases b with
 |nil=>
  have:aG S=0:=by simpa using hl.symm
  rw[this,List.map_nil,Zg];exact h.last
 |cons a b=>rw[List.getLast?_cons_cons] at hl;rw[Qb,List.getLast?_map,hl];show Kf (aG S+aG l)=_;rw[Nat.add_comm]
structure JkOk (J:List Nat):Prop where
 cl:Cl J (List.range<|aG J+1)
 jk:∀t,t<aG J->Re.junkB (J.drop<|ay J t)=true
def nN {s:St}(h:s.gd.getLast?=Kf s.ln):ax s=s.gd:=Wy h
def bu {c y:Nat}(b:y=34\/y=39\/y=92\/y=10):tr c=y↔c=y:=by unfold tr;constructor;intro h;split at h;exact (U555 b h).elim;split at h;exact (U554 b h).elim;split at h;exact h;exact (U553 b h).elim;rintro rfl;rw[Wg (by exact U552 b),Wg (by exact U551 b),Wy<|by exact U550 b]
def ey (d:Bool):qc d≠92/\qc d≠10:=by cases d<;>decide
def zj (d:Bool):qc d=34\/qc d=39\/qc d=92\/qc d=10:=by cases d<;>decide
noncomputable def gf (q:Nat):List Nat->Bool
 | []=>false| [c]=>c==q|c::d::r=>if c=92 then gf q r else if c=10 then false else if c=q then true else gf q (d::r)
def G0 {c d:Nat}:gf q (c::d::r)=if c=92 then gf q r else if c=10 then false else if c=q then true else gf q (d::r):=rfl
def rj {d:Bool}{f lv c:Nat}(b:c≠92)(h:c≠10)(i:c≠qc d):step ⟨.S1 d f,lv,ln,gd⟩ (tr c)=⟨.S1 d f,lv,ln,gd⟩:=by show (if tr c=qc d then _ else if tr c=10 then _ else if tr c=92 then _ else _)=_;rw[Wg (λ e=>i<|(bu<|zj d).mp e),Wg (λ e=>h<|(bu<|{4}).mp e),Wg<|λ e=>b<|(bu<|{4}).mp e]
def ng {d:Bool}{f lv:Nat}:step ⟨.S1 d f,lv,ln,gd⟩ (tr<|qc d)=⟨.N,lv,ln,gd⟩:=by cases d<;>rfl
def CV {d:Bool}{f lv c:Nat}:step (step ⟨.S1 d f,lv,ln,gd⟩<|tr 92) (tr c)=⟨.S1 d f,lv,(if c=10 then ln+1 else ln),gd⟩:=by
 have e:step ⟨.S1 d f,lv,ln,gd⟩ (tr 92)=⟨.S1e d f,lv,ln,gd⟩:=by cases d<;>rfl
 rw[e];show (if tr c=10 then _ else _)=_;by_cases h:c=10;rw[Wy ((bu<|{4}).mpr h),Wy h];rw[Wg (λ e=>h<|(bu<|{4}).mp e),Wg h]
theorem mc (d:Bool)(f lv:Nat)(gd:List Nat):∀(w:List Nat) (ln:Nat),scan ⟨.S1 d f,lv,ln,gd⟩ ((w.take<|Re.sEnd1 (qc d) w).map tr)=⟨if gf (qc d) w=true then .N else .S1 d f,lv,ln+aG (w.take<|Re.sEnd1 (qc d) w),gd⟩
 | [],ln=>rfl
 | [c],ln=>by
  show scan _ (([c].take<|if c=92\/c=10 then 0 else 1).map tr)=⟨if (c==qc d)=true then _ else _,_,ln+aG ([c].take<|if c=92\/c=10 then 0 else 1),_⟩;by_cases h:c=92\/c=10;rw[Wy h,beq_eq_false_iff_ne.mpr (λ e=>by have:=ey d;exact U549 h e this)];rfl;rw[Wg h];have b:c≠10:=λ e=>h<|.inr e;have k:aG [c]=0:=by show (if c=10 then 1 else 0)+0=0;rw[Wg b]
  show step ⟨.S1 d f,lv,ln,gd⟩ (tr c)=⟨_,lv,ln+aG [c],gd⟩;rw[k];by_cases l:c=qc d;rw[beq_iff_eq.mpr l,l,ng];rfl;rw[beq_eq_false_iff_ne.mpr l,rj (λ e=>h<|.inl e) b l];rfl
 |c::i::r,ln=>by
  rw[Re.e1c,G0];by_cases o:c=92;subst o;rw[Wy rfl,Wy rfl,Nat.add_comm 2];show scan (step (step _<|tr 92)<|tr i) ((r.take<|Re.sEnd1 (qc d) r).map tr)=⟨_,_,ln+(0+((if i=10 then 1 else 0)+aG (r.take<|Re.sEnd1 (qc d) r))),_⟩;rw[CV,mc d f lv gd r];congr 1;split<;>exact Nat.le_antisymm {1} {1};rw[Wg o,Wg o];by_cases b:c=10;rw[Wy b,Wy b];rfl;rw[Wg b,Wg b];have k:∀t,aG (c::t)=aG t:=λ t=>by show (if c=10 then 1 else 0)+aG t=aG t;rw[Wg b,Nat.zero_add]
  by_cases j:c=qc d;rw[Wy j,Wy j];show step ⟨.S1 d f,lv,ln,gd⟩ (tr c)=⟨_,lv,ln+aG [c],gd⟩;rw[k,j,ng];rfl;rw[Wg j,Wg j,Nat.add_comm 1];show scan (step _<|tr c) (((i::r).take<|Re.sEnd1 (qc d)<|i::r).map tr)=⟨_,_,ln+aG (c::(i::r).take (Re.sEnd1 (qc d)<|i::r)),_⟩;rw[k,rj o b j,mc d f lv gd<|i::r]
noncomputable def fD (q:Nat):List Nat->Bool
 | []=>false| [_]=>false|c::d::r=>if c=92 then fD q r else if c=q/\d=q/\r.head?=Kf q then true else fD q (d::r)
def Be {c d:Nat}:fD q (c::d::r)=if c=92 then fD q r else if c=q/\d=q/\r.head?=Kf q then true else fD q (d::r):=rfl
noncomputable def uR (q:Nat):List Nat->Nat
 | []=>0|c::r=>if c=q then 1+uR q r else 0
def qI {d:Bool}{f lv c:Nat}(h:c≠92)(i:c≠qc d):step ⟨.S3 d k f,lv,ln,gd⟩ (tr c)=⟨.S3 d 0 f,lv,ln+(if c=10 then 1 else 0),gd⟩:=by show (if tr c=qc d then _ else if tr c=10 then _ else if tr c=92 then _ else _)=_;rw[Wg<|λ e=>i<|(bu<|zj d).mp e];by_cases b:c=10;rw[Wy ((bu<|{4}).mpr b),Wy b];rw[Wg (λ e=>b<|(bu<|{4}).mp e),Wg (λ e=>h<|(bu<|{4}).mp e),Wg b];rfl
def ed {d:Bool}{f lv:Nat}:step ⟨.S3 d k f,lv,ln,gd⟩ (tr<|qc d)=if k=2 then ⟨.N,lv,ln,gd⟩ else ⟨.S3 d (k+1) f,lv,ln,gd⟩:=by cases d<;>rfl
def DA {d:Bool}{f lv c:Nat}:step (step ⟨.S3 d k f,lv,ln,gd⟩<|tr 92) (tr c)=⟨.S3 d 0 f,lv,(if c=10 then ln+1 else ln),gd⟩:=by
 have e:step ⟨.S3 d k f,lv,ln,gd⟩ (tr 92)=⟨.S3e d f,lv,ln,gd⟩:=by cases d<;>rfl
 rw[e];show (if tr c=10 then _ else _)=_;by_cases h:c=10;rw[Wy ((bu<|{4}).mpr h),Wy h];rw[Wg (λ e=>h<|(bu<|{4}).mp e),Wg h]
def Bh (d:Bool)(f lv:Nat)(gd:List Nat)(w:List Nat):∀(k ln:Nat),(k=0\/k+uR (qc d) w<3)->∃k',scan ⟨.S3 d k f,lv,ln,gd⟩ ((w.take<|Re.sEnd3 (qc d) w).map tr)=⟨if fD (qc d) w=true then .N else .S3 d k' f,lv,ln+aG (w.take<|Re.sEnd3 (qc d) w),gd⟩:=by
 induction w using bj with
 |nil=>intro k ln _;exact⟨k,rfl⟩|zero c=>
  intro k ln h;show ∃k',scan _ (([c].take<|if c=92 then 0 else 1).map tr)=⟨.S3 d k' f,_,ln+aG ([c].take<|if c=92 then 0 else 1),_⟩;by_cases l:c=92;rw[Wy l];exact⟨k,rfl⟩;rw[Wg l];by_cases i:c=qc d;subst i;have x:k≠2:=λ e=>by
   rcases h with h|h
   exact U548 e h;have:uR (qc d) [qc d]=1:=by show (if qc d=qc d then 1+0 else 0)=1;rw[Wy rfl]
   exact U547 e h this
  refine⟨k+1,?_⟩;show step ⟨.S3 d k f,lv,ln,gd⟩ (tr<|qc d)=⟨.S3 d (k+1) f,lv,ln+((if qc d=10 then 1 else 0)+0),gd⟩;rw[ed,Wg x,Wg (ey d).2];rfl;exact⟨0,qI l i⟩
 |cons c b r rH1 rH2=>
  intro k ln h;rw[Re.e3c,Be];by_cases l:c=92;subst l;obtain⟨k',y⟩:=rH1 0 (if b=10 then ln+1 else ln)<|.inl rfl;refine⟨k',?_⟩;rw[Wy rfl,Wy rfl,Nat.add_comm 2];show scan (step (step _<|tr 92)<|tr b) ((r.take<|Re.sEnd3 (qc d) r).map tr)=⟨_,_,ln+(0+((if b=10 then 1 else 0)+aG (r.take<|Re.sEnd3 (qc d) r))),_⟩;rw[DA,y];congr 1;split<;>exact Nat.le_antisymm {1} {1};rw[Wg l,Wg l]
  have go:∀q j,step ⟨.S3 d k f,lv,ln,gd⟩ (tr c)=⟨.S3 d q f,lv,j,gd⟩->j=ln+(if c=10 then 1 else 0)->(q=0\/q+uR (qc d) (b::r)<3)->
    ∃k',scan ⟨.S3 d k f,lv,ln,gd⟩ (((c::b::r).take<|1+Re.sEnd3 (qc d) (b::r)).map tr)=⟨if fD (qc d) (b::r)=true then .N else .S3 d k' f,lv,ln+aG ((c::b::r).take<|1+Re.sEnd3 (qc d) (b::r)),gd⟩:=by
   intro q j J hl z;obtain⟨k',y⟩:=rH2 q j z;refine⟨k',?_⟩;rw[Nat.add_comm 1];show scan (step _<|tr c) (((b::r).take<|Re.sEnd3 (qc d)<|b::r).map tr)=⟨_,_,ln+((if c=10 then 1 else 0)+aG ((b::r).take<|Re.sEnd3 (qc d)<|b::r)),_⟩;rw[J,y,hl,Nat.add_assoc]
  by_cases i:c=qc d;have G:c≠10:=λ e=>(ey d).2 (i▸e);have hl:uR (qc d) (c::b::r)=1+uR (qc d) (b::r):=Wy i;by_cases o:c=qc d/\b=qc d/\r.head?=Kf (qc d);rw[Wy o,Wy o];obtain⟨_,p,L⟩:=o;obtain⟨t,rfl⟩:∃t,r=qc d::t:=by cases r with|nil=>contradiction|cons a t=>exact⟨t,by rw[Option.some.inj L]⟩
  have I:k=0:=by
   rcases h with h|h
   exact h;rw[hl] at h;have:uR (qc d) (b::qc d::t)=1+(1+uR (qc d) t):=by show (if b=qc d then 1+(if qc d=qc d then 1+uR (qc d) t else 0) else 0)=_;rw[Wy p,Wy rfl]
   exact (U546 h this).elim
  subst I i p;refine⟨0,?_⟩;show step (step (step ⟨.S3 d 0 f,lv,ln,gd⟩<|tr<|qc d)<|tr<|qc d) (tr<|qc d)=⟨_,lv,ln+((if qc d=10 then 1 else 0)+((if qc d=10 then 1 else 0)+((if qc d=10 then 1 else 0)+0))),gd⟩;rw[ed,Wg {4},ed,Wg {4},ed,Wy rfl,Wg (ey d).2];rfl;rw[Wg o,Wg o];have u:k+1+uR (qc d) (b::r)<3:=by
   rcases h with h|h
   subst h;show 0+1+(if b=qc d then 1+uR (qc d) r else 0)<3;by_cases p:b=qc d;rw[Wy p];have:uR (qc d) r=0:=by cases r with|nil=>rfl|cons a t=>exact Wg λ e=>o ⟨i,p,congrArg Kf e⟩
   exact U545 this;rw[Wg p];decide;rw[hl] at h;exact {h}
  refine go (k+1) ln ?_ (by rw[Wg G];rfl)<|.inr u;rw[i,ed,Wg<|by exact U543 u];rw[Wg (λ e=>i e.1),Wg<|λ e=>i e.1];exact go 0 _ (qI l i) rfl<|.inl rfl
noncomputable def kj (q:Nat)(r:List Nat):Bool:=if r.head?=Kf q/\r.tail.head?=Kf q then fD q (r.drop 2) else gf q r
def rM {d:Bool}{lv:Nat}:step ⟨.N,lv,ln,gd⟩ (tr<|qc d)=⟨.Q1 d ln,lv,ln,gd⟩:=by cases d<;>rfl
def ow {d:Bool}{lv:Nat}:step ⟨.Q1 d ln,lv,ln,gd⟩ (tr<|qc d)=⟨.Q2 d ln,lv,ln,gd⟩:=by cases d<;>rfl
def Bt {d:Bool}{lv:Nat}:step ⟨.Q2 d ln,lv,ln,gd⟩ (tr<|qc d)=⟨.S3 d 0 ln,lv,ln,gd⟩:=by cases d<;>rfl
def Hl {d:Bool}{lv c:Nat}(h:c≠qc d):step ⟨.Q1 d ln,lv,ln,gd⟩ (tr c)=step ⟨.S1 d ln,lv,ln,gd⟩ (tr c):=by show (if tr c=qc d then _ else hM _ d ln (tr c))=_;rw[Wg<|λ e=>h<|(bu<|zj d).mp e];rfl
def qM (q:Nat)(w:List Nat):fD q w=false->(w.drop<|Re.sEnd3 q w).head?≠Kf 10:=by induction w using Re.sEnd3.induct q with|case1=>intro _ q;cases q|case2=>intro _ q;exact absurd (Option.some.inj q)<|by decide|case3 c hc=>intro _;show (([c]:List Nat).drop<|if c=92 then 0 else 1).head?≠Kf 10;rw[Wg hc];intro q;cases q|case4 d' r ih=>rw[Be,Wy rfl,Re.e3c,Wy rfl,Nat.add_comm 2];exact ih|case5 c d' r hc h3=>rw[Be,Wg hc,Wy h3];intro q;cases q|case6 c d' r hc h3 ih=>rw[Be,Wg hc,Wg h3,Re.e3c,Wg hc,Wg h3,Nat.add_comm 1];exact ih
def nh (d:Bool)(lv ln:Nat)(gd r:List Nat):∃s,scan ⟨.N,lv,ln,gd⟩ (((qc d::r).take<|Re.strEnd<|qc d::r).map tr)=s/\s.lv=lv/\s.ln=ln+aG ((qc d::r).take<|Re.strEnd<|qc d::r)/\s.gd=gd/\(if kj (qc d) r=true then s.md=.N\/(s.md=.Q2 d ln/\((qc d::r).drop<|Re.strEnd<|qc d::r).head?≠Kf (qc d)) else s.md=.Q1 d ln\/s.md=.S1 d ln\/∃k,s.md=.S3 d k ln/\((qc d::r).drop<|Re.strEnd<|qc d::r).head?≠Kf 10):=by
 have n0:∀t,aG (qc d::t)=aG t:=λ t=>by show (if qc d=10 then 1 else 0)+aG t=aG t;rw[Wg (ey d).2,Nat.zero_add]
 by_cases h:r.head?=Kf (qc d)/\r.tail.head?=Kf (qc d);have e:Re.strEnd (qc d::r)=3+Re.sEnd3 (qc d) (r.drop 2):=Wy h;have j:kj (qc d) r=fD (qc d) (r.drop 2):=Wy h;rw[e,j];obtain⟨w,x⟩:=h;obtain⟨t,rfl⟩:∃t,r=qc d::qc d::t:=by cases r with|nil=>contradiction|cons a r=>cases r with|nil=>contradiction|cons b t=>exact⟨t,by rw[Option.some.inj w,Option.some.inj x]⟩
 obtain⟨o,f⟩:=Bh d ln lv gd t 0 ln<|.inl rfl;have key:scan ⟨.N,lv,ln,gd⟩ (((qc d::qc d::qc d::t).take<|3+Re.sEnd3 (qc d) t).map tr)=⟨if fD (qc d) t=true then .N else .S3 d o ln,lv,ln+aG (t.take<|Re.sEnd3 (qc d) t),gd⟩:=by rw[Nat.add_comm 3];show scan (step (step (step ⟨.N,lv,ln,gd⟩<|tr<|qc d)<|tr<|qc d)<|tr<|qc d) ((t.take<|Re.sEnd3 (qc d) t).map tr)=_;rw[rM,ow,Bt,f]
 refine⟨_,key,rfl,?_,rfl,?_⟩;rw[Nat.add_comm 3];show ln+aG (t.take<|Re.sEnd3 (qc d) t)=ln+aG (qc d::qc d::qc d::t.take (Re.sEnd3 (qc d) t));rw[n0,n0,n0];show if fD (qc d) t=true then _ else _
 cases i:fD (qc d) t with|true=>exact .inl rfl|false=>exact .inr<|.inr ⟨o,rfl,by rw[Nat.add_comm 3];exact qM (qc d) t i⟩
 have e:Re.strEnd (qc d::r)=1+Re.sEnd1 (qc d) r:=Wg h;have j:kj (qc d) r=gf (qc d) r:=Wg h;rw[e,j,Nat.add_comm 1];show ∃s,scan (step ⟨.N,lv,ln,gd⟩<|tr<|qc d) ((r.take<|Re.sEnd1 (qc d) r).map tr)=s/\s.lv=lv/\s.ln=ln+aG (qc d::r.take (Re.sEnd1 (qc d) r))/\s.gd=gd/\_;rw[rM,n0]
 cases r with|nil=>exact⟨_,rfl,rfl,rfl,rfl,.inl rfl⟩|cons c t=>
  by_cases p:c=qc d;subst p;have y:Re.sEnd1 (qc d) (qc d::t)=1:=by cases t with|nil=>show (if qc d=92\/qc d=10 then 0 else 1)=1;rw[Wg (by have:=ey d;exact U542 this)]|cons b t=>rw[Re.sEnd1,Wg (ey d).1,Wg (ey d).2,Wy rfl]
  have z:gf (qc d) (qc d::t)=true:=by cases t with|nil=>exact beq_self_eq_true _|cons b t=>rw[G0,Wg (ey d).1,Wg (ey d).2,Wy rfl]
  rw[y,z];refine⟨_,rfl,?_⟩;show (step ⟨.Q1 d ln,lv,ln,gd⟩<|tr<|qc d).lv=lv/\(step ⟨.Q1 d ln,lv,ln,gd⟩<|tr<|qc d).ln=ln+aG [qc d]/\(step ⟨.Q1 d ln,lv,ln,gd⟩<|tr<|qc d).gd=gd/\((step ⟨.Q1 d ln,lv,ln,gd⟩<|tr<|qc d).md=.N\/((step ⟨.Q1 d ln,lv,ln,gd⟩<|tr<|qc d).md=.Q2 d ln/\t.head?≠Kf (qc d)));rw[ow,n0];exact⟨rfl,rfl,rfl,.inr ⟨rfl,λ e=>h ⟨rfl,e⟩⟩⟩;have f:=mc d ln lv gd (c::t) ln
  cases u:Re.sEnd1 (qc d) (c::t) with
  |zero=>
   have i:gf (qc d) (c::t)=false:=by cases l:gf (qc d) (c::t) with|false=>rfl|true=>rw[u,l] at f;exact absurd (congrArg St.md f)<|by intro q;cases q
   rw[i];exact⟨_,rfl,rfl,rfl,rfl,.inl rfl⟩
  |succ n=>
   rw[u] at f;refine⟨_,rfl,?_⟩
   show (scan (step ⟨.Q1 d ln,lv,ln,gd⟩<|tr c)<|(t.take n).map tr).lv=lv/\(scan (step ⟨.Q1 d ln,lv,ln,gd⟩<|tr c)<|(t.take n).map tr).ln=ln+aG (c::t.take n)/\(scan (step ⟨.Q1 d ln,lv,ln,gd⟩<|tr c)<|(t.take n).map tr).gd=gd/\
    (if gf (qc d) (c::t)=true then (scan (step ⟨.Q1 d ln,lv,ln,gd⟩<|tr c)<|(t.take n).map tr).md=.N\/_ else _\/(scan (step ⟨.Q1 d ln,lv,ln,gd⟩<|tr c)<|(t.take n).map tr).md=.S1 d ln\/_)
   rw[Hl p,show scan (step ⟨.S1 d ln,lv,ln,gd⟩<|tr c) ((t.take n).map tr)=_ from f];refine⟨rfl,rfl,rfl,?_⟩;cases i:gf (qc d) (c::t) with|true=>exact .inl rfl|false=>exact .inr<|.inl rfl
def gM {s0 s:L2}(h:Rch x q s0 s):s=s0\/(s0.p<q/\Rch x q (dH x q s0) s):=by
 induction h with|refl=>exact .inl rfl|step h b e=>
  rcases e with rfl|⟨f,i⟩
  exact .inr ⟨b,.refl⟩;exact .inr ⟨f,.step i b⟩
def xh {s0 s:L2}(b:s0.p<q)(h:Rch x q (dH x q s0) s):Rch x q s0 s:=by induction h with|refl=>exact .step .refl b|step h hp ih=>exact .step ih hp
def Fz (w:List Nat)(s fin:L2):Prop:=∀(x:Str) (q:Nat),q<=x.length->s.p<=q->au x q s.p=w->∀s',Rch x q s s'->s'.p=q->s'=fin
def nv {s:L2}:Fz [] s s:=λ x q e j f k h l=>by
 have b:=cC (x:=x) (p:=s.p) e;rw[f] at b;rcases gM h with rfl|⟨i,_⟩
 rfl;have b:0=q-s.p:=b;exact (U559 i b).elim
def n9 {ch:Nat}{s t fin:L2}(o:Re.ord_ ch=false)(u:k<=r.length+1)(w:dL s.p s.last s.st s.br (ch::r)=t)(b:t.p=s.p+k)(g:Fz ((ch::r).drop k) t fin):Fz (ch::r) s fin:=λ x q f G e y h i=>by
 have j:=cC (x:=x) (p:=s.p) f;rw[e] at j;have l:r.length+1=q-s.p:=j;rcases gM h with rfl|⟨_,h⟩
 exact (U557 i l).elim;have z:dH x q s=t:=by unfold dH;rw[e,Xw,List.dropWhile_cons,o,<-w];rfl
 rw[z] at h;refine g x q f (by exact U558 u b l) ?_ y h i;rw[b,<-e];unfold au;rw[Xg]
def tj (c:Nat)(w:List Nat)(l:Str):lastOf (c::w) l=lastOf w (if aZ c=true then l else ⟨#[c]⟩):=by unfold lastOf d0;rw[List.reverse_cons,List.find?_append];cases w.reverse.find? λ c=>!aZ c with|some d=>rfl|none=>show (match ([c].find? λ c=>!aZ c) with|some c=>(⟨#[c]⟩:Str)|none=>l)=_;rw[List.find?_cons];cases aZ c<;>rfl
def wU {c:Nat}{s fin:L2}(t:Re.ord_ c=true)(g:Fz r ⟨s.p+1,if aZ c=true then s.last else ⟨#[c]⟩,s.st,s.br⟩ fin):Fz (c::r) s fin:=λ x q f y e u h i=>by
 have j:=cC (x:=x) (p:=s.p) f;rw[e] at j;have k:r.length+1=q-s.p:=j;rcases gM h with rfl|⟨_,h⟩
 exact (U557 i k).elim;have l:au x q (s.p+1)=r:=by
  have:au x q (s.p+1)=(au x q s.p).drop 1:=by unfold au;rw[Xg]
  rw[this,e];rfl
 have w:dH x q s=dL (s.p+1+(r.takeWhile Re.ord_).length) (lastOf (r.takeWhile Re.ord_)<|if aZ c=true then s.last else ⟨#[c]⟩) s.st s.br (r.dropWhile Re.ord_):=by unfold dH;rw[e,Xw,List.dropWhile_cons,t];show dL (s.p+((r.takeWhile Re.ord_).length+1)) (lastOf (c::r.takeWhile Re.ord_) s.last) s.st s.br (r.dropWhile Re.ord_)=_;rw[tj,Nat.add_assoc s.p 1,Nat.add_comm 1]
 refine g x q f (by show s.p+1<=q;exact U535 ‹_›) l u ?_ i;rw[w] at h;by_cases o:r=[];subst o;exact h;have b:0<r.length:=List.length_pos_iff.mpr o;refine xh (by show s.p+1<q;exact U556 k b) ?_;unfold dH;rw[l];exact h
def CZ {ch:Nat}{s fin:L2}(b:ch=40\/ch=91\/ch=123)(g:Fz r ⟨s.p+1,⟨#[ch]⟩,s.st++[s.p],s.br++[(s.p,s.st.length+1)]⟩ fin):Fz (ch::r) s fin:=
 n9 (k:=1) (by rcases b with rfl|rfl|rfl<;>rfl) (Nat.le_add_left ..) (t:=⟨s.p+1,⟨#[ch]⟩,s.st++[s.p],s.br++[(s.p,s.st.length+1)]⟩) (by unfold dL;exact Wy b) rfl g
def Bn {ch:Nat}{s fin:L2}(b:ch=41\/ch=93\/ch=125)(g:Fz r ⟨s.p+1,⟨#[ch]⟩,s.st.dropLast,s.br++[(s.p+1,s.st.dropLast.length)]⟩ fin):Fz (ch::r) s fin:=
 n9 (k:=1) (by rcases b with rfl|rfl|rfl<;>rfl) (Nat.le_add_left ..) (t:=⟨s.p+1,⟨#[ch]⟩,s.st.dropLast,s.br++[(s.p+1,s.st.dropLast.length)]⟩) (by rcases b with rfl|rfl|rfl<;>rfl) rfl g
def B8 {ch:Nat}{s fin:L2}(b:ch=34\/ch=39)(f:k<=r.length+1)(e:Re.strEnd (ch::r)=k)(g:Fz ((ch::r).drop k) ⟨s.p+k,⟨#[ch]⟩,s.st,s.br++[(s.p,s.st.length+1),(s.p+k,s.st.length)]⟩ fin):Fz (ch::r) s fin:=by
 refine n9 (k:=k) (by rcases b with rfl|rfl<;>rfl) f (t:=⟨s.p+k,⟨#[ch]⟩,s.st,s.br++[(s.p,s.st.length+1),(s.p+k,s.st.length)]⟩) ?_ rfl g;rcases b with rfl|rfl
 show L2.mk (s.p+Re.strEnd (34::r)) _ _ (s.br++[(s.p,s.st.length+1)]++[(s.p+Re.strEnd (34::r),s.st.length)])=_;rw[e,Qv];rfl;show L2.mk (s.p+Re.strEnd (39::r)) _ _ (s.br++[(s.p,s.st.length+1)]++[(s.p+Re.strEnd (39::r),s.st.length)])=_;rw[e,Qv];rfl
def Cm {rest:List Nat}{s fin:L2}(b:w.all (λ c=>c != 10)=true)(g:Fz rest ⟨s.p+(w.length+2),s.last,s.st,s.br++[(s.p,s.st.length+1),(s.p+(w.length+2),s.st.length)]⟩ fin):Fz (35::(w++10::rest)) s fin:=by
 have e:(w++10::rest).takeWhile (λ c=>c != 10)=w:=by rw[List.takeWhile_append_of_pos<|λ a f=>Xu.mp b a f];simp
 refine n9 (k:=w.length+2) (t:=⟨s.p+(w.length+2),s.last,s.st,s.br++[(s.p,s.st.length+1),(s.p+(w.length+2),s.st.length)]⟩) rfl (by simp) ?_ rfl ?_;show L2.mk (s.p+((w++10::rest).takeWhile<|λ c=>c != 10).length+2) _ _ (_++[(s.p,s.st.length+1)]++[(s.p+((w++10::rest).takeWhile<|λ c=>c != 10).length+2,s.st.length)])=_;rw[e,Qv];rfl;show Fz ((w++10::rest).drop<|w.length+1) _ _;rw[<-Xg,List.drop_left];exact g
def HV {d:Nat}{s fin:L2}(g:Fz r ⟨s.p+2,if d=10 then s.last else ⟨#[92,d]⟩,s.st,s.br⟩ fin):Fz (92::d::r) s fin:=
 n9 (k:=2) (t:=⟨s.p+2,if d=10 then s.last else ⟨#[92,d]⟩,s.st,s.br⟩) rfl (Nat.le_add_left 2 _) rfl rfl g
section
variable {lv:Nat}
def zF {ch:Nat}(b:ch=40\/ch=91\/ch=123):step ⟨.N,lv,ln,gd⟩ (tr ch)=⟨.N,lv+1,ln,gd⟩:=by rcases b with rfl|rfl|rfl<;>rfl
def vw {ch:Nat}(b:ch=41\/ch=93\/ch=125):step ⟨.N,lv,ln,gd⟩ (tr ch)=⟨.N,lv-1,ln,gd⟩:=by rcases b with rfl|rfl|rfl<;>rfl
def yl {ch:Nat}(b:Re.ord_ ch=true)(e:ch≠10):step ⟨.N,lv,ln,gd⟩ (tr ch)=⟨.N,lv,ln,gd⟩:=by
 have h:tr ch=120:=by unfold tr;rw[Wg (by rintro (rfl|rfl|rfl)<;>contradiction),Wg (by rintro (rfl|rfl|rfl)<;>contradiction),Wg<|by rintro (rfl|rfl|rfl|rfl|rfl)<;>contradiction]
 rw[h];rfl
def FY :w.all (λ c=>c != 10)=true->scan ⟨.C,lv,ln,gd⟩ (w.map tr)=⟨.C,lv,ln,gd⟩:=by
 induction w with|nil=>intro _;exact rfl|cons c w rH=>
  intro h;have b:=(Bool.and_eq_true_iff.mp h);have f:c≠10:=by simpa using b.1
  show scan (if tr c=10 then _ else _) (w.map tr)=_;rw[Wg<|λ e=>f<|(bu<|{4}).mp e];exact rH b.2
end
def IT (md:Md)(R:List Nat):Prop:=md=.N\/md=.Nb\/(∃d f,md=.Q2 d f/\R.head?≠Kf (qc d))\/∃d f,(md=.Q1 d f\/md=.S1 d f)/\R.head?=Kf 10
def fQ {c lv:Nat}{R:List Nat}(h:IT md<|c::R):step ⟨md,lv,ln,gd⟩ (tr c)=step ⟨.N,lv,ln,gd⟩ (tr c):=by
 rcases h with rfl|rfl|⟨d,f,rfl,h⟩|⟨d,f,h,e⟩
 rfl;rfl;show (if tr c=qc d then _ else fw _ (tr c))=_;rw[Wg<|λ e=>h<|congrArg Kf<|(bu<|zj d).mp e];rfl;have b:c=10:=Option.some.inj e;subst b;rcases h with rfl|rfl<;>cases d<;>rfl
structure Sv (k0:Nat)(S R:List Nat)(s:L2):Prop where
 sc:∃md,scan st0 (S.map tr)=⟨md,s.st.length,aG S,[0]⟩/\IT md R
 p:s.p=k0+S.length
 fz:∀Q fin,Q <+: R->Fz Q s fin->Fz (S++Q) (L0 k0) fin
def K0 (b:Nat)(R:List Nat):Sv b [] R (L0 b):=⟨⟨.N,rfl,.inl rfl⟩,rfl,λ Q fin _ h=>h⟩
def Sv.tok {f:Nat}{S R:List Nat}{s t:L2}(h:Sv f S (T++R) s)(j:T≠[])(k:∀ln,∃md,scan ⟨.N,s.st.length,ln,[0]⟩ (T.map tr)=⟨md,t.st.length,ln+aG T,[0]⟩/\IT md R)(tp:t.p=s.p+T.length)(l:∀Q fin,Q <+: R->Fz Q t fin->Fz (T++Q) s fin):Sv f (S++T) R t:=by
 obtain⟨md,o,q⟩:=h.sc;refine⟨?_,by rw[tp,h.p,Qj,Nat.add_assoc],λ Q fin i g=>?_⟩;obtain⟨b,e,r⟩:=k (aG S);refine⟨b,?_,r⟩;rw[List.map_append,aE,o,bP,<-e];cases T with|nil=>exact absurd rfl j|cons c T=>rw[List.map_cons,aO,aO,fQ (R:=T++R) q]
 rw[Qv];exact h.fz _ _ ((List.prefix_append_right_inj T).mpr i)<|l Q fin i g
section
variable {k0:Nat}{S R:List Nat}{s:L2}
def Sv.opened {ch:Nat}(h:Sv k0 S (ch::R) s)(b:ch=40\/ch=91\/ch=123):Sv k0 (S++[ch]) R ⟨s.p+1,⟨#[ch]⟩,s.st++[s.p],s.br++[(s.p,s.st.length+1)]⟩:=
 Sv.tok (T:=[ch]) h (by simp) (λ f=>⟨.N,by
  have e:aG [ch]=0:=by rcases b with rfl|rfl|rfl<;>rfl
  rw[e,Qj];exact zF b,.inl rfl⟩) rfl λ Q fin _ g=>CZ b g
def Sv.closed {ch:Nat}(h:Sv k0 S (ch::R) s)(b:ch=41\/ch=93\/ch=125):Sv k0 (S++[ch]) R ⟨s.p+1,⟨#[ch]⟩,s.st.dropLast,s.br++[(s.p+1,s.st.dropLast.length)]⟩:=
 Sv.tok (T:=[ch]) h (by simp) (λ f=>⟨.N,by
  have e:aG [ch]=0:=by rcases b with rfl|rfl|rfl<;>rfl
  rw[e,List.length_dropLast];exact vw b,.inl rfl⟩) rfl λ Q fin _ g=>Bn b g
def Sv.ord {ch:Nat}(h:Sv k0 S (ch::R) s)(b:Re.ord_ ch=true)(e:ch≠10):Sv k0 (S++[ch]) R ⟨s.p+1,if aZ ch=true then s.last else ⟨#[ch]⟩,s.st,s.br⟩:=
 Sv.tok (T:=[ch]) h (by simp) (λ f=>⟨.N,by
  have hl:aG [ch]=0:=by show (if ch=10 then 1 else 0)+0=0;rw[Wg e]
  rw[hl];exact yl b e,.inl rfl⟩) rfl λ Q fin _ g=>wU b g
def Sv.line (h:Sv k0 S (10::R) s)(b:s.st≠[]):Sv k0 (S++[10]) R ⟨s.p+1,s.last,s.st,s.br⟩:=by refine Sv.tok (T:=[10]) h (by simp) (λ e=>⟨.N,?_,.inl rfl⟩) rfl λ Q fin _ g=>wU rfl g;cases hl:s.st with|nil=>exact absurd hl b|cons a r=>rfl
def Sv.esc {d:Nat}(h:Sv k0 S (92::d::R) s):Sv k0 (S++[92,d]) R ⟨s.p+2,if d=10 then s.last else ⟨#[92,d]⟩,s.st,s.br⟩:=by refine Sv.tok (T:=[92,d]) h (by simp) (λ f=>?_) rfl λ Q fin _ g=>HV g;by_cases b:d=10;subst b;exact⟨.Nb,rfl,.inr<|.inl rfl⟩;refine⟨.N,?_,.inl rfl⟩;show (if tr d=10 then _ else _)=(⟨.N,s.st.length,f+(0+((if d=10 then 1 else 0)+0)),[0]⟩:St);rw[Wg (λ e=>b<|(bu<|{4}).mp e),Wg b];rfl
def rr (e:w.all (λ c=>c != 10)=true):aG (35::(w++[10]))=1:=by
 have:∀w:List Nat,w.all (λ c=>c != 10)=true->aG (w++[10])=1:=λ w=>by
  induction w with
  |nil=>exact λ _=>rfl
  |cons c w ih=>intro h;have b:=Bool.and_eq_true_iff.mp h;show (if c=10 then 1 else 0)+aG (w++[10])=1;rw[Wg (by simpa using b.1),ih b.2]
 show 0+aG (w++[10])=1;rw[this w e]
def jd {lv:Nat}(b:w.all (λ c=>c != 10)=true):scan ⟨.N,lv,ln,gd⟩ ((35::(w++[10])).map tr)=step ⟨.N,lv,ln,gd⟩ (tr 10):=by show scan ⟨.C,lv,ln,gd⟩ ((w++[10]).map tr)=_;rw[List.map_append,aE,FY b];rfl
def Sv.rem (h:Sv k0 S (35::(w++10::R)) s)(b:w.all (λ c=>c != 10)=true)(e:s.st≠[]) :Sv k0 (S++(35::(w++[10]))) R ⟨s.p+(w.length+2),s.last,s.st,s.br++[(s.p,s.st.length+1),(s.p+(w.length+2),s.st.length)]⟩:=by
 have f:Sv k0 S ((35::(w++[10]))++R) s:=by rw[List.cons_append,Qv];exact h
 refine Sv.tok f (by simp) (λ i=>⟨.N,?_,.inl rfl⟩) (by simp[Nat.add_assoc]) λ Q fin _ g=>?_;rw[jd b,rr b];cases hl:s.st with|nil=>exact absurd hl e|cons a r=>rfl
 rw[List.cons_append,Qv];exact Cm b g
structure Sw (k0:Nat)(T:List Nat)(fin:L2):Prop where
 sc:scan st0 (T.map tr)=⟨.N,0,aG T,[0,aG T]⟩
 fz:Fz T (L0 k0) fin
def Sv.end_nl (h:Sv k0 S (10::R) s)(b:s.st=[]):Sw k0 (S++[10]) ⟨s.p+1,s.last,s.st,s.br⟩:=by obtain⟨e,f,i⟩:=h.sc;refine⟨?_,?_⟩;rw[List.map_append,aE,f,bP,b];show step ⟨e,0,aG S,[0]⟩ (tr 10)=_;rw[fQ i];rfl;exact h.fz [10] _ ⟨R,rfl⟩<|wU rfl nv
def Sv.end_rem (h:Sv k0 S (35::(w++10::R)) s)(b:w.all (λ c=>c != 10)=true)(f:s.st=[]) :Sw k0 (S++(35::(w++[10]))) ⟨s.p+(w.length+2),s.last,s.st,s.br++[(s.p,s.st.length+1),(s.p+(w.length+2),s.st.length)]⟩:=by
 obtain⟨e,i,j⟩:=h.sc;refine⟨?_,?_⟩;rw[List.map_append,aE,i,bP,f,rr b];have:scan ⟨e,0,aG S,[0]⟩ ((35::(w++[10])).map tr)=scan ⟨.N,0,aG S,[0]⟩ ((35::(w++[10])).map tr):=by rw[List.map_cons,aO,aO,fQ j]
 show scan ⟨e,0,aG S,[0]⟩ _=_;rw[this,jd b];rfl;exact h.fz (35::(w++[10])) _ ⟨R,by rw[List.cons_append,Qv];rfl⟩<|Cm (rest:=[]) b nv
end
noncomputable def qs:List IS:=[.while_ (.cmp .In (.item (.v 0) (.v 1)) (.c (.str ⟨#[32,9]⟩))) [.asg 1 (.bin .Add (.v 1) (.c (.int 1)))] [],.ret (Kf (.v 1))]
noncomputable def jf:List IS:=[.asg 2 (.c<|.int 0),.for_ 3 (.v 0) [.if_ (.cmp .Eq (.v 3) (.c (.str ⟨#[10]⟩))) [.asg 2 (.c (.int 0))] [.if_ (.cmp .Eq (.v 3) (.c (.str ⟨#[9]⟩))) [.asg 2 (.bin .Sub (.bin .Add (.v 2) (.v 1)) (.bin .Mod (.v 2) (.v 1)))] [.asg 2 (.bin .Add (.v 2) (.c (.int 1)))]]],.ret (Kf (.v 2))]
def aK (x:Str)(k:Nat):Nat:=k+(((sg x).drop k).takeWhile Re.blank).length
noncomputable def dj (tab col c:Nat):Nat:=if c=10 then 0 else if c=9 then col+tab-col % tab else col+1
def fg (tab:Nat)(w:List Nat):Nat:=w.foldl (dj tab) 0
section
variable {K:V->aa->Prop}
def cR (W:Wf c){d:D}(h:K (.d d) c):EndP c K (.ret<|.d d) ⟨l,c⟩:=EndP.same W (λ _ h=>h) rfl h
def a9 (h:w.drop k=z::r):w[k]?=Kf z/\w.drop (k+1)=r/\k<w.length:=by refine⟨?_,?_,?_⟩;rw[<-List.head?_drop,h];rfl;rw[<-Xg,h];rfl;have:=congrArg List.length h;rw[Xp,Qz] at this;exact U566 this
def gc (z:Nat):[32,9].contains z=Re.blank z:=by show (match z==32 with|true=>true|false=>(match z==9 with|true=>true|false=>false))=(z==32||z==9);cases z==32<;>cases z==9<;>rfl
def z9 (W:Wf c)(y:x.length<=big)(b:10∈(sg x).drop k)(o:K (nV<|aK x k) c):aJ P (dom c) (n+10) qs ⟨start [sV x,nV k] 0,c⟩ (EndP c K):=by
 have hl:=am x;refine gX (L:=[Kf<|.str x,Kf<|.int (k:Nat)]) (λ m L=>∃j:Nat,L=[Kf<|.str x,Kf<|.int (j:Nat)]/\10∈(sg x).drop j/\aK x j=aK x k/\m+j=x.length) (x.length-k) ⟨k,rfl,b,rfl,?_⟩ ?_;have:k<=(sg x).length:=Nat.le_of_not_lt λ q=>by rw[List.drop_of_length_le<|Nat.le_of_lt q] at b;cases b
 exact U565 this;intro m _ e_;obtain⟨j,rfl,i,p,t⟩:=e_
 cases f:(sg x).drop j with|nil=>rw[f] at i;cases i|cons z r=>
  obtain⟨G,u,w⟩:=a9 f;refine⟨[32,9].contains z,Do (nX (xv rfl) (xv rfl) G y) xc,λ l=>?_,λ l=>?_⟩;have h:Re.blank z=true:=by rw[<-l,gc]
  refine aF (bh (xv rfl)<|xc (d:=.int (1:Nat)))<|jm (m':=m-1) W (L':=[Kf<|.str x,Kf<|.int ((j+1:Nat):Nat)]) (by exact U564 t w) ⟨j+1,rfl,?_,?_,by exact U563 t w⟩;rw[f] at i;rw[u];exact (Qy.mp i).resolve_left λ e=>by rw[<-e] at h;exact absurd h<|{4}
  rw[<-p];unfold aK;rw[u,f,Xw,h];show _=j+(_+1);exact Om.an {1} {1};have h:Re.blank z=false:=by rw[<-l,gc]
  refine aS<|jB (xv rfl)<|cR W ?_;have e:aK x j=j:=by unfold aK;rw[f,Xw,h];rfl
  rw[<-p,e] at o;exact o
def tc (W:Wf c)(p:∀z∈w,z<128)(r:0<tab)(t:K (nV<|fg tab w) c):aJ P (dom c) (n+20) jf ⟨start [sV ⟨w.toArray⟩,nV tab] 2,c⟩ (EndP c K):=by
 refine aF (xc (d:=.int (0:Nat)))<|dq ?_;rw[qL];refine xv rfl _ ⟨by show (w.toArray).all (·<128)=true;simpa using p,w.map λ z=>.str ⟨#[z]⟩,rfl,λ j τ=>∃o:Option D,τ=⟨cu [Kf<|.str ⟨w.toArray⟩,Kf<|.int (tab:Nat),Kf<|.int ((w.take j).foldl (dj tab) 0:Nat),o],c⟩,⟨Wq,rfl⟩,?_,?_⟩;intro j d _ f e_;obtain⟨o,rfl⟩:=e_;rw[Xy] at f;obtain⟨z,u,rfl⟩:=Option.map_eq_some_iff.mp f;have e:(w.take<|j+1).foldl (dj tab) 0=dj tab ((w.take j).foldl (dj tab) 0) z:=by rw[List.take_add_one,u,List.foldl_append];rfl
 refine⟨by show 3<4;decide,?_⟩;generalize (w.take j).foldl (dj tab) 0=col at *
 have fin:∀v:Nat,v=dj tab col z->∃l:Sg',Wk (dom c) ⟨cu [Kf<|.str ⟨w.toArray⟩,Kf<|.int (tab:Nat),Kf<|.int (v:Nat),Kf<|.str ⟨#[z]⟩],c⟩ l/\∃o:Option D,l=⟨cu [Kf<|.str ⟨w.toArray⟩,Kf<|.int (tab:Nat),Kf<|.int ((w.take<|j+1).foldl (dj tab) 0:Nat),o],c⟩:=λ v y=>by rw[e,<-y];exact⟨_,H8 W _,_,rfl⟩
 refine cQ (q:=z==10) (dX (xv rfl) xc) (λ h=>?_) λ h=>?_;exact aF (xc (d:=.int (0:Nat)))<|fin 0<|by unfold dj;rw[Wy<|beq_iff_eq.mp h]
 refine cQ (q:=z==9) (dX (xv rfl) xc) (λ b=>?_) λ b=>?_;have G:col % tab<=col:=Nat.mod_le _ _;refine aF (v:=nV<|col+tab-col % tab) (uJ (i:=col+tab) (j:=col % tab) (bh (xv rfl)<|xv rfl) (iB (xv rfl) (xv rfl) λ K k=>⟨by exact U561 r,?_⟩)<|by exact U560 G)<|fin _ ?_;show K (.int<|(col:Int).fmod tab);rw[Int.fmod_eq_emod_of_nonneg _<|Int.natCast_nonneg tab,<-Int.natCast_emod];exact k;unfold dj;rw[Wg (by simpa using h),Wy<|beq_iff_eq.mp b];exact aF (bh (xv rfl)<|xc (d:=.int (1:Nat)))<|fin (col+1)<|by unfold dj;rw[Wg (by simpa using h),Wg<|by simpa using b]
 intro _ e_;obtain⟨o,rfl⟩:=e_;rw[Zu,List.take_length];exact jB (xv rfl)<|cR W t
end
section
variable (q92:q≠92)(yt:q≠10)
theorem lL {c:Nat}(b:c≠92)(e:c≠10)(f:c≠q):∀X,Re.sEnd1 q (c::X)=1+Re.sEnd1 q X
 | []=>by show (if c=92\/c=10 then 0 else 1)=1;rw[Wg<|by exact U580 b e]|d::r=>by rw[Re.sEnd1,Wg b,Wg e,Wg f]
theorem lI:∀X,Re.sEnd1 q (10::X)=0
 | []=>rfl|d::r=>rfl
include q92 yt
theorem Ag:∀X,Re.sEnd1 q (q::X)=1
 | []=>by show (if q=92\/q=10 then 0 else 1)=1;rw[Wg<|by exact U580 q92 yt]|d::r=>by rw[Re.sEnd1,Wg q92,Wg yt,Wy rfl]
def Et (w:List Nat):∀(Q:List Nat),(gf q w=true\/(w.drop<|Re.sEnd1 q w).head?=Kf 10)->Q <+: w.drop (Re.sEnd1 q w)->Re.sEnd1 q (w.take (Re.sEnd1 q w)++Q)=Re.sEnd1 q w:=by
 induction w using bj with
 |nil=>intro Q h _;rcases h with h|h<;>contradiction
 |zero c=>
  intro Q h b;by_cases f:c=92;subst f;rcases h with h|h
  exact absurd (beq_iff_eq.mp h).symm q92;exact absurd (Option.some.inj h)<|{4}
  by_cases i:c=10;subst i;show Re.sEnd1 q Q=0
  cases Q with|nil=>rfl|cons a Q=>
   have k:a=10:=by obtain⟨t,e⟩:=b;injection e
   rw[k,lI]
  have e:Re.sEnd1 q [c]=1:=by show (if c=92\/c=10 then 0 else 1)=1;rw[Wg<|by exact U580 f i]
  rw[e] at b h ⊢;have p:c=q:=by
   rcases h with h|h
   exact beq_iff_eq.mp h;contradiction
  subst p;exact Ag q92 yt Q
 |cons c d r rH1 rH2=>
  intro Q h b;by_cases f:c=92;subst f;have e:Re.sEnd1 q (92::d::r)=Re.sEnd1 q r+2:=by rw[Re.sEnd1,Wy rfl,Nat.add_comm]
  have l:gf q (92::d::r)=gf q r:=by rw[gf,Wy rfl]
  rw[e,l] at h;rw[e] at b ⊢;have o:=rH1 Q h b;show Re.sEnd1 q (92::d::(r.take (Re.sEnd1 q r)++Q))=_;rw[Re.sEnd1,Wy rfl,o,Nat.add_comm];by_cases i:c=10;subst i;rw[lI] at b ⊢;show Re.sEnd1 q Q=0
  cases Q with|nil=>rfl|cons a Q=>
   have k:a=10:=by obtain⟨t,e⟩:=b;injection e
   rw[k,lI]
  by_cases j:c=q;subst j;rw[Ag q92 yt];exact Ag q92 yt Q;have e:Re.sEnd1 q (c::d::r)=Re.sEnd1 q (d::r)+1:=by rw[lL f i j,Nat.add_comm]
  have l:gf q (c::d::r)=gf q (d::r):=by rw[gf,Wg f,Wg i,Wg j]
  rw[e,l] at h;rw[e] at b ⊢;have o:=rH2 Q h b;show Re.sEnd1 q (c::((d::r).take (Re.sEnd1 q<|d::r)++Q))=_;rw[lL f i j,o,Nat.add_comm]
omit yt
theorem EG (w:List Nat):fD q w=true->3<=Re.sEnd3 q w/\Re.sEnd3 q w<=w.length:=by
 induction w using bj with|nil=>intro h;contradiction|zero c=>intro h;contradiction|cons c d r rH1 rH2=>
  intro h;rw[fD] at h;rw[Re.sEnd3];by_cases f:c=92;rw[Wy f] at h ⊢;obtain⟨a,b⟩:=rH1 h;exact⟨by exact {a},by simp only[Qz];exact {b}⟩;rw[Wg f] at h ⊢;by_cases e:c=q/\d=q/\r.head?=Kf q;rw[Wy e];cases r with|nil=>exact absurd e.2.2<|by simp|cons a t=>exact⟨Zv _,by simp⟩
  rw[Wg e] at h ⊢;obtain⟨a,b⟩:=rH2 h;exact⟨by exact {a},by simp only[Qz] at b ⊢;exact {b}⟩
def FG (w:List Nat):∀(Q:List Nat),fD q w=true->Re.sEnd3 q (w.take (Re.sEnd3 q w)++Q)=Re.sEnd3 q w:=by
 induction w using bj with|nil=>intro Q h;contradiction|zero c=>intro Q h;contradiction|cons c d r rH1 rH2=>
  intro Q h;by_cases f:c=92;subst f;have e:Re.sEnd3 q (92::d::r)=Re.sEnd3 q r+2:=by rw[Re.sEnd3,Wy rfl,Nat.add_comm]
  rw[fD,Wy rfl] at h;rw[e];show Re.sEnd3 q (92::d::(r.take (Re.sEnd3 q r)++Q))=_;rw[Re.sEnd3,Wy rfl,rH1 Q h,Nat.add_comm];by_cases b:c=q/\d=q/\r.head?=Kf q;have e:Re.sEnd3 q (c::d::r)=3:=by rw[Re.sEnd3,Wg f,Wy b]
  rw[e];cases r with|nil=>exact absurd b.2.2<|by simp|cons a t=>show Re.sEnd3 q (c::d::a::Q)=3;rw[Re.sEnd3,Wg f,Wy ⟨b.1,b.2.1,b.2.2⟩]
  have e:Re.sEnd3 q (c::d::r)=Re.sEnd3 q (d::r)+1:=by rw[Re.sEnd3,Wg f,Wg b,Nat.add_comm]
  rw[fD,Wg f,Wg b] at h;have i:=rH2 Q h;obtain⟨l1,l2⟩:=EG q92 (d::r) h;rw[e];show Re.sEnd3 q (c::((d::r).take (Re.sEnd3 q<|d::r)++Q))=_;obtain⟨n,j⟩:∃n,Re.sEnd3 q (d::r)=n+2:=⟨Re.sEnd3 q (d::r)-2,by exact U577 l1⟩;obtain⟨a,t,k⟩:∃a t,r=a::t:=by cases r with|nil=>simp at l2;exact (U576 j l2).elim|cons a t=>exact⟨a,t,rfl⟩
  subst k;rw[j] at i ⊢;have l:(d::a::t).take (n+2)++Q=d::a::(t.take n++Q):=rfl;rw[l] at i ⊢;rw[Re.sEnd3,Wg f,Wg (λ q=>b ⟨q.1,q.2.1,q.2.2⟩),i,Nat.add_comm]
end
def G5 (q:Nat)(w:List Nat):Re.sEnd1 q w<=w.length:=by induction w using bj with|nil=>exact Zv _|zero c=>show (if c=92\/c=10 then 0 else 1)<=1;split<;>omega|cons c d r rH1 rH2=>have b:=rH1;have e:=rH2;rw[Re.sEnd1];simp only[Qz] at e ⊢;split;exact {b};split;exact {1};split<;>omega
theorem yy (q:Nat):∀w:List Nat,Re.sEnd3 q w<=w.length
 | []=>Zv _| [c]=>by show (if c=92 then 0 else 1)<=1;split<;>omega
 |c::d::r=>by
  have e:=yy q r;have b:=yy q<|d::r;rw[Re.sEnd3];simp only[Qz] at b ⊢;split;exact {e};split;rename_i h;cases r with|nil=>exact absurd h.2.2<|by simp|cons a t=>simp
  exact {b}
def pi (q:Nat)(r:List Nat):Re.strEnd (q::r)<=r.length+1:=by
 show (if r.head?=Kf q/\r.tail.head?=Kf q then 3+Re.sEnd3 q (r.drop 2) else 1+Re.sEnd1 q r)<=_;split;rename_i h;have:=yy q<|r.drop 2;rw[Xp] at this;have:2<=r.length:=by cases r with|nil=>exact absurd h.1<|by simp|cons a t=>cases t with|nil=>exact absurd h.2<|by simp|cons b t=>simp
 exact U572 ‹_› this;have:=G5 q r;exact {this}
def zD {d:Bool}{Q:List Nat}(f:kj (qc d) r=true\/((qc d::r).drop<|Re.strEnd<|qc d::r).head?=Kf 10)(j:Q <+: (qc d::r).drop (Re.strEnd<|qc d::r)) :Re.strEnd ((qc d::r).take (Re.strEnd<|qc d::r)++Q)=Re.strEnd (qc d::r):=by
 have k:=(ey d).1;have yt:=(ey d).2;by_cases h:r.head?=Kf (qc d)/\r.tail.head?=Kf (qc d);have e:Re.strEnd (qc d::r)=3+Re.sEnd3 (qc d) (r.drop 2):=Wy h;have o:kj (qc d) r=fD (qc d) (r.drop 2):=Wy h;obtain⟨l,i⟩:=h;obtain⟨t,rfl⟩:∃t,r=qc d::qc d::t:=by cases r with|nil=>contradiction|cons a r=>cases r with|nil=>contradiction|cons b t=>exact⟨t,by rw[Option.some.inj l,Option.some.inj i]⟩
 have x:Re.strEnd (qc d::qc d::qc d::t)=Re.sEnd3 (qc d) t+3:=by rw[e,Nat.add_comm];rfl
 rw[x] at f ⊢;have p:fD (qc d) t=true:=by
  rcases f with f|f
  rw[o] at f;exact f;cases y:fD (qc d) t with|true=>rfl|false=>exfalso;exact qM (qc d) t y f
 show Re.strEnd (qc d::qc d::qc d::(t.take (Re.sEnd3 (qc d) t)++Q))=_;show (if (qc d::qc d::(t.take (Re.sEnd3 (qc d) t)++Q)).head?=Kf (qc d)/\(qc d::qc d::(t.take (Re.sEnd3 (qc d) t)++Q)).tail.head?=Kf (qc d) then 3+Re.sEnd3 (qc d) (t.take (Re.sEnd3 (qc d) t)++Q) else _)=_;rw[Wy ⟨rfl,rfl⟩,FG k t Q p,Nat.add_comm];have e:Re.strEnd (qc d::r)=Re.sEnd1 (qc d) r+1:=by rw[Nat.add_comm];exact Wg h
 have o:kj (qc d) r=gf (qc d) r:=Wg h;rw[e] at j f ⊢;rw[o] at f;have j:Q <+: r.drop (Re.sEnd1 (qc d) r):=j;have J1:(r.take (Re.sEnd1 (qc d) r)++Q) <+: r:=by obtain⟨u,w⟩:=j;exact⟨u,by rw[Qv,w,List.take_append_drop]⟩
 show (if (r.take (Re.sEnd1 (qc d) r)++Q).head?=Kf (qc d)/\(r.take (Re.sEnd1 (qc d) r)++Q).tail.head?=Kf (qc d) then _ else 1+Re.sEnd1 (qc d) (r.take (Re.sEnd1 (qc d) r)++Q))=_;rw[Wg,Et k yt r Q f j,Nat.add_comm];intro e_;obtain⟨l,i⟩:=e_;obtain⟨u,w⟩:=J1;refine h ?_;rw[<-w];revert l i;cases r.take (Re.sEnd1 (qc d) r)++Q with|nil=>intro q;cases q|cons a X=>intro l i;refine⟨l,?_⟩;cases X with|nil=>cases i|cons b Y=>exact i
def Sv.str {d:Bool}{S:List Nat}{s:L2}(h:Sv q S (qc d::r) s)(j:kj (qc d) r=true\/((qc d::r).drop<|Re.strEnd<|qc d::r).head?=Kf 10) :Sv q (S++(qc d::r).take (Re.strEnd<|qc d::r)) ((qc d::r).drop<|Re.strEnd<|qc d::r) ⟨s.p+Re.strEnd (qc d::r),⟨#[qc d]⟩,s.st,s.br++[(s.p,s.st.length+1),(s.p+Re.strEnd (qc d::r),s.st.length)]⟩:=by
 have hl:=pi (qc d) r;have y:qc d=34\/qc d=39:=by cases d<;>decide
 have z:Sv q S ((qc d::r).take (Re.strEnd<|qc d::r)++(qc d::r).drop (Re.strEnd<|qc d::r)) s:=by rw[List.take_append_drop];exact h
 have G:0<Re.strEnd (qc d::r):=by show 0<(if r.head?=Kf (qc d)/\r.tail.head?=Kf (qc d) then _ else _);split<;>omega
 obtain⟨n,l⟩:∃n,Re.strEnd (qc d::r)=n+1:=⟨Re.strEnd (qc d::r)-1,by exact U570 G⟩;have f:((qc d::r).take<|Re.strEnd<|qc d::r).length=Re.strEnd (qc d::r):=by rw[List.length_take,Qz];exact U569 hl
 refine Sv.tok z (by rw[l];simp) (λ o=>?_) (by rw[f]) λ Q fin I g=>?_;obtain⟨J,e,L,M,P,b⟩:=nh d s.st.length o [0] r;obtain⟨R,T,U,W⟩:=J;subst L M P;refine⟨R,e,?_⟩
 cases t:kj (qc d) r with
 |true=>
  rw[t,Wy rfl] at b;rcases b with b|⟨b,Y⟩
  exact .inl b;exact .inr<|.inr<|.inl ⟨d,o,b,Y⟩
 |false=>
  rw[t,Wg<|{4}] at b;have i:((qc d::r).drop<|Re.strEnd<|qc d::r).head?=Kf 10:=by
   rcases j with j|j
   rw[t] at j;contradiction;exact j
  rcases b with b|b|⟨k,b⟩
  exact .inr<|.inr<|.inr ⟨d,o,.inl b,i⟩;exact .inr<|.inr<|.inr ⟨d,o,.inr b,i⟩;exact absurd i b.2
 have w:=zD j I;have u:(qc d::r).take (Re.strEnd<|qc d::r)=qc d::r.take n:=by rw[l];rfl
 have x:((qc d::r).take (Re.strEnd<|qc d::r)++Q).drop (Re.strEnd<|qc d::r)=Q:=by rw[List.drop_append_of_le_length (by rw[f];exact Zv _),List.drop_of_length_le<|by rw[f];exact Zv _];rfl
 rw[u] at w x ⊢;have lt:(r.take n).length=n:=by rw[List.length_take];exact U568 hl l
 refine B8 (r:=r.take n++Q) (k:=Re.strEnd<|qc d::r) y ?_ w ?_;rw[Qj,lt];exact U567 l;show Fz ((qc d::r.take n++Q).drop<|Re.strEnd<|qc d::r) _ _;rw[x];exact g
noncomputable def Ck:List IS:=[.while_ (.cmp .Lt (.v 1) (.call (.g (.bi .len)) [(.v 0)] Wq)) [.if_ (.cmp .Eq (.slice (.v 0) (.v 1) (.bin .Add (.v 1) (.call (.g (.bi .len)) [(.v 2)] Wq))) (.v 2)) [.ret (Kf (.tup [(.bin .Add (.v 1) (.call (.g (.bi .len)) [(.v 2)] Wq)),(.c (.bool true))]))] [],.if_ (.and (.cmp .Eq (.item (.v 0) (.v 1)) (.c (.str ⟨#[10]⟩))) (.cmp .Eq (.call (.g (.bi .len)) [(.v 2)] Wq) (.c (.int 1)))) [.ret (Kf (.tup [(.v 1),(.c (.bool true))]))] [],.if_ (.cmp .Eq (.item (.v 0) (.v 1)) (.c (.str ⟨#[92]⟩))) [.asg 1 (.bin .Add (.v 1) (.c (.int 1)))] [],.asg 1 (.bin .Add (.v 1) (.c (.int 1)))] [],.ret (Kf (.tup [(.call (.g (.bi .len)) [(.v 0)] Wq),(.c (.bool false))]))]
def jz:List IS:=.asg 2 (.item (.v 0)<|.v 1) ::
 .if_ (.cmp .Eq (.slice (.v 0) (.v 1) (.bin .Add (.v 1) (.c (.int 3)))) (.bin .Mult (.v 2) (.c (.int 3)))) [.asg 2 (.slice (.v 0) (.v 1) (.bin .Add (.v 1) (.c (.int 3))))] [] ::
 .asg 1 (.bin .Add (.v 1)<|.call (.g<|.bi .len) [(.v 2)] Wq)::Ck
structure StrF (q wd:Nat)(sE:List Nat->Nat)(cl:List Nat->Bool):Prop where
 w:wd=1\/wd=3
 nil:sE []=0/\cl []=false
 hit:∀w,w.take wd=List.replicate wd q->sE w=wd/\cl w=true
 nl:wd=1->∀t,sE (10::t)=0/\cl (10::t)=false
 esc:∀d r,sE (92::d::r)=2+sE r/\cl (92::d::r)=cl r
 ord:∀c t,(c::t).take wd≠List.replicate wd q->c≠92->(wd=1->c≠10)->sE (c::t)=1+sE t/\cl (c::t)=cl t
def IA (i:q≠92)(b:q≠10):StrF q 1 (Re.sEnd1 q) (gf q) where
 w:=.inl rfl
 nil:=⟨rfl,rfl⟩
 hit w h:=by cases w with|nil=>cases h|cons a t=>obtain rfl:a=q:=List.cons.inj h |>.1;refine⟨Ag i b t,?_⟩;cases t with|nil=>exact beq_self_eq_true _|cons d r=>rw[gf,Wg i,Wg b,Wy rfl]
 nl _ t:=⟨lI t,by cases t with|nil=>exact beq_eq_false_iff_ne.mpr b.symm|cons d r=>rfl⟩
 esc d r:=⟨by rw[Re.sEnd1,Wy rfl],by rw[gf,Wy rfl]⟩
 ord c t h j h10:=by
  have f:c≠q:=λ e=>h<|by rw[e];rfl
  refine⟨lL j (h10 rfl) f t,?_⟩;cases t with|nil=>exact beq_eq_false_iff_ne.mpr f|cons d r=>rw[gf,Wg j,Wg<|h10 rfl,Wg f]
def zw (f:q≠92):StrF q 3 (Re.sEnd3 q) (fD q) where
 w:=.inr rfl
 nil:=⟨rfl,rfl⟩
 hit w h:=by obtain⟨t,rfl⟩:∃t,w=q::q::q::t:=⟨w.drop 3,(List.take_append_drop 3 w).symm.trans<|by rw[show w.take 3=[q,q,q] from h];rfl⟩;exact⟨by rw[Re.sEnd3,Wg f,Wy ⟨rfl,rfl,rfl⟩],by rw[fD,Wg f,Wy ⟨rfl,rfl,rfl⟩]⟩
 nl h:=by contradiction
 esc d r:=⟨by rw[Re.sEnd3,Wy rfl],by rw[fD,Wy rfl]⟩
 ord c t h b _:=by cases t with|nil=>exact⟨Wg b,rfl⟩|cons d r=>have i:¬(c=q/\d=q/\r.head?=Kf q):=λ ⟨k,l,j⟩=>h (by cases r with|nil=>cases j|cons e r=>rw[k,l,Option.some.inj j];rfl);exact⟨by rw[Re.sEnd3,Wg b,Wg i],by rw[fD,Wg b,Wg i]⟩
section
variable {K:V->aa->Prop}{a b:IE}
def HI {u v:Str}(e:Ex P n l c a<|sV u)(hb:Ex P n l c b<|sV v):Tx P (n+1) l c (.cmp .Eq a b) (u==v):=cM e hb λ _ k=>k
def BE (a b:Nat):(((a:Nat):Int)==(b:Nat))=(a==b):=by rw[Bool.eq_iff_iff,beq_iff_eq,beq_iff_eq];exact U592
def Il (e:Ex P n l c a<|nV i)(hb:Ex P n l c b<|nV j):Tx P (n+1) l c (.cmp .Eq a b) (i==j):=cM e hb λ K k=>by show K (((i:Nat):Int)==(j:Nat));rw[BE];exact k
def qN (a b:List Nat):((⟨a.toArray⟩:Str)==⟨b.toArray⟩)=decide (a=b):=by rw[Bool.eq_iff_iff,beq_iff_eq,decide_eq_true_eq];exact⟨λ e=>by injection e with e;exact congrArg Array.toList e,λ e=>by rw[e]⟩
def iW (hl:(sg x).getLast?=Kf 10)(h:(sg x)[j]?=Kf z)(f:z≠10):j+1<(sg x).length:=by have i:=(Qw.mp h).1;rw[Qp] at hl;refine Nat.lt_of_le_of_ne i λ e=>f ?_;rw[<-e] at hl;exact Option.some.inj<|h.symm.trans hl
def mR {f:Nat}{sE:List Nat->Nat}{cl:List Nat->Bool}(S:StrF q f sE cl)(W:Wf c)(J:x.length<=big)(hl:(sg x).getLast?=Kf 10){E:Nat}{C:Bool}(hk:k<=x.length)(o:k+sE ((sg x).drop k)=E)(p:cl ((sg x).drop k)=C)(u:K (.d<|.tup [.int (E:Nat),.bool<|C||(sg x)[E]?==Kf 10]) c):aJ P (dom c) (n+30) Ck ⟨cu [Kf<|.str x,Kf<|.int (k:Nat),Kf<|.str ⟨(List.replicate f q).toArray⟩],c⟩ (EndP c K):=by
 have hlx:=am x;have ml:(⟨(List.replicate f q).toArray⟩:Str).length=f:=by show (List.replicate f q).toArray.size=f;simp
 have wb:f<=big:=by rcases S.w with e|e<;>rw[e]<;>decide
 have xl:∀{n:Nat} {k:Nat},Ex P (n+3) (cu [Kf<|.str x,Kf<|.int (k:Nat),Kf<|.str ⟨(List.replicate f q).toArray⟩]) c (.call (.g<|.bi .len) [(.v 2)] Wq) (nV f):=λ {n k}=>by
  have:=jQ (P:=P) (n:=n) (l:=cu [Kf<|.str x,Kf<|.int (k:Nat),Kf<|.str ⟨(List.replicate f q).toArray⟩]) (c:=c) (a:=.v 2) (x:=⟨(List.replicate f q).toArray⟩) (xv rfl)<|by rw[ml];exact wb
  rw[ml] at this;exact this
 refine gX (λ m L=>∃j:Nat,L=[Kf<|.str x,Kf<|.int (j:Nat),Kf<|.str ⟨(List.replicate f q).toArray⟩]/\j+sE ((sg x).drop j)=E/\cl ((sg x).drop j)=C/\m+j=x.length) (x.length-k) ⟨k,rfl,o,p,by exact U565 hk⟩ ?_;clear o p;intro m _ e_;obtain⟨j,rfl,o,p,M⟩:=e_;refine⟨decide<|j<x.length,A6 (xv rfl)<|jQ (xv rfl) J,λ hq=>?_,λ hq=>?_⟩;have y:=of_decide_eq_true hq;obtain⟨z,r,t⟩:∃z r,(sg x).drop j=z::r:=by cases t:(sg x).drop j with|nil=>have:=congrArg List.length t;rw[Xp] at this;have:(sg x).length-j=0:=this;exact (U591 y this).elim|cons z r=>exact⟨z,r,rfl⟩
 obtain⟨R,T,h3⟩:=a9 t;have tk:j+f-j=f:=Nat.add_sub_cancel_left ..;refine cQ (HI (pj (i:=j) (j:=j+f) (xv rfl) (xv rfl) (bh (xv rfl) xl) J (Nat.le_add_right ..)<|Nat.le_of_lt y)<|xv rfl) (λ h=>?_) λ h=>?_;rw[tk,qN,decide_eq_true_eq] at h;obtain⟨G,I⟩:=S.hit _ h;rw[G] at o;rw[I] at p;rw[<-o,<-p] at u;exact jB (jX (x1 (bh (xv rfl) xl)<|x1 xc x0) rfl<|by show 2<=big;decide)<|cR W u;rw[tk,qN,decide_eq_false_iff_not] at h;refine aS<|cQ (wD (dX (nX (xv rfl) (xv rfl) R J) xc) λ _=>Il (j:=1) xl xc) (λ h'=>?_) λ h'=>?_;obtain⟨U,e2⟩:=Bool.and_eq_true_iff.mp h';have U:=beq_iff_eq.mp U;subst U;rw[t] at o p;obtain⟨G,I⟩:=S.nl (beq_iff_eq.mp e2) r;rw[G] at o;rw[I] at p;rw[<-o,<-p,Nat.add_zero,R] at u;exact jB (jX (x1 (xv rfl)<|x1 xc x0) rfl<|by show 2<=big;decide)<|cR W u;refine aS<|cQ (dX (nX (xv rfl) (xv rfl) R J) xc) (λ Y=>?_) λ Y=>?_;have Y:=beq_iff_eq.mp Y;subst Y;have lt:=iW hl R<|{4}
 obtain⟨d,r',hr⟩:∃d r',r=d::r':=by cases r with|nil=>have:=congrArg List.length T;rw[Xp] at this;have:(sg x).length-(j+1)=0:=this;exact (U590 lt this).elim|cons d r'=>exact⟨d,r',rfl⟩
 subst hr;obtain⟨G,I⟩:=S.esc d r';rw[t] at o p;rw[G] at o;rw[I] at p;refine aF (bh (xv rfl)<|xc (d:=.int (1:Nat)))<|aS<|aF (bh (i:=j+1) (xv rfl)<|xc (d:=.int (1:Nat)))<|jm (m':=m-2) W (L':=[Kf<|.str x,Kf<|.int ((j+1+1:Nat):Nat),Kf<|.str ⟨(List.replicate f q).toArray⟩]) (by exact U589 M lt) ⟨j+1+1,rfl,?_,?_,by exact U588 M lt⟩;rw[(a9 T).2.1];exact U587 o;rw[(a9 T).2.1];exact p;rw[t] at h o p;clear hlx ml wb xl t h3 R tk u hk hl J;have nl:f=1->z≠10:=λ U e2=>by subst U e2;cases h'
 obtain⟨G,I⟩:=S.ord z r h (by simpa using Y) nl;rw[G] at o;rw[I] at p;exact aS<|aF (bh (xv rfl)<|xc (d:=.int (1:Nat)))<|jm (m':=m-1) W (L':=[Kf<|.str x,Kf<|.int ((j+1:Nat):Nat),Kf<|.str ⟨(List.replicate f q).toArray⟩]) (by exact U564 M y) ⟨j+1,rfl,by rw[T];exact U586 o,by rw[T];exact p,by exact U563 M y⟩;have y:¬j<x.length:=of_decide_eq_false hq;have he:j=x.length:=by exact U585 M y
 have t:(sg x).drop j=[]:=List.drop_of_length_le<|by exact U537 y
 rw[t] at o p;rw[S.nil.1] at o;rw[S.nil.2] at p;rw[<-o,<-p,Nat.add_zero,he,List.getElem?_eq_none<|by exact U584] at u;exact aS<|jB (jX (x1 (jQ (xv rfl) J)<|x1 xc x0) rfl<|by show 2<=big;decide)<|cR W u
def wC (q:Nat):gn (ch q) 3=⟨(List.replicate 3 q).toArray⟩:=by unfold gn;rfl
def rep3 :(q::r).take 3=List.replicate 3 q↔r.head?=Kf q/\r.tail.head?=Kf q:=by rw[List.head?_eq_getElem?,List.head?_eq_getElem?,List.getElem?_tail];exact take3.trans ⟨And.right,λ h=>⟨rfl,h⟩⟩
def Ju (f:(sg x).drop k=q::r)(e:r.head?=Kf q/\r.tail.head?=Kf q):k+3<=x.length:=by have h:=congrArg List.length f;rw[Xp] at h;cases r with|nil=>nomatch e.1|cons a r=>cases r with|nil=>nomatch e.2|cons b r=>exact U581<|show (sg x).length-k=r.length+3 from h
def ub {d:Bool}(W:Wf c)(G:x.length+3<=big)(hl:(sg x).getLast?=Kf 10)(p:(sg x).drop k=qc d::r)(y:K (.d<|.tup [.int ((k+Re.strEnd (qc d::r):Nat):Nat),.bool<|kj (qc d) r||(sg x)[k+Re.strEnd (qc d::r)]?==Kf 10]) c):aJ P (dom c) (n+40) jz ⟨start [sV x,nV k] 1,c⟩ (EndP c K):=by
 have I:=am x;have f:x.length<=big:=by exact {G}
 obtain⟨J,L,z⟩:=a9 p;have nR:∀{n:Nat} {o:Option D},Ex P (n+3) (cu [Kf<|.str x,Kf<|.int (k:Nat),o]) c (.slice (.v 0) (.v 1)<|.bin .Add (.v 1)<|.c<|.int 3) (sV ⟨(((sg x).drop k).take 3).toArray⟩):=λ {n o}=>by
  have:=pj (P:=P) (n:=n+2) (l:=cu [Kf<|.str x,Kf<|.int (k:Nat),o]) (c:=c) (i:=k) (j:=k+3) (a:=.v 0) (lo:=.v 1) (hi:=.bin .Add (.v 1)<|.c<|.int 3) (xv rfl) (xv rfl) (bh (xv rfl)<|xc (d:=.int (3:Nat))) f (Nat.le_add_right ..)<|by exact U582 z
  rw[Nat.add_sub_cancel_left] at this;exact this
 have u:∀j,(sg x).drop (k+(j+1))=r.drop j:=λ j=>by rw[<-Xg,p];rfl
 refine aF (nX (xv rfl) (xv rfl) J f)<|cQ (HI (nR (n:=n+33) (o:=Kf<|.str<|ch<|qc d))<|iB (xv rfl) (xc (d:=.int 3)) λ K k=>⟨⟨{4},{4}⟩,rfl,k⟩) (λ h=>?_) λ h=>?_;have h:((⟨(((sg x).drop k).take 3).toArray⟩:Str)==gn (ch<|qc d) 3)=true:=h;rw[wC,qN,decide_eq_true_eq,p] at h;have t:=rep3.mp h;have e:Re.strEnd (qc d::r)=3+Re.sEnd3 (qc d) (r.drop 2):=Wy t;have w:kj (qc d) r=fD (qc d) (r.drop 2):=Wy t;refine aF (v:=sV ⟨(List.replicate 3<|qc d).toArray⟩) (by have:=nR (n:=n+32) (o:=Kf<|.str<|ch<|qc d);rw[p,h] at this;exact this)<|aS<|aF (bh (i:=k) (j:=3) (xv rfl)<|jQ (x:=⟨(List.replicate 3<|qc d).toArray⟩) (xv rfl)<|by show 3<=big;decide) ?_;refine mR (zw (ey d).1) W f hl (E:=k+Re.strEnd (qc d::r)) (C:=kj (qc d) r) (Ju p t) ?_ ?_ y;rw[u 2,e,Nat.add_assoc];rw[u 2,w];have h:((⟨(((sg x).drop k).take 3).toArray⟩:Str)==gn (ch<|qc d) 3)=false:=h;rw[wC,qN,decide_eq_false_iff_not,p] at h;have t:=λ q=>h<|rep3.mpr q;have e:Re.strEnd (qc d::r)=1+Re.sEnd1 (qc d) r:=Wg t;have w:kj (qc d) r=gf (qc d) r:=Wg t;refine aS<|aF (bh (i:=k) (j:=1) (xv rfl)<|jQ (x:=ch<|qc d) (xv rfl)<|by show 1<=big;decide) ?_;refine mR (IA (ey d).1 (ey d).2) W f hl (E:=k+Re.strEnd (qc d::r)) (C:=kj (qc d) r) (by exact U535 z) ?_ ?_ y;rw[u 0,e,Nat.add_assoc];rfl;rw[u 0,w];rfl
end
def zH (q:Nat)(w:List Nat):gf q w=false->w.getLast?≠Kf 92->(w.drop<|Re.sEnd1 q w).head?=Kf 10\/w.drop (Re.sEnd1 q w)=[]:=by
 induction w using bj with|nil=>intro _ _;exact .inr rfl|zero c=>intro h hl;show ([c].drop<|if c=92\/c=10 then 0 else 1).head?=Kf 10\/[c].drop (if c=92\/c=10 then 0 else 1)=[];by_cases f:c=92;exact absurd (congrArg Kf f) hl;by_cases b:c=10;rw[Wy<|.inr b];exact .inl<|congrArg Kf b;rw[Wg<|by exact U580 f b];exact .inr rfl|cons c d r rH1 rH2=>
  intro h hl;rw[gf] at h;rw[Re.sEnd1];have e:(d::r).getLast?≠Kf 92:=by rw[List.getLast?_cons_cons] at hl;exact hl
  by_cases f:c=92;rw[Wy f] at h ⊢;rw[Nat.add_comm 2];have j:r.getLast?≠Kf 92:=by cases r with|nil=>intro q;cases q|cons a t=>rw[List.getLast?_cons_cons] at e;exact e
  exact rH1 h j;rw[Wg f] at h ⊢;by_cases b:c=10;rw[Wy b];exact .inl<|congrArg Kf b;rw[Wg b] at h ⊢;by_cases i:c=q;rw[Wy i] at h;contradiction;rw[Wg i] at h ⊢;rw[Nat.add_comm 1];exact rH2 h e
def CT (q:Nat)(w:List Nat):fD q w=false->w.getLast?≠Kf 92->w.drop (Re.sEnd3 q w)=[]:=by
 induction w using Re.sEnd3.induct q with
 |case1=>intro _ _;rfl|case2=>intro _ h;exact absurd rfl h|case3 c hc=>intro _ _;show ([c]:List Nat).drop (if c=92 then 0 else 1)=[];rw[Wg hc];rfl|case4 d' r ih=>rw[fD,Wy rfl,Re.sEnd3,Wy rfl,Nat.add_comm 2];intro h hl;refine ih h ?_;cases r with|nil=>intro q;cases q|cons a t=>rw[List.getLast?_cons_cons,List.getLast?_cons_cons] at hl;exact hl
 |case5 c d' r hc h3=>rw[fD,Wg hc,Wy h3];intro q;cases q|case6 c d' r hc h3 ih=>rw[fD,Wg hc,Wg h3,Re.sEnd3,Wg hc,Wg h3,Nat.add_comm 1];intro h hl;rw[List.getLast?_cons_cons] at hl;exact ih h hl
def qQ {d:Bool}(i:kj (qc d) r=false)(f:((qc d::r).drop<|Re.strEnd<|qc d::r).head?≠Kf 10)(hl:(qc d::r).getLast?=Kf 10):(qc d::r).drop (Re.strEnd<|qc d::r)=[]:=by
 have j:r.getLast?=Kf 10:=by cases r with|nil=>exact absurd (Option.some.inj hl) (ey d).2|cons a t=>rw[List.getLast?_cons_cons] at hl;exact hl
 by_cases h:r.head?=Kf (qc d)/\r.tail.head?=Kf (qc d);have e:Re.strEnd (qc d::r)=3+Re.sEnd3 (qc d) (r.drop 2):=Wy h;have k:kj (qc d) r=fD (qc d) (r.drop 2):=Wy h;obtain⟨l,o⟩:=h;obtain⟨t,rfl⟩:∃t,r=qc d::qc d::t:=by cases r with|nil=>contradiction|cons a r=>cases r with|nil=>contradiction|cons b t=>exact⟨t,by rw[Option.some.inj l,Option.some.inj o]⟩
 rw[k] at i;rw[e,Nat.add_comm 3];refine CT (qc d) t i ?_;cases t with|nil=>intro q;cases q|cons a t=>rw[List.getLast?_cons_cons,List.getLast?_cons_cons] at j;rw[j];decide
 have e:Re.strEnd (qc d::r)=Re.sEnd1 (qc d) r+1:=by rw[Nat.add_comm];exact Wg h
 have k:kj (qc d) r=gf (qc d) r:=Wg h;rw[k] at i;rw[e] at f ⊢;rcases zH (qc d) r i (by rw[j];decide) with q|q
 exact absurd q f;exact q
def Sv.str_open {d:Bool}{S:List Nat}{s:L2}(h:Sv q S (qc d::r) s)(t:kj (qc d) r=false)(j:((qc d::r).drop<|Re.strEnd<|qc d::r).head?≠Kf 10)(hl:(qc d::r).getLast?=Kf 10) :Fz (S++(qc d::r)) (L0 q) ⟨s.p+(r.length+1),⟨#[qc d]⟩,s.st,s.br++[(s.p,s.st.length+1),(s.p+(r.length+1),s.st.length)]⟩/\∃md,scan st0 ((S++(qc d::r)).map tr)=⟨md,s.st.length,aG<|S++(qc d::r),[0]⟩/\ci md=Kf (aG S):=by
 have b:=qQ t j hl;have l:=pi (qc d) r;have o:Re.strEnd (qc d::r)=r.length+1:=by have:=congrArg List.length b;rw[Xp,Qz] at this;have:r.length+1-Re.strEnd (qc d::r)=0:=this;exact U593 l this
 have u:(qc d::r).take (Re.strEnd<|qc d::r)=qc d::r:=by rw[o];exact List.take_of_length_le<|Zv _
 refine⟨?_,?_⟩;refine h.fz (qc d::r) _ ⟨[],Zg _⟩ (B8 (k:=r.length+1) (by cases d<;>decide) (Zv _) o ?_);rw[<-o,b];exact nv;obtain⟨md,w,x⟩:=h.sc;obtain⟨y,e,z,G,I,f⟩:=nh d s.st.length (aG S) [0] r;obtain⟨i,J,L,M⟩:=y;subst z G I;rw[u] at e;refine⟨i,?_,?_⟩;rw[List.map_append,aE,w,bP,List.map_cons,aO,fQ x,<-aO,<-List.map_cons,e];rw[t,Wg<|{4}] at f;rcases f with f|f|⟨k,f,_⟩<;>(have f:i=_:=f;rw[f];rfl)
def Sv.fin {b:Nat}{S:List Nat}{s:L2}(h:Sv b S [] s):Fz S (L0 b) s:=by have:=h.fz [] s ⟨[],rfl⟩ nv;rw[Zg] at this;exact this
def Sw.cl {b:Nat}{fin:L2}(h:Sw b T fin)(hl:T.getLast?=Kf 10):Cl T [0,aG T]:=⟨h.sc,rfl,.inr hl⟩
noncomputable def fU (Ts:List<|List Nat)(i:Nat):Nat:=((Ts.take i).flatten).length
def ge (Ts:List<|List Nat):Nat->Nat×Nat
 |0=>(0,0)|i+1=>if Re.junkB (Ts.getD i [])=true then ge Ts i else (fU Ts i,fU Ts<|i+1)
def Ls :ge Ts (i+1)=if Re.junkB (Ts.getD i [])=true then ge Ts i else (fU Ts i,fU Ts<|i+1):=rfl
def nA {R:List Nat}(h:10∈T):Re.junkB (T++R)=Re.junkB T:=by
 have key:∀T:List Nat,10∈T->∃a t,T.dropWhile Re.blank=a::t/\(T++R).dropWhile Re.blank=a::(t++R)/\(a=10\/10∈t):=λ T=>by
  induction T with|nil=>intro h;cases h|cons c T ih=>
   intro h;rw[List.cons_append,List.dropWhile_cons,List.dropWhile_cons]
   cases f:Re.blank c with
   |true=>
    rw[Wy rfl,Wy rfl];refine ih ?_;rcases Qy.mp h with h|h
    rw[<-h] at f;exact absurd f<|{4}
    exact h
   |false=>
    refine⟨c,T,rfl,rfl,?_⟩;rcases Qy.mp h with h|h
    exact .inl h.symm;exact .inr h
 obtain⟨a,t,i,j,e⟩:=key T h;unfold Re.junkB;rw[i,j];show (a==10||(a==35&&Re.hdB (λ c=>!Re.space c) (t++R)))=(a==10||(a==35&&Re.hdB (λ c=>!Re.space c) t));rcases e with rfl|e
 rfl;cases t with|nil=>cases e|cons b t=>rfl
def uF (b:∀T∈Ts,T.getLast?=Kf 10):∀i,(Ts.take i).flatten=[]\/((Ts.take i).flatten).getLast?=Kf 10:=by induction Ts with|nil=>intro i;rw[List.take_nil];exact .inl rfl|cons T Ts ih=>intro i;cases i with|zero=>exact .inl rfl|succ i=>show (T++(Ts.take i).flatten)=[]\/(T++(Ts.take i).flatten).getLast?=Kf 10;exact mK (.inr<|b T<|.head _)<|ih (λ T h=>b T<|.tail _ h) i
def mP (Ts:List<|List Nat)(i:Nat):Ts.flatten=(Ts.take i).flatten++(Ts.drop i).flatten:=by rw[<-List.flatten_append,List.take_append_drop]
def ll {f:List Nat}(l:sg x=Ts.flatten)(o:∀T∈Ts,T.getLast?=Kf 10)(q:∀i,i<=Ts.length->f.getD i 0=aG ((Ts.take i).flatten))(i:Nat):i<=Ts.length->bH x f i=ge Ts i:=by
 induction i with|zero=>intro _;exact rfl|succ i rH=>
  intro e;have p:∀j,j<=Ts.length->ay (sg x) (f.getD j 0)=fU Ts j:=λ j r=>by rw[q j r,l,mP Ts j];have:=FA ((Ts.take j).flatten) ((Ts.drop j).flatten) 0<|uF o j;rw[cx] at this;exact this
  obtain⟨T,b⟩:∃T,Ts[i]?=Kf T:=⟨_,Qk<|by exact {e}⟩;have t:=Qg b;have u:(sg x).drop (fU Ts i)=T++(Ts.drop<|i+1).flatten:=by
   rw[l,mP Ts i];unfold fU;rw[List.drop_left];have:Ts.drop i=T::Ts.drop (i+1):=by have h:=(Qw.mp b).1;rw[List.drop_eq_getElem_cons h,(Qw.mp b).2]
   rw[this];rfl
  have k:10∈T:=List.mem_of_getLast?<|o T t;rw[HN,Ls,p i (by exact U597 e),p (i+1) e,u,nA k,rH (by exact U597 e),List.getD_eq_getElem?_getD,b];rfl
def gL (Ts:List<|List Nat)(i:Nat):List Nat:=(List.range<|i+1).map λ j=>aG<|(Ts.take j).flatten
def li (h:Ts[i]?=Kf T):(Ts.take<|i+1).flatten=(Ts.take i).flatten++T:=by rw[List.take_add_one,h,List.flatten_append];show _++(T++[])=_;rw[Zg]
def qX (Ts:List<|List Nat)(i:Nat):gL Ts (i+1)=gL Ts i++[aG<|(Ts.take<|i+1).flatten]:=by unfold gL;rw[List.range_succ,List.map_append];rfl
def D8 (f:∀T∈Ts,Cl T [0,aG T])(i:Nat):i<=Ts.length->Cl ((Ts.take i).flatten) (gL Ts i):=by
 induction i with|zero=>intro _;exact KU|succ i rH=>
  intro e;obtain⟨T,b⟩:∃T,Ts[i]?=Kf T:=⟨_,Qk<|by exact {e}⟩;have j:=rH<|by exact U597 e
  have h:=j.app<|f T<|Qg b;rw[qX,li b,bP];rw[Nat.add_comm<|aG<|(Ts.take i).flatten];exact h
def iJ (b:∀T∈Ts,Cl T [0,aG T]):Cl Ts.flatten (gL Ts Ts.length):=by have:=D8 b Ts.length<|Zv _;rw[List.take_length] at this;exact this
def lT (h:i<=n):(gL Ts n).getD i 0=aG ((Ts.take i).flatten):=by unfold gL;rw[List.getD_eq_getElem?_getD,Xy,List.getElem?_range<|by exact {h}];rfl
def BD (b:sg x=Ts.flatten)(j:∀T∈Ts,Cl T [0,aG T])(k:∀T∈Ts,T.getLast?=Kf 10):kh x=ge Ts Ts.length/\ax (fin x)=gL Ts Ts.length:=by
 have e:=iJ j;have f:fin x=⟨.N,0,aG Ts.flatten,gL Ts Ts.length⟩:=by unfold fin;rw[b];exact e.sc
 have h:ax (fin x)=gL Ts Ts.length:=by rw[nN (by rw[f];exact e.last),f]
 refine⟨?_,h⟩;unfold kh;rw[h];have hl:(gL Ts Ts.length).length-1=Ts.length:=by unfold gL;rw[Zu,List.length_range];rfl
 rw[hl];exact ll b k (λ i l=>lT l) Ts.length<|Zv _
def x6 {lv:Nat}(k:sg x=Ts.flatten++U)(u:∀T∈Ts,Cl T [0,aG T])(w:∀T∈Ts,T.getLast?=Kf 10)(l:scan st0 (U.map tr)=⟨md,lv,aG U,[0]⟩)(y:0<aG U)(hl:U.getLast?=Kf 10) :kh x=ge (Ts++[U]) (Ts.length+1)/\ax (fin x)=gL (Ts++[U]) (Ts.length+1):=by
 have o:=iJ u;have p:(Ts++[U]).flatten=Ts.flatten++U:=by rw[List.flatten_append];show _++(U++[])=_;rw[Zg]
 have r:fin x=sh (gL Ts Ts.length) (aG Ts.flatten) (scan st0<|U.map tr):=by unfold fin;rw[k];exact o.scan U
 have eln:(fin x).ln=aG U+aG Ts.flatten:=by rw[r,l];rfl
 have egd:(fin x).gd=gL Ts Ts.length:=by rw[r,l];show gL Ts Ts.length++(([0]:List Nat).map (·+aG Ts.flatten)).tail=_;exact Zg _
 have b:=o.last;have e:gL (Ts++[U]) Ts.length=gL Ts Ts.length:=by unfold gL;refine List.map_congr_left λ j z=>?_;rw[List.take_append_of_le_length (by have:=List.mem_range.mp z;exact {this})]
 have t:ax (fin x)=gL (Ts++[U]) (Ts.length+1):=by
  unfold ax;rw[egd,eln,b,Wg (λ q=>by have:=Option.some.inj q;exact U594 y this),qX,e];have:(Ts++[U]).take (Ts.length+1)=Ts++[U]:=List.take_of_length_le<|by simp
  rw[this,p,bP,Nat.add_comm]
 refine⟨?_,t⟩;unfold kh;rw[t];have f:(gL (Ts++[U])<|Ts.length+1).length-1=Ts.length+1:=by unfold gL;rw[Zu,List.length_range];rfl
 rw[f];refine ll (by rw[k,p]) (λ T h=>?_) (λ i G=>lT<|by simpa using G) (Ts.length+1)<|by simp
 rcases Qu.mp h with h|h
 exact w T h;have:T=U:=by simpa using h
 rw[this];exact hl
def sT (n:Nat)(md:Md):ci (Gn n md)=(ci md).map (·+n):=by cases md<;>rfl
open Classical in
theorem Bl (g:List Nat)(n:Nat)(s:St):ar (sh g n s)=ar s:=by
 unfold ar;show (match ci (Gn n s.md) with
  |some f=>if s.ln+n=f+1 then (2:Int) else 3
  |none=>if 0<s.lv then 4 else if Gn n s.md=Md.Nb then 1 else 0)=_
 rw[sT]
 cases h:ci s.md with
 |some f=>
  show (if s.ln+n=f+n+1 then (2:Int) else 3)=if s.ln=f+1 then 2 else 3
  by_cases e:s.ln=f+1;rw[Wy e,Wy<|by exact U600 e];rw[Wg e,Wg<|by exact U599 e]
 |none=>
  show (if 0<s.lv then (4:Int) else if Gn n s.md=Md.Nb then 1 else 0)=if 0<s.lv then 4 else if s.md=Md.Nb then 1 else 0
  have:Gn n s.md=.Nb↔s.md=.Nb:=by cases s.md<;>exact⟨λ q=>by first|rfl | (cases q),λ q=>by first|rfl | (cases q)⟩
  by_cases e:s.md=.Nb;rw[Wy e,Wy<|this.mpr e];rw[Wg e,Wg<|λ q=>e<|this.mp q]
def xi (b:sg x=Ts.flatten)(e:∀T∈Ts,Cl T [0,aG T]):ar (fin x)=0:=by
 have f:=iJ e;have h:fin x=⟨.N,0,aG Ts.flatten,gL Ts Ts.length⟩:=by unfold fin;rw[b];exact f.sc
 rw[h,oO]
def tW (b:sg x=Ts.flatten++U)(e:∀T∈Ts,Cl T [0,aG T]):ar (fin x)=ar (scan st0<|U.map tr):=by
 have f:=iJ e;have h:fin x=sh (gL Ts Ts.length) (aG Ts.flatten) (scan st0<|U.map tr):=by unfold fin;rw[b];exact f.scan U
 rw[h,Bl]
def xw {lv:Nat}(h:ci md=Kf m):ar ⟨md,lv,n,gd⟩=if n=m+1 then 2 else 3:=by
 unfold ar;show (match ci md with
  |some f=>if n=f+1 then (2:Int) else 3
  |none=>_)=_
 rw[h]
open Classical in
theorem wP {b:Nat}{S:List Nat}{s:L2}(h:Sv b S [] s)(hb:s.st=[]->(scan st0<|S.map tr).md=.Nb):ar (scan st0<|S.map tr)=if s.st=[] then 1 else 4:=by
 obtain⟨md,e,i⟩:=h.sc;rw[e] at hb ⊢;have j:ci md=Wq:=by
  rcases i with rfl|rfl|⟨d,f,rfl,_⟩|⟨d,f,_,q⟩
  rfl;rfl;rfl;cases q
 unfold ar;show (match ci md with
  |some f=>if aG S=f+1 then (2:Int) else 3
  |none=>if 0<s.st.length then 4 else if md=Md.Nb then 1 else 0)=_
 rw[j];cases k:s.st with|nil=>have:md=.Nb:=hb k;show (if 0<0 then (4:Int) else if md=Md.Nb then 1 else 0)=_;rw[Wg {4},Wy this,Wy rfl]|cons a r=>show (if 0<r.length+1 then (4:Int) else _)=_;rw[Wy<|Nat.succ_pos _,Wg<|by simp]
section
variable {a b:IE}{st:List Nat}
def ug (l:List Nat):PyData.canLayAll0 (dQ<|ao l)=true/\PyData.depthAll (dQ<|ao l)=0:=by induction l with|nil=>exact⟨rfl,rfl⟩|cons a l rH=>obtain⟨e,f⟩:=rH;exact⟨by show (true&&PyData.canLayAll0 (dQ<|ao l))=true;rw[e];rfl,by show max 0 (PyData.depthAll<|dQ<|ao l)=0;rw[f];rfl⟩
def Gz (e:Ex P (n+2) l c a<|.d<|.lst<|ao st):Tx P (n+3) l c (.cmp .Eq a<|.lst [] Wq) st.isEmpty:=cM e (ja (ds:=[]) x0 rfl<|{4}) λ K k=>by obtain⟨f,h⟩:=ug st;refine⟨?_,{4},?_,?_⟩;show (PyData.canLayAll0 (dQ<|ao st)&&decide (PyData.depthAll (dQ<|ao st)+1<=64))=true;rw[f,h];rfl;cases st<;>rfl;cases st with|nil=>exact k|cons a l=>exact k
def II {f:Ww}(e:P.isFn f=true)(i:pD P (n+1) l c es vs)(j:∀K:V->aa->Prop,K v c->P.fn f vs c K):Ex P (n+2) l c (.call (.g<|.val<|.ref f) es Wq) v:=
 kN xg i λ K k=>⟨e,j _ ⟨λ _ h=>h,k⟩⟩
def vj (e:Ex P (n+3) l c a<|sV x)(hb:Ex P (n+1) l c b<|nV i)(f:Txt.find3 x ⟨#[10]⟩ (i:Int)=(j:Int)):Ex P (n+4) l c (.meth a .find [.c<|.str ⟨#[10]⟩,b]) (nV j):=
 jS (u:=sV x) (vs:=[sV ⟨#[10]⟩,nV i]) e rfl (x1 xc<|x1 hb x0) λ K k=>⟨rfl,by show K (.d<|.int<|Txt.find3 x ⟨#[10]⟩ (i:Int)) c;rw[f];exact k⟩
def x8 (e:Ex P (n+2) l c a<|sV ⟨w.toArray⟩):Ex P (n+3) l c (.meth a .count [.c<|.str ⟨#[10]⟩]) (nV<|aG w):=
 jS (u:=sV ⟨w.toArray⟩) (vs:=[sV ⟨#[10]⟩]) e rfl (x1 xc x0) λ K k=>⟨rfl,by show K (.d<|.int<|Txt.count ⟨w.toArray⟩ ⟨#[10]⟩) c;rw[x9];exact k⟩
def vk (xs:List D):nR xs Wq (Kf<|-1)=xs.dropLast:=by
 unfold nR;show (xs.drop 0).take (clipAt xs.length (-1)-0)=_;have:clipAt xs.length (-1)=xs.length-1:=by unfold clipAt;rw[Wy {4},Int.min_eq_left {0},Hd];exact U26
 rw[this,List.dropLast_eq_take];rfl
def Ip (e:Ex P (n+1) l c a<|.d<|.lst<|ao st)(hb:st.length<=big):Ex P (n+2) l c (.slice a (.c .none)<|.c<|.int<|-1) (.d<|.lst<|ao st.dropLast):=gP e xc xc λ K k=>by refine⟨rfl,by show (ao st).length<=big;rw[aW];exact hb,?_⟩;show K (.lst<|nR (ao st) Wq<|some<|-1);rw[vk];unfold ao at k ⊢;rw[List.map_dropLast] at k;exact k
end
def Fi (h:scan st0 (w.map tr)=⟨md,0,m,[0]⟩)(hl:w.getLast?=Kf 10)(i:IT md []):md=.Nb:=by
 obtain⟨b,rfl⟩:∃b,w=b++[10]:=List.getLast?_eq_some_iff.mp hl;rw[List.map_append,aE] at h;have h:step (scan st0<|b.map tr) 10=⟨md,0,m,[0]⟩:=h;generalize scan st0 (b.map tr)=s at h;rcases vU s with e|⟨l,e,k⟩
 rw[e] at h;injection h with _ o _ j
 rw[Wy o] at j;have:=congrArg List.getLast? j;rw[List.getLast?_concat] at this;exact absurd (Option.some.inj this)<|Nat.succ_ne_zero _;rw[e] at h;injection h with h
 rw[<-h] at i ⊢;rcases k with k|⟨d,k,f,rfl⟩|⟨d,f,rfl⟩
 exact k;rcases i with q|q|⟨_,_,q,_⟩|⟨_,_,q|q,_⟩<;>contradiction
 rcases i with q|q|⟨_,_,q,_⟩|⟨_,_,_,q⟩<;>contradiction
noncomputable abbrev nJ:IE:=.call (.g<|.bi .len) [(.v 3)] Wq
abbrev xZ (a b:IE):IS:=.asg 2<|.bin .Add (.v 2)<|.lst [(.tup [a,(.bin .Add nJ<|.c<|.int 1)]),(.tup [b,nJ])] Wq
noncomputable abbrev sK (d:Int) (e:IE):IS:=.ret<|some<|.tup [(.v 2),(.v 3),(.v 4),(.g<|.d<|.int d),e]
def Ca (sa:Ww):List IS:=[.unpT [6,7] (.call (.g<|.val<|.ref sa) [(.v 0),(.v 1)] Wq),xZ (.v 1) (.v 6),.asg 4 (.v 5),.if_ (.and (.not<|.v 7)<|.cmp .Eq (.meth (.slice (.v 0) (.v 1)<|.c .none) .count [(.c<|.str ⟨#[10]⟩)])<|.c<|.int 1) [sK 2<|.v 6] [],.if_ (.not<|.v 7) [sK 3<|.v 6] [],.asg 1 (.v 6)]
def Cu:List IS:=[.asg 6 (.meth (.v 0) .find [(.c<|.str ⟨#[10]⟩),(.v 1)]),xZ (.v 1) (.bin .Add (.v 6)<|.c<|.int 1),.asg 1 (.v 6)]
noncomputable def CL:List IS:=[.if_ (.cmp .NotEq (.item (.v 0) (.bin .Add (.v 1) (.c (.int 1)))) (.c (.str ⟨#[10]⟩))) [.asg 4 (.slice (.v 0) (.v 1) (.bin .Add (.v 1) (.c (.int 2))))] [],.asg 1 (.bin .Add (.v 1) (.c (.int 2)))]
def Cn:List IS:=[.if_ (.cmp .In (.v 5) (.c (.str ⟨#[40,91,123]⟩))) [.asg 3 (.bin .Add (.v 3)<|.lst [(.v 1)] Wq),.asg 2 (.bin .Add (.v 2) (.lst [(.tup [(.v 1),nJ])] Wq))] [.if_ (.cmp .In (.v 5) (.c (.str ⟨#[41,93,125]⟩))) [.asg 3 (.slice (.v 3) (.c .none)<|.c<|.int<|-1),.asg 2 (.bin .Add (.v 2) (.lst [(.tup [(.bin .Add (.v 1) (.c (.int 1))),nJ])] Wq))] []],.if_ (.cmp .NotIn (.v 5) (.c (.str ⟨#[32,9,10]⟩))) [.asg 4 (.v 5)] [],.asg 1 (.bin .Add (.v 1) (.c (.int 1)))]
def Gb (sa:Ww):List IS:=[.asg 5 (.item (.v 0)<|.v 1),.if_ (.and (.cmp .Eq (.v 5)<|.c<|.str ⟨#[10]⟩)<|.cmp .Eq (.v 3)<|.lst [] Wq) [sK 0<|.bin .Add (.v 1)<|.c<|.int 1] [],.if_ (.cmp .In (.v 5) (.c (.str ⟨#[34,39]⟩))) (Ca sa) [.if_ (.cmp .Eq (.v 5) (.c (.str ⟨#[35]⟩))) Cu [.if_ (.cmp .Eq (.v 5) (.c (.str ⟨#[92]⟩))) CL Cn]]]
def eO (sa:Ww):List IS:=[.asg 2 (.lst [(.tup [(.v 1),(.c<|.int 0)])] Wq),.asg 3 (.lst [] Wq),.asg 4 (.c<|.str ⟨#[]⟩),.while_ (.cmp .Lt (.v 1)<|.call (.g<|.bi .len) [(.v 0)] Wq) (Gb sa) [],.if_ (.cmp .Eq (.v 3)<|.lst [] Wq) [sK 1<|.v 1] [],sK 4 (.v 1)]
def iL:Spec:=λ vs c K=>Wf c/\∃x k d r,vs=[sV x,nV k]/\x.length<=1000/\(sg x).getLast?=Kf 10/\(sg x).drop k=qc d::r/\
 K (.d<|.tup [.int ((k+Re.strEnd (qc d::r):Nat):Nat),.bool<|kj (qc d) r||(sg x)[k+Re.strEnd (qc d::r)]?==Kf 10]) c
def tx (x:Str)(k stop:Nat):List Nat:=((sg x).drop k).take<|stop-k
def Eb (x:Str)(k:Nat)(fin:L2)(kind stop:Nat):Prop:=(fin.br.length<=5000/\fin.st.length<=5000)/\k<stop/\stop<=x.length/\
 ((kind=0/\(tx x k stop).getLast?=Kf 10/\Sw k (tx x k stop) fin)\/
 (kind≠0/\stop=x.length/\Fz (tx x k stop) (L0 k) fin/\(∃md lv,scan st0 ((tx x k stop).map tr)=⟨md,lv,aG (tx x k stop),[0]⟩)/\ar (scan st0 ((tx x k stop).map tr))=(kind:Nat)/\(kind=4->fin.st≠[])/\∀p∈fin.st,p<x.length/\(sg x)[p]?≠Kf 10))
def uI (fin:L2)(kind stop:Nat):D:=.tup [.lst<|b9 fin.br,.lst<|ao fin.st,.str fin.last,.int (kind:Nat),.int (stop:Nat)]
abbrev iP (x:Str) (s:L2) (o5 o6 o7:Option D):List (Option D):=[Kf<|.str x,Kf<|.int (s.p:Nat),Kf<|.lst<|b9 s.br,Kf<|.lst<|ao s.st,Kf<|.str s.last,o5,o6,o7]
def AP (x:Str)(k:Nat)(s:L2):Prop:=∃S R,(sg x).drop k=S++R/\Sv k S R s
def IU (x:Str)(k:Nat)(s:L2):Prop:=∃S w R t,(sg x).drop k=S++35::(w++10::R)/\Sv k S (35::(w++10::R)) t/\w.all (λ c=>c != 10)=true/\
 s=⟨t.p+w.length+1,t.last,t.st,t.br++[(t.p,t.st.length+1),(t.p+(w.length+2),t.st.length)]⟩
def Cd (x:Str)(k m:Nat)(L:List<|Option D):Prop:=∃s o5 o6 o7,L=iP x s o5 o6 o7/\m+s.p=x.length/\s.st.length<=s.p/\s.br.length<=2*s.p+1/\(∀p∈s.st,p<s.p/\(sg x)[p]?≠Kf 10)/\(AP x k s\/IU x k s)
def qY (a b:List<|Nat×Nat):b9 a++b9 b=b9 (a++b):=(List.map_append ..).symm
def eE {S R:List Nat}{s:L2}(h:(sg x).drop k=S++R)(v:Sv k S R s):(sg x).drop s.p=R:=by rw[v.p,<-Xg,h,List.drop_left]
def su {stop:Nat}{S R:List Nat}(h:(sg x).drop k=S++R)(b:stop=k+S.length):tx x k stop=S:=by unfold tx;rw[h,b,Nat.add_sub_cancel_left,List.take_left]
section
variable {s:L2}{o5 o6 o7:Option D}{K:V->aa->Prop}{r0:List IS}
structure Bx (c:aa)(x:Str):Prop where
 W:Wf c
 hx:x.length<=1000
 hl:(sg x).getLast?=Kf 10
theorem Bx.big (B:Bx c x):x.length<=big:=Zk B.hx<|{4}
def ba (h:n<=5000):n<=big:=Zk h<|{4}
structure Tn (c:aa)(x:Str)(k m:Nat)(s:L2):Prop extends Bx c x where
 m_:m+s.p=x.length
 st:s.st.length<=s.p
 br:s.br.length<=2*s.p+1
 pl:∀p∈s.st,p<s.p/\(sg x)[p]?≠Kf 10
def Tn.lt (T:Tn c x k m s)(h:(sg x)[s.p]?=Kf z):s.p<x.length:=by have:=(Qw.mp h).1;rw[am] at this;exact this
def Cq (T:Tn c x k m s):Ex P (n+3) (cu<|iP x s o5 o6 o7) c nJ (nV s.st.length):=by
 have:=Cp (P:=P) (n:=n) (l:=cu<|iP x s o5 o6 o7) (c:=c) (a:=.v 3) (xs:=ao s.st) (xv rfl)<|by rw[aW];exact ba (by have:=T.st;have:=T.m_;have:=T.hx;exact U606 ‹_› ‹_› this)
 rw[aW] at this;exact this
def b2:2<=big:={4}
def b1:1<=big:={4}
def b5:5<=big:={4}
def nx (T:Tn c x k m s){a b:IE}(f:av l 2=Kf (.d<|.lst<|b9 s.br))(e:∀{n:Nat},Ex P (n+3) l c nJ<|nV s.st.length)(o:∀{n:Nat},Ex P (n+2) l c a<|nV i)(hb:∀{n:Nat},Ex P (n+2) l c b<|nV j){F:F->Sg'->Prop}(h:aJ P (dom c) (n+21) r0 ⟨l.set 2<|some<|.d<|.lst<|b9<|s.br++[(i,s.st.length+1),(j,s.st.length)],c⟩ F) :aJ P (dom c) (n+22) (xZ a b::r0) ⟨l,c⟩ F:=by rw[<-qY] at h;refine aF (mT (xv f) (ja (ds:=b9 [(i,s.st.length+1),(j,s.st.length)]) (x1 (jX (ds:=[.int (i:Nat),.int ((s.st.length+1:Nat):Nat)]) (x1 o<|x1 (bh e xc) x0) rfl b2)<|x1 (jX (ds:=[.int (j:Nat),.int (s.st.length:Nat)]) (x1 hb<|x1 e x0) rfl b2) x0) rfl b2) ?_) h;rw[gE];exact ba (by have:=T.br;have:=T.m_;have:=T.hx;show s.br.length+2<=5000;exact U605 ‹_› ‹_› this)
def jY {d:Int}{fin:L2}{kind stop:Nat}(W:Wf c)(b:d=(kind:Nat))(f:av (cu L) 2=Kf (.d<|.lst<|b9 fin.br))(h:av (cu L) 3=Kf (.d<|.lst<|ao fin.st))(i:av (cu L) 4=Kf (sV fin.last))(j:∀{n:Nat},Ex P (n+2) (cu L) c e<|nV stop)(l:K (.d<|uI fin kind stop) c) {F:F->Sg'->Prop} (o:EndP c K (.ret<|.d<|uI fin kind stop) ⟨cu L,c⟩->F (.ret<|.d<|uI fin kind stop) ⟨cu L,c⟩):aJ P (dom c) (n+12) [sK d e] ⟨cu L,c⟩ F:=
 jB (jX (ds:=[.lst<|b9 fin.br,.lst<|ao fin.st,.str fin.last,.int (kind:Nat),.int (stop:Nat)]) (x1 (xv f)<|x1 (xv h)<|x1 (xv i)<|x1 (by rw[b];exact xg)<|x1 j x0) rfl b5) (o<|cR W l)
def nD (T:Tn c x k m s){s':L2}{o5 o6 o7:Option D}(b:s.p<s'.p)(f:s'.p<=x.length)(i:s'.st.length<=s.st.length+1)(hb:s'.br.length<=s.br.length+2)(h:AP x k s'\/IU x k s'){F:F->Sg'->Prop}(e:∀p∈s'.st,p∈s.st\/(p=s.p/\(sg x)[p]?≠Kf 10):=by exact λ _ h=>.inl h):aJ P (dom c) (q+1) [] ⟨cu<|iP x s' o5 o6 o7,c⟩ (WK P c n r0 F (Cd x k) m):=
 jm (m':=m-(s'.p-s.p)) T.W (by have:=T.m_;exact U604 b f this) ⟨s',o5,o6,o7,rfl,by have:=T.m_;exact U603 b f this,by have:=T.st;exact {b,i,this},by have:=T.br;exact {b,b,hb,this},λ p h=>(e p h).elim (λ h=>⟨Nat.lt_trans (T.pl p h).1 b,(T.pl p h).2⟩) (λ h=>⟨h.1▸b,h.2⟩),h⟩
end
def HK (st:List Nat)(p:Nat):ao st++[D.int (p:Nat)]=ao (st++[p]):=by unfold ao;rw[List.map_append];rfl
section
variable {s:L2}{o6 o7:Option D}{K:V->aa->Prop}{r0:List IS}
def rK (T:Tn c x k m s){st':List Nat}(b:st'.length<=s.st.length+1){o5:Option D}(f:∀{n:Nat},Ex P (n+2) (cu<|iP x ⟨s.p,last,st',s.br⟩ o5 o6 o7) c e<|nV i)(h:aJ P (dom c) (n+21) r0 ⟨cu<|iP x ⟨s.p,last,st',s.br++[(i,st'.length)]⟩ o5 o6 o7,c⟩ G) :aJ P (dom c) (n+22) (.asg 2 (.bin .Add (.v 2)<|.lst [(.tup [e,nJ])] Wq)::r0) ⟨cu<|iP x ⟨s.p,last,st',s.br⟩ o5 o6 o7,c⟩ G:=by
 have j:∀{n:Nat},Ex P (n+3) (cu<|iP x ⟨s.p,last,st',s.br⟩ o5 o6 o7) c nJ (nV st'.length):=λ {n}=>by
  have:=Cp (P:=P) (n:=n) (l:=cu<|iP x ⟨s.p,last,st',s.br⟩ o5 o6 o7) (c:=c) (a:=.v 3) (xs:=ao st') (xv rfl)<|by rw[aW];exact ba (by have:=T.st;have:=T.m_;have:=T.hx;exact U616 b ‹_› ‹_› this)
  rw[aW] at this;exact this
 have h:aJ P (dom c) (n+21) r0 ⟨(cu<|iP x ⟨s.p,last,st',s.br⟩ o5 o6 o7).set 2<|some<|.d<|.lst<|b9<|s.br++[(i,st'.length)],c⟩ G:=h;rw[<-qY] at h;refine aF (mT (xv rfl) (ja (ds:=b9 [(i,st'.length)]) (x1 (jX (ds:=[.int (i:Nat),.int (st'.length:Nat)]) (x1 f<|x1 j x0) rfl b2) x0) rfl b1) ?_) h;rw[gE];exact ba (by have:=T.br;have:=T.m_;have:=T.hx;show s.br.length+1<=5000;exact U615 ‹_› ‹_› this)
def lu (T:Tn c x k m s){s1:L2}(t:s1.p=s.p)(e:s.p<x.length)(l:s1.st.length<=s.st.length+1)(hb:s1.br.length<=s.br.length+2)(h:AP x k ⟨s.p+1,if aZ z=true then s1.last else ch z,s1.st,s1.br⟩\/IU x k ⟨s.p+1,if aZ z=true then s1.last else ch z,s1.st,s1.br⟩) (f:∀p∈s1.st,p∈s.st\/(p=s.p/\(sg x)[p]?≠Kf 10):=by exact λ _ h=>.inl h):aJ P (dom c) (n+20) [.if_ (.cmp .NotIn (.v 5)<|.c<|.str ⟨#[32,9,10]⟩) [.asg 4<|.v 5] [],.asg 1<|.bin .Add (.v 1)<|.c<|.int 1] ⟨cu<|iP x s1 (Kf<|.str<|ch z) o6 o7,c⟩ (WK P c q r0 G (Cd x k) m):=by
 obtain⟨u,l1,i,j⟩:=s1;obtain rfl:u=s.p:=t;have o:[32,9,10].contains z=aZ z:=by rw[List.contains_cons,List.contains_cons,List.contains_cons,List.contains_nil,Bool.or_false,<-Bool.or_assoc];rfl
 refine cQ (Io (xv rfl) xc) (λ b=>?_) λ b=>?_;rw[o] at b;have b:aZ z=false:=by simpa using b
 rw[b,Wg<|{4}] at h;exact aF (xv rfl)<|aS<|aF (bh (xv rfl)<|xc (d:=.int (1:Nat)))<|nD T (s':=⟨s.p+1,ch z,i,j⟩) (Nat.lt_succ_self _) e l hb h f;rw[o] at b;have b:aZ z=true:=by simpa using b
 rw[b,Wy rfl] at h;exact aS<|aF (bh (xv rfl)<|xc (d:=.int (1:Nat)))<|nD T (s':=⟨s.p+1,l1,i,j⟩) (Nat.lt_succ_self _) e l hb h f
def eg (h:w.contains z=true):z∈w:=by simpa using h
def x4 (T:Tn c x k m s)(L:AP x k s\/IU x k s)(i:(sg x).drop s.p=z::r)(o:z≠34/\z≠39/\z≠35/\z≠92)(u:z=10->s.st≠[]):aJ P (dom c) (n+40) Cn ⟨cu<|iP x s (Kf<|.str<|ch z) o6 o7,c⟩ (WK P c q r0 G (Cd x k) m):=by
 obtain⟨M,h2,h3⟩:=a9 i;have j:=T.lt M;have isA:z≠10->AP x k s:=λ b=>L.resolve_right λ q=>by
  obtain⟨S,w,R,t,f,v,hw,es⟩:=q;have:(sg x).drop s.p=10::R:=by rw[es];show (sg x).drop (t.p+w.length+1)=_;have:=eE f v;rw[Nat.add_assoc,<-Xg,this];show (w++10::R).drop w.length=_;rw[List.drop_left]
  rw[i] at this;injection this with this;exact b this
 refine cQ (Do (xv rfl) xc) (λ U=>?_) λ U=>?_;have b:=eg U;simp only[Qy,Xb,or_false] at b;obtain⟨S,R,f,v⟩:=isA<|by exact U614 b
 have h:=eE f v;rw[i] at h;subst h;have W:=v.opened b;clear h3 h2 isA u o i L;have Y:aZ z=false:=by rcases b with rfl|rfl|rfl<;>rfl
 have l:s.st.length+1<=big:=ba (by have:=T.st;have:=T.m_;have:=T.hx;exact U613 ‹_› ‹_› this);refine aF (v:=.d<|.lst<|ao<|s.st++[s.p]) ?_<|rK T (last:=s.last) (st':=s.st++[s.p]) (by simp) (xv rfl)<|aS<|lu T (s1:=⟨s.p,s.last,s.st++[s.p],s.br++[(s.p,(s.st++[s.p]).length)]⟩) rfl j (by simp) (by simp) ?_ λ p y=>(Qu.mp y).imp id λ y=>?_;rw[<-HK];exact mT (xv rfl) (ja (ds:=[.int (s.p:Nat)]) (x1 (xv rfl) x0) rfl b1)<|by rw[aW];exact l
 rw[Y,Wg<|{4}];exact .inl ⟨S++[z],r,by rw[Qv];exact f,by rw[Qj];exact W⟩;obtain rfl:p=s.p:=by simpa using y
 exact⟨rfl,by rw[M];intro e;have:=Option.some.inj e;exact U612 b this⟩;refine cQ (Do (xv rfl) xc) (λ hc=>?_) λ hc=>?_;have b:=eg hc;simp only[Qy,Xb,or_false] at b;obtain⟨S,R,f,v⟩:=isA<|by exact U611 b
 have h:=eE f v;rw[i] at h;subst h;have W:=v.closed b;clear h3 h2 M isA v u o i L;have Y:aZ z=false:=by rcases b with rfl|rfl|rfl<;>rfl
 have l:s.st.length<=big:=ba (by have:=T.st;have:=T.m_;have:=T.hx;exact U606 ‹_› ‹_› this);have I:s.st.dropLast.length<=s.st.length+1:=by rw[List.length_dropLast];exact U610
 refine aF (Ip (xv rfl) l)<|rK T (last:=s.last) (st':=s.st.dropLast) I (bh (xv rfl)<|xc (d:=.int (1:Nat)))<|aS<|aS<|lu T (s1:=⟨s.p,s.last,s.st.dropLast,s.br++[(s.p+1,s.st.dropLast.length)]⟩) rfl j I (by simp) ?_ λ p y=>.inl<|List.dropLast_subset _ y;rw[Y,Wg<|{4}];exact .inl ⟨S++[z],r,by rw[Qv];exact f,W⟩;refine aS (aS<|lu T (s1:=s) rfl j (Nat.le_succ _) (Nat.le_add_right ..) ?_);have no:z∉[40,91,123]/\z∉[41,93,125]:=⟨by simpa using U,by simpa using hc⟩;simp only[Qy,Xb,or_false,not_or] at no;have J:Re.ord_ z=true:=by unfold Re.ord_ Re.special;simp only[Bool.not_eq_true',Bool.or_eq_false_iff,beq_eq_false_iff_ne];exact⟨⟨⟨⟨⟨⟨⟨⟨⟨no.1.2.1,no.2.2.1⟩,no.1.1⟩,no.2.1⟩,no.1.2.2⟩,no.2.2.2⟩,o.2.2.1⟩,o.2.1⟩,o.1⟩,o.2.2.2⟩
 by_cases b:z=10;subst b;have u:=u rfl;refine .inl ?_;rcases L with ⟨S,R,f,v⟩|⟨S,w,R,t,f,v,hw,rfl⟩
 have h:=eE f v;rw[i] at h;subst h;exact⟨S++[10],r,by rw[Qv];exact f,v.line u⟩;exact⟨S++(35::(w++[10])),R,by rw[f];simp,v.rem hw u⟩;obtain⟨S,R,f,v⟩:=isA b;have h:=eE f v;rw[i] at h;subst h;exact .inl ⟨S++[z],r,by rw[Qv];exact f,v.ord J b⟩
def xd (T:Tn c x k m s)(J:AP x k s)(h:(sg x).drop s.p=92::r):aJ P (dom c) (n+40) CL ⟨cu<|iP x s (Kf<|.str<|ch 92) o6 o7,c⟩ (WK P c q r0 G (Cd x k) m):=by
 obtain⟨L,t,Y⟩:=a9 h;have u:=T.toBx.big;have f:=iW T.hl L<|{4}
 have M:=am x;obtain⟨S,R,w,v⟩:=J;have y:=eE w v;rw[h] at y;subst y
 cases r with|nil=>have:=congrArg List.length t;rw[Xp] at this;have:(sg x).length-(s.p+1)=0:=this;exact (U590 f this).elim|cons d r=>
  obtain⟨U,_,_⟩:=a9 t;have W:=v.esc
  have done:∀last,last=(if d=10 then s.last else ⟨#[92,d]⟩)->aJ P (dom c) (n+39) [.asg 1<|.bin .Add (.v 1)<|.c<|.int 2] ⟨cu<|iP x ⟨s.p,last,s.st,s.br⟩ (Kf<|.str<|ch 92) o6 o7,c⟩ (WK P c q r0 G (Cd x k) m):=λ last e=>
   aF (bh (xv rfl)<|xc (d:=.int (2:Nat))) (nD T (s':=⟨s.p+2,last,s.st,s.br⟩) (by show s.p<s.p+2;exact U609) (by show s.p+2<=_;exact U608 f) (Nat.le_succ _) (Nat.le_add_right ..)<|.inl ⟨S++[92,d],r,by rw[Qv];exact w,by rw[e];exact W⟩)
  refine cQ (q:=!(d==10)) (cM (nX (xv rfl) (bh (xv rfl)<|xc (d:=.int (1:Nat))) U u) xc λ K k=>?_) (λ o=>?_) λ o=>?_;show K (!(ch d==ch 10));rw[xS,show decide (d=10)=(d==10) from Bool.eq_iff_iff.mpr (by simp)];exact k;have b:d≠10:=by simpa using o
  have I:=pj (P:=P) (n:=n+35) (l:=cu<|iP x s (Kf<|.str<|ch 92) o6 o7) (c:=c) (i:=s.p) (j:=s.p+2) (a:=.v 0) (lo:=.v 1) (hi:=.bin .Add (.v 1)<|.c<|.int 2) (xv rfl) (xv rfl) (bh (xv rfl)<|xc (d:=.int (2:Nat))) u (Nat.le_add_right ..)<|by exact U607 f
  rw[Nat.add_sub_cancel_left,h] at I;exact aF (v:=sV ⟨#[92,d]⟩) I<|aS<|done _ (Wg b).symm;have b:d=10:=by simpa using o
  exact aS<|done _ (Wy b).symm
end
section
variable {s:L2}{o5 o6 o7:Option D}{K:V->aa->Prop}{r0:List IS}
def fP {t:List Nat}(h:10∈t):∃w R,t=w++10::R/\w.all (λ c=>c != 10)=true:=by induction t with|nil=>cases h|cons a t ih=>by_cases e:a=10;exact⟨[],t,by rw[e];rfl,rfl⟩;obtain⟨w,R,rfl,b⟩:=ih ((Qy.mp h).resolve_left λ q=>e q.symm);exact⟨a::w,R,rfl,Bool.and_eq_true_iff.mpr ⟨by simpa using e,b⟩⟩
def mh {p:Nat}{R:List Nat}(o:(sg x).drop p=w++10::R)(t:w.all (λ c=>c != 10)=true):Txt.find3 x ⟨#[10]⟩ (p:Int)=((p+w.length:Nat):Int):=by
 have at_:∀i,(sg x)[p+i]?=(w++10::R)[i]?:=λ i=>by rw[<-o,Zx]
 have b:(sg x)[p+w.length]?=Kf 10:=by rw[at_,List.getElem?_append_right<|Zv _,Nat.sub_self];rfl
 obtain⟨j,e,l,u,y⟩:=rm (x:=x) (i:=p) ⟨p+w.length,Nat.le_add_right ..,b⟩;rw[e];congr 1;by_cases f:j<p+w.length;exfalso;have:=at_<|j-p;rw[show p+(j-p)=j by exact U632 l,u,List.getElem?_append_left<|by exact U631 l f] at this;have:=Xu.mp t 10<|Qg this.symm;exact absurd this<|{4}
 by_cases h:p+w.length<j;exact absurd b<|y _ (Nat.le_add_right ..) h;exact Om.an {(Om.nl h)} {(Om.nl f)}
def eH (hl:(sg x).getLast?=Kf 10){p:Nat}(b:p<(sg x).length):10∈(sg x).drop p:=by rw[Qp] at hl;refine Qg (i:=(sg x).length-1-p) ?_;rw[Zx,show p+((sg x).length-1-p)=(sg x).length-1 by exact U629 b];exact hl
def wN (T:Tn c x k m s)(o:AP x k s)(b:(sg x).drop s.p=35::r):aJ P (dom c) (n+40) Cu ⟨cu<|iP x s (Kf<|.str<|ch 35) o6 o7,c⟩ (WK P c q r0 G (Cd x k) m):=by
 obtain⟨I,J,t⟩:=a9 b;have f:=eH T.hl t;rw[b] at f;obtain⟨w,R,rfl,h⟩:=fP<|(Qy.mp f).resolve_left<|{4}
 obtain⟨S,L,j,v⟩:=o;have l:=eE j v;rw[b] at l;subst l;have u:=mh (p:=s.p) (w:=35::w) b<|Bool.and_eq_true_iff.mpr ⟨rfl,h⟩;have e:s.p+w.length+1<(sg x).length:=by have:=congrArg List.length b;rw[Xp,Qz,Qj,Qz] at this;exact U628 this
 have y:=am x;refine aF (vj (xv rfl) (xv rfl) u)<|nx T rfl (Cq T (o5:=Kf<|.str<|ch 35) (o6:=Kf<|.int ((s.p+(w.length+1):Nat):Nat)) (o7:=o7)) (xv rfl) (bh (i:=s.p+(w.length+1)) (xv rfl)<|xc (d:=.int (1:Nat)))<|aF (xv (v:=nV<|s.p+(w.length+1)) rfl) ?_;refine nD T (s':=⟨s.p+w.length+1,s.last,s.st,s.br++[(s.p,s.st.length+1),(s.p+(w.length+2),s.st.length)]⟩) (by show s.p<s.p+w.length+1;exact U627) (by show s.p+w.length+1<=_;exact U626 e) (Nat.le_succ _) (by simp)<|.inr ⟨S,w,R,s,j,v,h,rfl⟩
def IQ {b:Bool}(h:av l i=Kf (.d<|.bool b)):Tx P (n+2) l c (.v i) b:=λ f k=>by show aU P (n+1) (.v i) l c λ u e=>bJ e u λ r=>f r e;exact xv h _ k
def Iq {a b:IE}(e:Ex P (n+1) l c a<|sV x)(hb:Ex P (n+1) l c b<|nV i)(f:x.length<=big)(hi:i<=x.length):Ex P (n+2) l c (.slice a b<|.c .none) (sV ⟨((sg x).drop i).toArray⟩):=
 gP e hb xc λ K k=>⟨f,by rw[vC x hi];exact k⟩
def wa {M:Ww}(hf:P.isFn M=true)(U:P.fn M=iL){d:Bool}(T:Tn c x k m s)(hh:AP x k s)(o:(sg x).drop s.p=qc d::r)(hK:∀fin kind stop,Eb x k fin kind stop->K (.d<|uI fin kind stop) c):aJ P (dom c) (n+60) (Ca M) ⟨cu<|iP x s (Kf<|.str<|ch<|qc d) o6 o7,c⟩ (WK P c q r0 (EndP c K) (Cd x k) m):=by
 obtain⟨h1,h2,h3⟩:=a9 o;have u:=T.lt h1;have hx:=T.toBx.big;have hlx:=am x;obtain⟨S,R,Y,v⟩:=hh;have e2:=eE Y v;rw[o] at e2;subst e2;have at_:(sg x)[s.p+Re.strEnd (qc d::r)]?=((qc d::r).drop<|Re.strEnd<|qc d::r).head?:=by rw[<-o,Xg,List.head?_drop]
 have w:=pi (qc d) r;have b:(sg x).length-s.p=r.length+1:=by have:=congrArg List.length o;rw[Xp] at this;exact this
 have l:0<Re.strEnd (qc d::r):=by show 0<(if r.head?=Kf (qc d)/\r.tail.head?=Kf (qc d) then _ else _);split<;>exact {1}
 refine I4 (xs:=[.int ((s.p+Re.strEnd (qc d::r):Nat):Nat),.bool<|kj (qc d) r||(sg x)[s.p+Re.strEnd (qc d::r)]?==Kf 10]) (II hf (x1 (xv rfl) (x1 (xv rfl) x0)) λ K' h=>?_) rfl ?_;rw[U];exact⟨T.W,x,s.p,d,r,rfl,T.hx,T.hl,o,h⟩;rw[at_];generalize I:Re.strEnd (qc d::r)=E at *
 refine nx T rfl (Cq T (o5:=Kf<|.str<|ch<|qc d) (o6:=Kf<|.int ((s.p+E:Nat):Nat)) (o7:=Kf<|.bool<|kj (qc d) r||((qc d::r).drop E).head?==Kf 10)) (xv rfl) (xv rfl)<|aF (v:=sV<|ch<|qc d) (xv rfl) ?_
 cases he:(kj (qc d) r||((qc d::r).drop E).head?==Kf 10) with
 |true=>
  have J:kj (qc d) r=true\/((qc d::r).drop<|Re.strEnd<|qc d::r).head?=Kf 10:=by
   rw[I];rcases Bool.or_eq_true_iff.mp he with h|h
   exact .inl h;exact .inr<|beq_iff_eq.mp h
  have v':=v.str J;rw[I] at v';refine cQ (q:=false) (wD (p:=false) (q:=false) (Bm (q:=true)<|IQ rfl) nofun) nofun λ _=>aS<|cQ (q:=false) (Bm (q:=true)<|IQ rfl) nofun λ _=>aS<|aF (v:=nV<|s.p+E) (xv rfl) ?_;exact nD T (s':=⟨s.p+E,ch<|qc d,s.st,s.br++[(s.p,s.st.length+1),(s.p+E,s.st.length)]⟩) (by show s.p<s.p+E;exact {l}) (by show s.p+E<=_;exact U624 b w) (Nat.le_succ _) (by simp)<|.inl ⟨_,_,by rw[Qv,List.take_append_drop];exact Y,v'⟩
 |false=>
  obtain⟨J,f⟩:=Bool.or_eq_false_iff.mp he;have f:((qc d::r).drop<|Re.strEnd<|qc d::r).head?≠Kf 10:=by rw[I];exact beq_eq_false_iff_ne.mp f
  have hl:(qc d::r).getLast?=Kf 10:=by have:=T.hl;rw[<-List.take_append_drop s.p (sg x),o,Qb] at this;cases hg:(qc d::r).getLast? with|none=>exact absurd hg<|by simp|some a=>rw[hg] at this;exact this
  obtain⟨fz,md,sc,oa⟩:=v.str_open J f hl;have i:E=r.length+1:=by have:=congrArg List.length<|qQ J f hl;rw[Xp,I] at this;have:r.length+1-E=0:=this;exact U593 w this
  have t:tx x k (s.p+E)=S++(qc d::r):=su (R:=[]) (by rw[Zg];exact Y)<|by rw[v.p,i,Qj];show _=_+(_+(r.length+1));exact Om.an {1} {1}
  have ct:ar (scan st0<|(S++(qc d::r)).map tr)=if aG (qc d::r)=1 then 2 else 3:=by rw[sc,xw oa,bP];by_cases h:aG (qc d::r)=1;rw[Wy h,Wy<|by exact U622 h];rw[Wg h,Wg<|by exact U621 h]
  have res:∀kind:Nat,((if aG (qc d::r)=1 then 2 else 3:Int)=(kind:Nat))->(kind=2\/kind=3)->Eb x k ⟨s.p+E,ch<|qc d,s.st,s.br++[(s.p,s.st.length+1),(s.p+E,s.st.length)]⟩ kind (s.p+E):=λ kind h y=>by refine⟨⟨by show (s.br++_).length<=5000;rw[Qj];have:=T.br;have:=T.m_;have:=T.hx;show s.br.length+2<=5000;exact U605 ‹_› ‹_› this,by have:=T.st;have:=T.m_;have:=T.hx;show s.st.length<=5000;exact U606 ‹_› ‹_› this⟩,by rw[v.p];exact {l},by exact U619 b i,.inr ⟨by exact U618 y,by exact U617 b i,?_,⟨md,s.st.length,?_⟩,?_,λ h4=>absurd h4 (y.elim (λ e=>by rw[e];decide) λ e=>by rw[e];decide),λ p hp=>⟨Nat.lt_trans (T.pl p hp).1 u,(T.pl p hp).2⟩⟩⟩;rw[t,i];exact fz;rw[t];exact sc;rw[t,ct,h]
  have cnt:∀{n:Nat},Ex P (n+3) (cu<|iP x ⟨s.p,ch<|qc d,s.st,s.br++[(s.p,s.st.length+1),(s.p+E,s.st.length)]⟩ (Kf<|.str<|ch<|qc d) (Kf<|.int ((s.p+E:Nat):Nat))<|some<|.bool false) c (.meth (.slice (.v 0) (.v 1)<|.c .none) .count [(.c<|.str ⟨#[10]⟩)]) (nV<|aG<|qc d::r):=λ {n}=>by rw[<-o];exact x8<|Iq (xv rfl) (xv rfl) hx<|Nat.le_of_lt u
  refine cQ (wD (Bm (q:=false)<|IQ rfl) λ _=>Il (j:=1) cnt xc) (λ h=>?_) λ h=>?_;have h:=beq_iff_eq.mp h;exact jY T.W (L:=iP x ⟨s.p,ch<|qc d,s.st,s.br++[(s.p,s.st.length+1),(s.p+E,s.st.length)]⟩ (Kf<|.str<|ch<|qc d) (Kf<|.int ((s.p+E:Nat):Nat))<|some<|.bool false) (fin:=⟨s.p+E,ch<|qc d,s.st,s.br++[(s.p,s.st.length+1),(s.p+E,s.st.length)]⟩) (kind:=2) rfl rfl rfl rfl (xv rfl) (hK _ _ _<|res 2 (by rw[Wy h];rfl)<|.inl rfl) λ h=>h;have h:aG (qc d::r)≠1:=beq_eq_false_iff_ne.mp h;refine aS<|cQ (Bm (q:=false)<|IQ rfl) (λ _=>?_) nofun;exact jY T.W (L:=iP x ⟨s.p,ch<|qc d,s.st,s.br++[(s.p,s.st.length+1),(s.p+E,s.st.length)]⟩ (Kf<|.str<|ch<|qc d) (Kf<|.int ((s.p+E:Nat):Nat))<|some<|.bool false) (fin:=⟨s.p+E,ch<|qc d,s.st,s.br++[(s.p,s.st.length+1),(s.p+E,s.st.length)]⟩) (kind:=3) rfl rfl rfl rfl (xv rfl) (hK _ _ _<|res 3 (by rw[Wg h];rfl)<|.inr rfl) λ h=>h
end
section
variable {K:V->aa->Prop}{F:F->Sg'->Prop}
def dS:Nx P pr (q+1) [] F=F:=by funext f τ;cases f<;>rfl
def k7 {a:Nat}(hl:w.getLast?=Kf a)(b:k<w.length):(w.drop k).getLast?=Kf a:=by rw[Qp] at hl ⊢;rw[Zx,Xp,show k+(w.length-k-1)=w.length-1 by exact U642 b];exact hl
def G4 (h:z∈[34,39]):∃d,z=qc d:=by
 simp only[Qy,Xb,or_false] at h;rcases h with rfl|rfl
 exact⟨true,rfl⟩;exact⟨false,rfl⟩
def l8 {sa:Ww}(hf:P.isFn sa=true)(hfn:P.fn sa=iL)(B:Bx c x)(hk:k<x.length)(hK:∀fin kind stop,Eb x k fin kind stop->K (.d<|uI fin kind stop) c):aJ P (dom c) (n+80) (eO sa) ⟨start [sV x,nV k] 6,c⟩ (EndP c K):=by
 have J:=am x;have hx:=B.big;refine aF (ja (ds:=b9 [(k,0)]) (x1 (jX (ds:=[.int (k:Nat),.int 0]) (x1 (xv rfl)<|x1 xc x0) rfl b2) x0) rfl b1)<|aF (ja (ds:=[]) x0 rfl<|Zj _)<|aF xc ?_;refine gX (L:=iP x (L0 k) Wq Wq Wq) (Cd x k) (x.length-k) ⟨L0 k,Wq,Wq,Wq,rfl,by show x.length-k+k=_;exact U641 hk,Zj _,by show 1<=2*k+1;exact {1},nofun,.inl ⟨[],(sg x).drop k,rfl,K0 k _⟩⟩ ?_;intro m _ e_;obtain⟨s,o5,o6,o7,rfl,hm,u,y,i,hh⟩:=e_;have T:Tn c x k m s:=⟨B,hm,u,y,i⟩;have j:s.br.length<=5000/\s.st.length<=5000:=by have:=B.hx;exact U639 hm u y this
 refine⟨decide<|s.p<x.length,A6 (xv rfl)<|jQ (xv rfl) hx,λ hq=>?_,λ hq=>?_⟩;have l:=of_decide_eq_true hq;obtain⟨z,r,o⟩:∃z r,(sg x).drop s.p=z::r:=by cases o:(sg x).drop s.p with|nil=>have:=congrArg List.length o;rw[Xp] at this;have:(sg x).length-s.p=0:=this;exact (U591 l this).elim|cons z r=>exact⟨z,r,rfl⟩
 obtain⟨h1,h2,h3⟩:=a9 o;have isA:z≠10->AP x k s:=λ M=>hh.resolve_right λ ⟨S,w,R,t,f,v,hw,es⟩=>M (by
  have:(sg x).drop s.p=10::R:=by rw[es];show (sg x).drop (t.p+w.length+1)=_;rw[Nat.add_assoc,<-Xg,eE f v];show (w++10::R).drop w.length=_;rw[List.drop_left]
  rw[o] at this;injection this)
 refine aF (nX (xv rfl) (xv rfl) h1 hx)<|cQ (wD (dX (xv rfl) xc) λ _=>Gz<|xv rfl) (λ h=>?_) λ h=>?_;obtain⟨M,I⟩:=Bool.and_eq_true_iff.mp h;have M:=beq_iff_eq.mp M;subst M;have I:=List.isEmpty_iff.mp I;refine jY (L:=iP x s (Kf<|.str<|ch 10) o6 o7) (fin:=⟨s.p+1,s.last,s.st,s.br⟩) (kind:=0) (stop:=s.p+1) B.W rfl rfl rfl rfl (bh (xv rfl)<|xc (d:=.int (1:Nat))) (hK _ _ _ ?_) λ h=>h;rcases hh with ⟨S,R,f,v⟩|⟨S,w,R,t,f,v,hw,rfl⟩
 have G:=eE f v;rw[o] at G;subst G;have b:tx x k (s.p+1)=S++[10]:=su (R:=r) (by rw[f];simp)<|by rw[v.p];simp;exact Om.an {1} {1}
 refine⟨j,by rw[v.p];exact {1},l,.inl ⟨rfl,by rw[b];simp,?_⟩⟩;rw[b];exact v.end_nl I;have b:tx x k (t.p+w.length+1+1)=S++(35::(w++[10])):=su (R:=R) (by rw[f];simp) (by rw[v.p];simp;exact Om.an {1} {1});refine⟨j,by show k<t.p+w.length+1+1;rw[v.p];exact {1},l,.inl ⟨rfl,?_,?_⟩⟩;show (tx x k<|t.p+w.length+1+1).getLast?=_;rw[b,<-List.cons_append,<-Qv,Qb];rfl;show Sw k (tx x k<|t.p+w.length+1+1) _;rw[b];exact v.end_rem hw I;clear J hx i y u hm j l h3 h2 h1 hk B;have hn:z=10->s.st≠[]:=λ e G=>by subst e;rw[G] at h;cases h
 refine aS<|cQ (Do (xv rfl) xc) (λ hs=>?_) λ hs=>?_;rw[dS];obtain⟨d,rfl⟩:=G4<|eg hs;exact wa (n:=n+11) hf hfn T (isA (ey d).2) o hK;refine cQ (dX (xv rfl) xc) (λ U=>?_) λ U=>?_;rw[dS,dS];have U:=beq_iff_eq.mp U;subst U;exact wN (n:=n+29) T (isA<|{4}) o;refine cQ (dX (xv rfl) xc) (λ Y=>?_) λ Y=>?_;rw[dS,dS,dS];have Y:=beq_iff_eq.mp Y;subst Y;exact xd (n:=n+27) T (isA<|{4}) o;rw[dS,dS,dS];have n1:z∉[34,39]:=by simpa using hs
 simp only[Qy,Xb,or_false,not_or] at n1;exact x4 (n:=n+27) T hh o ⟨n1.1,n1.2,by simpa using U,by simpa using Y⟩ hn;have hge:¬s.p<x.length:=of_decide_eq_false hq;have hp:s.p=x.length:=by exact U585 hm hge
 obtain⟨S,R,f,v⟩:=hh.resolve_right λ ⟨S,w,R,t,f,v,hw,es⟩=>hge (by have:=congrArg List.length f;rw[Xp] at this;simp at this;rw[es];show t.p+w.length+1<_;rw[v.p];have:(sg x).length=x.cps.size:=J;exact U635 ‹_›);have G:=eE f v;rw[List.drop_of_length_le<|by exact U634 hp] at G;subst G;rw[Zg] at f;have b:tx x k x.length=S:=su (R:=[]) (by rw[Zg];exact f)<|by rw[<-hp,v.p]
 have hSl:S.getLast?=Kf 10:=by rw[<-f];exact k7 B.hl<|by exact U633 hk
 obtain⟨md,sc,ok⟩:=v.sc;have ce:=wP v λ I=>by rw[sc];rw[I] at sc;exact Fi sc hSl ok
 have res:∀kind:Nat,(if s.st=[] then 1 else 4:Int)=(kind:Nat)->kind≠0->(kind=4->s.st≠[])->Eb x k s kind s.p:=λ kind h h0 h4=>by rw[hp];refine⟨j,hk,Zv _,.inr ⟨h0,rfl,?_,⟨md,s.st.length,?_⟩,?_,h4,λ p h=>⟨hp▸(i p h).1,(i p h).2⟩⟩⟩;rw[b];exact v.fin;rw[b];exact sc;rw[b,ce,h]
 refine aS<|cQ (Gz<|xv rfl) (λ h=>?_) λ h=>?_;have h:=List.isEmpty_iff.mp h;exact jY (L:=iP x s o5 o6 o7) (fin:=s) (kind:=1) (stop:=s.p) B.W rfl rfl rfl rfl (xv rfl) (hK _ _ _<|res 1 (by rw[Wy h];rfl) {4} nofun) λ h=>h;have h:s.st≠[]:=λ e=>by rw[e] at h;cases h
 exact aS<|jY (L:=iP x s o5 o6 o7) (fin:=s) (kind:=4) (stop:=s.p) B.W rfl rfl rfl rfl (xv rfl) (hK _ _ _<|res 4 (by rw[Wg h];rfl) {4} λ _=>h) λ h=>h
end
noncomputable def jo (pa co:Ww):List IS:=[.asg 4 (.bin .Add (.v 1)<|.c<|.int 1),.while_ (.cmp .Lt (.v 4) (.call (.g (.bi .len)) [(.v 0)] Wq)) [.asg 5 (.call (.g<|.val<|.ref pa) [(.v 0),(.v 4)] Wq),.if_ (.cmp .NotIn (.item (.v 0) (.v 5)) (.c (.str ⟨#[10,35,92]⟩))) [.ret (Kf (.call (.g (.val (.ref co))) [(.slice (.v 0) (.c .none) (.v 5)),(.v 3)] Wq))] [],.asg 4 (.bin .Add (.meth (.v 0) .find [(.c (.str ⟨#[10]⟩)),(.v 4)]) (.c (.int 1)))] [],.ret (Kf (.bin .Add (.call (.g (.val (.ref co))) [(.slice (.v 0) (.c .none) (.call (.g (.val (.ref pa))) [(.v 0),(.bin .Add (.meth (.v 0) .rfind [(.c (.str ⟨#[10]⟩)),(.c (.int 0)),(.v 1)]) (.c (.int 1)))] Wq)),(.v 3)] Wq) (.v 2)))]
noncomputable def lower:List Nat:=[97,98,99,100,101,102,103,104,105,106,107,108,109,110,111,112,113,114,115,116,117,118,119,120,121,122,95,48,49,50,51,52,53,54,55,56,57]
def Ab (z:Nat):Bool:=decide (z<128)&&(!Re.space z||aZ z)&&(!Re.wordC z||lower.contains z)
structure Ok3 (x:Str):Prop where
 hx:x.length<=1000
 hl:(sg x).getLast?=Kf 10
 ab:(sg x).all Ab=true
def dc:Spec:=λ vs c K=>Wf c/\∃x k,vs=[sV x,nV k]/\x.length<=1000/\10∈(sg x).drop k/\K (nV<|aK x k) c
def iF:Spec:=λ vs c K=>Wf c/\∃w tab,vs=[sV ⟨w.toArray⟩,nV tab]/\(∀z∈w,z<128)/\0<tab/\K (nV<|fg tab w) c
def qR (x:Str)(k:Nat):Nat:=k+(((sg x).drop k).takeWhile (· != 10)).length+1
def mU (x:Str)(k:Nat):Bool:=Re.hdB Re.itemB<|((sg x).drop k).dropWhile Re.blank
def ft (x:Str):Nat->Nat->Option Nat
 |0,_=>Wq|f+1,k=>if x.length<=k then Wq else if mU x k=true then Kf (aK x k) else ft x f (qR x k)
def Gw {f:Nat}:ft x (f+1) k=if x.length<=k then Wq else if mU x k=true then Kf (aK x k) else ft x f (qR x k):=rfl
def iq (x:Str)(p:Nat):Nat:=(cw x ⟨#[10]⟩ 0 p+1).toNat
def eF (x:Str)(a:Int)(tab p:Nat):Int:=match ft x (x.length+1) (p+1) with|some j=>(fg tab ((sg x).take j):Nat)|none=>(fg tab ((sg x).take<|aK x<|iq x p):Nat)+a
def qu {p:Nat}(b:p<=x.length):cw x ⟨#[10]⟩ 0 p+1=(iq x p:Nat)/\iq x p<=p/\(∀i,iq x p<=i->i<p->(sg x)[i]?≠Kf 10)/\(0<iq x p->(sg x)[iq x p-1]?=Kf 10):=by
 unfold iq;rcases og (x:=x) b with ⟨e,h⟩|⟨i,e,f,k,l⟩
 rw[e];exact⟨rfl,Zj _,λ i _ o=>h i o,λ q=>absurd q<|{4}⟩;rw[e];have:((i:Int)+1).toNat=i+1:=by exact U656
 rw[this];exact⟨rfl,f,λ j r t=>l j r t,λ _=>k⟩
def xt {R:List Nat}(b:(sg x).drop k=w++10::R)(e:w.all (λ c=>c != 10)=true):qR x k=k+w.length+1/\k+w.length+1<=x.length:=by refine⟨?_,?_⟩;unfold qR;rw[b,List.takeWhile_append_of_pos<|λ a f=>Xu.mp e a f];simp;have:=congrArg List.length b;rw[Xp,Qj,Qz,am] at this;exact U655 this
def eZ (O:Ok3 x)(h:10∈(sg x).drop k):∃z r,(sg x).drop (aK x k)=z::r/\((sg x).drop k).dropWhile Re.blank=z::r/\Re.blank z=false/\mU x k=![10,35,92].contains z/\aK x k<x.length:=by
 have e:(sg x).drop (aK x k)=((sg x).drop k).dropWhile Re.blank:=by unfold aK;rw[<-Xg];generalize (sg x).drop k=w;induction w with|nil=>rfl|cons a w ih=>rw[Xw,List.dropWhile_cons];cases Re.blank a with|true=>exact ih|false=>rfl
 have key:∀w:List Nat,10∈w->∃z r,w.dropWhile Re.blank=z::r/\Re.blank z=false:=λ w=>by
  induction w with|nil=>intro h;cases h|cons a w ih=>
   intro h;rw[List.dropWhile_cons]
   cases j:Re.blank a with
   |true=>exact ih<|(Qy.mp h).resolve_left λ e=>by rw[<-e] at j;exact absurd j<|{4}
   |false=>exact⟨a,w,rfl,j⟩
 obtain⟨z,r,f,i⟩:=key _ h;obtain⟨o,_,p⟩:=a9<|e.trans f;refine⟨z,r,e.trans f,f,i,?_,by rw[<-am];exact p⟩;have l:=Xu.mp O.ab z<|Qg o;unfold mU;rw[f];show Re.itemB z=_;have c3:[10,35,92].contains z=(z==10||z==35||z==92):=by show (match z==10 with|true=>true|false=>(match z==35 with|true=>true|false=>(match z==92 with|true=>true|false=>false)))=_;cases z==10<;>cases z==35<;>cases z==92<;>rfl
 rw[c3];unfold Re.itemB;have t:Re.space z=(z==10):=by
  unfold Ab aZ at l;unfold Re.blank at i;simp only[Xv,Bool.or_eq_true,Bool.not_eq_true',beq_iff_eq,Bool.or_eq_false_iff,beq_eq_false_iff_ne] at l i;by_cases b:z=10;subst b;rfl;rw[beq_eq_false_iff_ne.mpr b];rcases l.1.2 with q|q
  exact q;exact (U654 i b q).elim
 rw[t];show (!(z==10)&&!(z==35)&&!(z==92))=_;cases z==10<;>cases z==35<;>cases z==92<;>rfl
section
variable {p:Nat}{a:Int}{K:V->aa->Prop}{e1 e2:IE}
def yD {i j:Int}(b:Ex P n l c e1<|.d<|.int i)(hb:Ex P n l c e2<|.d<|.int j):Ex P (n+1) l c (.bin .Add e1 e2) (.d<|.int<|i+j):=iB b hb λ _ k=>k
def vu {p:Nat}(b:p<=x.length)(e:Ex P (n+4) l c e1<|sV x)(hb:Ex P (n+1) l c e2<|nV p):Ex P (n+6) l c (.bin .Add (.meth e1 .rfind [.c<|.str ⟨#[10]⟩,.c<|.int 0,e2])<|.c<|.int 1) (nV<|iq x p):=by show Ex P (n+6) l c _ (.d<|.int (iq x p:Nat));rw[<-(qu b).1];exact yD (jS (u:=sV x) (vs:=[sV ⟨#[10]⟩,.d<|.int 0,nV p]) e rfl (x1 xc<|x1 xc<|x1 hb x0) λ K k=>⟨rfl,⟨{4},Int.natCast_nonneg _,Int.ofNat_le.mpr b⟩,k⟩) xc
def uS (i:P.isFn b=true)(e:P.fn b=dc)(W:Wf c)(O:Ok3 x)(f:10∈(sg x).drop k)(j:Ex P (n+2) l c e1<|sV x)(hb:Ex P (n+1) l c e2<|nV k):Ex P (n+4) l c (.call (.g<|.val<|.ref b) [e1,e2] Wq) (nV<|aK x k):=
 II i (x1 j<|x1 hb x0) λ o h=>by rw[e];exact⟨W,x,k,rfl,O.hx,f,h⟩
def GP (f:P.isFn b=true)(e:P.fn b=iF)(W:Wf c)(O:Ok3 x)(i:0<tab)(o:Ex P (n+2) l c e1<|nV j)(q:Ex P (n+2) l c (.v 0)<|sV x)(hb:Ex P (n+2) l c e2<|nV tab):Ex P (n+5) l c (.call (.g<|.val<|.ref b) [.slice (.v 0) (.c .none) e1,e2] Wq) (nV<|fg tab<|(sg x).take j):=
 II f (x1 (v:=sV ⟨((sg x).take j).toArray⟩) (gP q xc o λ K k=>⟨Zk O.hx {4},by rw[vJ];exact k⟩)<|x1 hb x0) λ t h=>by rw[e];exact⟨W,(sg x).take j,tab,rfl,λ z r=>by have:=Xu.mp O.ab z<|List.mem_of_mem_take r;unfold Ab at this;simp only[Xv,decide_eq_true_eq] at this;exact this.1.1,i,h⟩
def tv {M T:Ww}(Y:P.isFn M=true)(u:P.fn M=dc)(hc:P.isFn T=true)(y:P.fn T=iF)(W:Wf c)(O:Ok3 x)(b:p<x.length)(ht:0<tab)(J:K (.d<|.int<|eF x a tab p) c):aJ P (dom c) (n+40) (jo M T) ⟨start [sV x,nV p,.d<|.int a,nV tab] 2,c⟩ (EndP c K):=by
 have hlx:=am x;have hx:x.length<=big:=Zk O.hx<|{4}
 refine aF (bh (xv rfl)<|xc (d:=.int (1:Nat))) ?_;refine gX (L:=[Kf<|.str x,Kf<|.int (p:Nat),Kf<|.int a,Kf<|.int (tab:Nat),Kf<|.int ((p+1:Nat):Nat),Wq]) (λ m L=>∃(k f:Nat) (o:Option D),L=[Kf<|.str x,Kf<|.int (p:Nat),Kf<|.int a,Kf<|.int (tab:Nat),Kf<|.int (k:Nat),o]/\ft x f k=ft x (x.length+1) (p+1)/\x.length<f+k/\m+k=x.length) (x.length-(p+1)) ⟨p+1,_,Wq,rfl,rfl,by exact {1},by exact U652 b⟩ ?_;intro m _ e_;obtain⟨k,f,o,rfl,j,hf,hm⟩:=e_
 cases f with|zero=>exact (U651 hm hf).elim|succ f=>
  refine⟨decide<|k<x.length,A6 (xv rfl)<|jQ (xv rfl) hx,λ U=>?_,λ U=>?_⟩;have G:=of_decide_eq_true U;have t:=eH O.hl (p:=k)<|by exact U633 G
  obtain⟨z,r,h1,h2,h3,h4,h5⟩:=eZ O t;rw[Gw,Wg<|by exact U650 G] at j;refine aF (uS Y u W O t (xv rfl)<|xv rfl)<|cQ (q:=mU x k) (by rw[h4];exact Io (nX (xv rfl) (xv rfl) (a9 h1).1 hx) xc) (λ h=>?_) λ h=>?_;rw[Wy h] at j;have e:eF x a tab p=(fg tab ((sg x).take<|aK x k):Nat):=by unfold eF;rw[<-j]
  rw[e] at J;exact jB (GP hc y W O ht (xv rfl) (xv rfl)<|xv rfl)<|cR W J;rw[Wg<|by rw[h];decide] at j;obtain⟨w,R,hd,hw⟩:=fP t;obtain⟨e1,e2⟩:=xt hd hw;refine aS<|aF (bh (i:=k+w.length) (vj (xv rfl) (xv rfl)<|mh hd hw)<|xc (d:=.int (1:Nat)))<|jm (m':=x.length-(k+w.length+1)) W (L':=[Kf<|.str x,Kf<|.int (p:Nat),Kf<|.int a,Kf<|.int (tab:Nat),Kf<|.int ((k+w.length+1:Nat):Nat),Kf<|.int (aK x k:Nat)]) (by exact U649 hm e2) ⟨_,f,_,rfl,by rw[<-e1];exact j,by exact {hf},by exact U647 e2⟩;have hk:¬k<x.length:=of_decide_eq_false U;rw[Gw,Wy<|by exact U537 hk] at j;have e:eF x a tab p=(fg tab ((sg x).take<|aK x<|iq x p):Nat)+a:=by unfold eF;rw[<-j]
  rw[e] at J;have I:p<=x.length:=Nat.le_of_lt b;exact aS<|jB (yD (GP hc y W O ht (uS Y u W O (eH O.hl (by have:=(qu I).2.1;exact U646 b this)) (xv rfl)<|vu I (xv rfl)<|xv rfl) (xv rfl)<|xv rfl)<|xv rfl)<|cR W J
end
def kW (s:St):Int:=((ax s)[(ax s).length-1]?.getD 0:Nat)-((ax s)[(ax s).length-2]?.getD 0:Nat)
def dY (x:Str):Bool:=Re.closeB<|(sg x).drop (kh x).1
noncomputable def oE (st:Ww)(m nm:Str):List IS:=[.expr<|.umeth (.v 0) st m [],.ret<|some<|.attr (.v 0) nm]
def yn (st:Ww):List IS:=[.expr<|.umeth (.v 0) st GH [],.asg 1<|.attr (.v 0) oJ,.ret<|some<|.bin .Sub (.item (.v 1)<|.c<|.int<|-1)<|.item (.v 1)<|.c<|.int<|-2]
def jV (s2:Ww):List IS:=[.expr<|.umeth (.v 0) s2 Fn [],.ret<|some<|.cmp .Eq (.attr (.v 0) eG)<|.c<|.str ⟨#[58]⟩]
def jU (s2 cl:Ww):List IS:=[.expr<|.umeth (.v 0) s2 Fn [],.ret<|some<|.cmp .IsNot (.call (.g<|.val<|.ref cl) [(.attr (.v 0) cf),(.attr (.v 0) dE)] Wq)<|.c .none]
section
variable {need f:Nat}{a b:Int}{s:L2}{R:Str->Int->Int->L2->V->Prop}{K:V->aa->Prop}
def vm (P:Pm)(c:aa)(k dk:Nat)(x:Str)(a b:Int)(need i:Nat)(R:Str->Int->Int->L2->V->Prop)(K:V->aa->Prop):Prop:=∀v s',R x a b s' v->Par P.C (cset c dk<|.ns<|aw x a b s'<|max need i) k dk x a b s' (max need i)->K v (cset c dk<|.ns<|aw x a b s'<|max need i)
def mr {r:Str}{d:L2->D}(p:Par P.C c k dk x a b s i)(t:r∈vH)(u:P.isFn f=true)(o:P.fn f=aX P.C Fs need (λ _=>True) fy)(y:∀j∈Fs,j∉dom c)(z:∀s',R x a b s'<|.d<|d s')(h:vm P c k dk x a b need i R K)(G:∀s' c' l,Par P.C c' k dk x a b s' (max need i)->l (.d<|d s') c'->aU P (n+3) e (start [.obj k] m) c' l):aJ P (dom c) (n+6) [.expr<|.umeth (.v 0) f r [],.ret<|some e] ⟨start [.obj k] m,c⟩ (EndP c K):=by refine ma (n:=n+1) rfl p (λ i s I=>oz I t) u o y λ s' q=>?_;refine mC (n:=n+3) (.d<|d s') (c':=cset c dk<|.ns<|aw x a b s'<|max need i) (λ l h=>G s' _ l q h) ?_;exact EndP.same q.w (λ j J=>by rw[ai];exact J) rfl<|h _ s' (z s') q
def sU (h:i<=2):max 2 i=2:=Nat.max_eq_left h
def yH {m e:Str}{d:L2->D}(p:Par P.C c k dk x a b s i)(r:m∈vH)(l:P.attr e=true)(t:P.isFn f=true)(o:P.fn f=aX P.C Fs need (λ _=>True) fy)(u:∀j∈Fs,j∉dom c)(w:∀s',R x a b s'<|.d<|d s')(hl:∀s',look (aw x a b s'<|max need i) e=Kf (.d<|d s'))(h:vm P c k dk x a b need i R K) :aJ P (dom c) (n+6) (oE f m e) ⟨start [.obj k] 0,c⟩ (EndP c K):=
 mr p r t o u w h λ s' G y q z=>bt (n:=n+1) rfl q.k_ q.d_ l (hl s') rfl y z
def Cz (h:i<=2)(s':L2):look (aw x a b s'<|max 1 i) n6=Kf (.d<|.int<|ar<|fin x)/\look (aw x a b s'<|max 1 i) oJ=Kf (.d<|.lst<|ao<|ax<|fin x):=
 i3 (p:=λ i=>look (aw x a b s'<|max 1 i) n6=Kf (.d<|.int<|ar<|fin x)/\look (aw x a b s'<|max 1 i) oJ=Kf (.d<|.lst<|ao<|ax<|fin x)) h ⟨{2},{2}⟩ ⟨{2},{2}⟩ ⟨{2},{2}⟩
def lE {e:List Nat}{z:Int}(l:seqIndex? z e.length=Kf j)(hi:j<e.length)(hb:e.length<=big){K:D->Prop}(h:K<|.int (e[j]?.getD 0:Nat)):f8 c (.d<|.lst<|ao e) (.d<|.int z) K:=by show (ao e).length<=big/\∃j d,seqIndex? z (ao e).length=Kf j/\(ao e)[j]?=Kf d/\K d;refine⟨by rw[aW];exact hb,j,.int (e[j]?.getD 0:Nat),by rw[aW];exact l,?_,h⟩;unfold ao;rw[Xy,Qk hi];rfl
def EY (At:Attr3 P)(p:Par P.C c k dk x a b s i)(y:P.isFn f=true)(o:P.fn f=aX P.C Fs 1 (λ _=>True) fy)(G:∀j∈Fs,j∉dom c)(I:∀s',R x a b s'<|.d<|.int<|kW<|fin x)(h:vm P c k dk x a b 1 i R K) :aJ P (dom c) (n+20) (yn f) ⟨start [.obj k] 1,c⟩ (EndP c K):=by
 refine ma (n:=n+15) rfl p (λ i s J=>oz J<|{3}) y o G λ s' l=>?_;refine aN (n:=n+17) (.d<|.lst<|ao<|ax<|fin x) (λ e h=>bt (n:=n+15) rfl l.k_ l.d_ At.gl (Cz p.le s').2 rfl e h) ?_;obtain⟨g1,g2⟩:=j0<|lR x;have g3:=p.t.two;have g4:=p.t.len;have q:(ax<|fin x).length<=big:=by exact {g2,g4}
 refine mC (n:=n+16) (.d<|.int<|kW<|fin x) (c':=cset c dk<|.ns<|aw x a b s'<|max 1 i) (λ e h=>?_)<|EndP.same l.w (λ j L=>by rw[ai];exact L) rfl<|h _ s' (I s') l;have r:∀z j:Nat,0<z->z<=(ax<|fin x).length->j=(ax<|fin x).length-z->seqIndex? (-(z:Int)) (ax<|fin x).length=Kf j:=λ z j u M T=>by unfold seqIndex?;rw[Wy<|show (-(z:Int))<0 by exact {0,(Om.zl u)}];dsimp only;rw[Wy<|by simp;exact U662 u M];congr 1;exact U661 T
 rw[fR];refine bS (n:=n+14) (.d<|.lst<|ao<|ax<|fin x) (.d<|.int<|-1) (λ e h=>h) (λ e h=>h)<|lE (r 1 _ {4} (by exact {g3}) rfl) (by exact U659 g3) q ?_;refine bS (n:=n+14) (.d<|.lst<|ao<|ax<|fin x) (.d<|.int<|-2) (λ e h=>h) (λ e h=>h)<|lE (r 2 _ {4} (by exact {g3}) rfl) (by exact U657 g3) q h
def mF (h:i<=2)(s':L2):look (aw x a b s'<|max 2 i) eG=Kf (.d<|.str s'.last)/\look (aw x a b s'<|max 2 i) Ch=Kf (.d<|.tup<|b9 s'.br)/\look (aw x a b s'<|max 2 i) cf=Kf (.d<|.str x)/\look (aw x a b s'<|max 2 i) dE=Kf (.d<|.int ((kh x).1:Nat)):=by rw[sU h];exact⟨{2},{2},{2},{2}⟩
def uk (At:Attr3 P)(p:Par P.C c k dk x a b s i)(o:P.isFn f=true)(e:P.fn f=aX P.C Fs 2 (λ _=>True) fy)(q:∀j∈Fs,j∉dom c)(r:∀s':L2,R x a b s'<|.d<|.bool<|s'.last==⟨#[58]⟩)(h:vm P c k dk x a b 2 i R K) :aJ P (dom c) (n+6) (jV f) ⟨start [.obj k] 0,c⟩ (EndP c K):=
 mr (d:=λ s'=>.bool<|s'.last==⟨#[58]⟩) p {3} o e q r h λ s' w t l u=>r5 (n:=n+2) (.d<|.str s'.last) (.d<|.str ⟨#[58]⟩) (bt (n:=n) rfl l.k_ l.d_ At.la (mF p.le s').1 rfl) (λ t h=>h) u
end
section
def Ek (x:Str):(kh x).1<=x.length:=by
 have G:=lR x;obtain⟨b,e⟩:=j0 G;obtain⟨q1,q2,q3⟩:=rS G ((ax<|fin x).length-1)<|by exact U342 b
 exact Zk q1 q2
def mD (h:w.length<4):Re.closeB w=false:=by
 unfold Re.closeB Re.tryB;rw[List.any_eq_false];intro b e f;have hl:(w.dropWhile Re.space).length<=w.length:=(List.dropWhile_sublist _).length_le;have j:4<=b.length:=by
  have:∀b∈Re.five,4<=b.length:={4}
  exact this b e
 unfold Re.hit at f;rw[Xv] at f;have:=(List.isPrefixOf_iff_prefix.mp f.1).length_le;exact Om.ff {h,hl,j,this}
def qw {t:Ww}(T:TextOk x)(M:P.isFn t=true)(w:P.fn t=aP Re.closeC){I J:IE}(R:∀f:V->aa->Prop,f (.d<|.str x) c->aU P (n+2) I l c f)(U:∀f:V->aa->Prop,f (.d<|.int ((kh x).1:Nat)) c->aU P (n+1) J l c f)(f:V->aa->Prop)(h:f (.d<|.bool<|dY x) c):aU P (n+5) (.cmp .IsNot (.call (.g<|.val<|.ref t) [I,J] Wq)<|.c .none) l c f:=by
 have hl:=am x;have W:=T.len;have y:=Ek x;have j:x.length<=big:=by exact U63 W
 generalize z:(kh x).1=p at *
 have e:((sg x).take x.length).drop p=(sg x).drop p:=by rw[<-hl,List.take_length]
 have L:=nr x (p:=p) (q:=x.length) (st:=p) (code:=Re.closeC) y<|Zv _;rw[e] at L;have o:Re.Low ((sg x).drop p):=e▸jL T p x.length;have b:((sg x).drop p).length=x.length-p:=by rw[Xp];exact U372
 have Y:dY x=Re.closeB ((sg x).drop p):=by unfold dY;rw[z]
 rw[Y] at h;rw[AE];refine gp (n:=n) (u:=.val<|.ref t) (v1:=.d<|.str x) (v2:=.d<|.int (p:Nat)) (λ f h=>h) R U ?_;refine⟨M,?_⟩;rw[w];unfold big at j;by_cases G:x.length-p<4;rw[mD<|by exact U371 b G] at h;exact⟨x,p,x.length,Wq,1,.inl ⟨rfl,rfl⟩,y,Zv _,j,{4},.inr ⟨rfl,G⟩,λ _ q=>q,trivial,h⟩;obtain⟨r,hr,he⟩:=Re.close_ok (text:=x.cps) (lim:=x.length) (st:=p) L o (by exact U370 j b);refine⟨x,p,x.length,r,_,.inl ⟨rfl,rfl⟩,y,Zv _,j,⟨?_,?_⟩,.inl ⟨he,by show 4<=x.length-p;exact {(Om.nl G)}⟩,?_⟩;exact {1};exact Gi {Xx 60 (Zk (Nat.le_of_eq b)<|Zk (Nat.sub_le ..) j)};rw[<-hr] at h;cases r with|none=>exact⟨λ _ q=>q,trivial,h⟩|some e=>exact⟨λ _ q=>q,trivial,h⟩
def uh {f o:Ww}{R:Str->Int->Int->L2->V->Prop}{K:V->aa->Prop}{a b:Int}{s:L2}(At:Attr3 P)(p:Par P.C c k dk x a b s i)(u:P.isFn f=true)(q:P.fn f=aX P.C Fs 2 (λ _=>True) fy)(w:∀j∈Fs,j∉dom c)(y:P.isFn o=true)(r:P.fn o=aP Re.closeC)(z:∀s':L2,R x a b s'<|.d<|.bool<|dY x)(h:vm P c k dk x a b 2 i R K) :aJ P (dom c) (n+10) (jU f o) ⟨start [.obj k] 0,c⟩ (EndP c K):=
 mr (n:=n+4) (d:=λ _=>.bool<|dY x) p {3} u q w z h λ s' I e l G=>
  qw (n:=n+2) l.t.toTextOk y r (λ e h=>bt (n:=n+2) rfl l.k_ l.d_ At.co (mF p.le s').2.2.1 rfl e h) (λ e h=>bt (n:=n+1) rfl l.k_ l.d_ At.st (mF p.le s').2.2.2 rfl e h) e G
end
def E9 {b:List (List Nat)}(i:Nat):i<=Ts.length->ge (Ts++b) i=ge Ts i:=by
 induction i with|zero=>intro _;exact rfl|succ i rH=>
  intro h;have p:∀j,j<=Ts.length->fU (Ts++b) j=fU Ts j:=λ j e=>by unfold fU;rw[List.take_append_of_le_length e]
  rw[ge,ge,rH (by exact U597 h),p i (by exact U597 h),p (i+1) h,List.getD_eq_getElem?_getD,List.getD_eq_getElem?_getD,List.getElem?_append_left<|by exact {h}]
def BG :ge (Ts++[T]) (Ts.length+1)=if Re.junkB T=true then ge Ts Ts.length else (Ts.flatten.length,Ts.flatten.length+T.length):=by
 have b:fU (Ts++[T]) Ts.length=Ts.flatten.length:=by unfold fU;rw[List.take_append_of_le_length<|Zv _,List.take_length]
 have e:fU (Ts++[T]) (Ts.length+1)=Ts.flatten.length+T.length:=by unfold fU;rw[List.take_of_length_le (by simp),List.flatten_append,Qj];simp
 rw[ge,E9 _<|Zv _,b,e,List.getD_eq_getElem?_getD,List.getElem?_append_right<|Zv _,Nat.sub_self];rfl
def A5 (l:List Nat):∀(s:St),∃g,(scan s l).gd=s.gd++g:=by
 induction l with|nil=>intro s;exact⟨[],(Zg _).symm⟩|cons c l rH=>
  intro s;obtain⟨g,b⟩:=rH<|step s c;rw[aO,b];rcases jH s c with h|⟨h,_⟩
  exact⟨g,by rw[h]⟩;exact⟨[s.ln+1]++g,by rw[h,Qv]⟩
def kP (h:Re.junkB U=true)(f:10∈U):∃b w R,U=b++(w++10::R)/\b.all Re.blank=true/\(w=[]\/∃i,w=35::i/\i.all (λ c=>c != 10)=true):=by
 unfold Re.junkB at h
 cases j:U.dropWhile Re.blank with|nil=>rw[j] at h;cases h|cons a t=>
  rw[j] at h;have h:(a==10||(a==35&&Re.hdB (λ c=>!Re.space c) t))=true:=h;have e:U=U.takeWhile Re.blank++a::t:=by rw[<-j,List.takeWhile_append_dropWhile]
  have k:(U.takeWhile Re.blank).all Re.blank=true:=Xu.mpr<|Re.tw_all Re.blank U;by_cases l:a=10;subst l;exact⟨_,[],t,e,k,.inl rfl⟩;have o:a=35:=by rw[beq_eq_false_iff_ne.mpr l,Bool.false_or,Xv] at h;exact beq_iff_eq.mp h.1
  subst o;have:10∈t:=by
   rw[e] at f;rcases Qu.mp f with q|q
   have:=Xu.mp k 10 q;exact absurd this<|{4}
   exact (Qy.mp q).resolve_left<|{4}
  obtain⟨i,R,rfl,p⟩:=fP this;exact⟨_,35::i,R,e,k,.inr ⟨i,rfl,p⟩⟩
def yP {b:List Nat}:∀{lv ln:Nat} {gd:List Nat},b.all Re.blank=true->scan ⟨.N,lv,ln,gd⟩ (b.map tr)=⟨.N,lv,ln,gd⟩:=by
 induction b with|nil=>intro _ _ _ _;exact rfl|cons c b rH=>
  intro lv ln gd h;obtain⟨f,i⟩:=Bool.and_eq_true_iff.mp h;have e:c=32\/c=9:=by unfold Re.blank at f;simpa using f
  rw[List.map_cons,aO,yl (by rcases e with rfl|rfl<;>rfl)<|by exact U669 e];exact rH i
def uq {b:List Nat}(hb:b.all Re.blank=true)(e:w=[]\/∃f,w=35::f/\f.all (λ c=>c != 10)=true):scan st0 ((b++(w++[10])).map tr)=⟨.N,0,1,[0,1]⟩:=by
 rw[List.map_append,aE,show scan st0 (b.map tr)=st0 from yP hb];rcases e with rfl|⟨f,rfl,e⟩
 rfl;exact jd e
def qP (h:Re.junkB U=true)(f:10∈U):∃g,(scan st0<|U.map tr).gd=[0,1]++g:=by
 obtain⟨b,w,R,rfl,i,j⟩:=kP h f;obtain⟨g,k⟩:=A5 (R.map tr) ⟨.N,0,1,[0,1]⟩;refine⟨g,?_⟩;have e:b++(w++10::R)=(b++(w++[10]))++R:=by simp
 rw[e,List.map_append,aE,uq i j];exact k
def rv {lv:Nat}(f:scan st0 (U.map tr)=⟨md,lv,m,[0]⟩)(e:10∈U):Re.junkB U=false:=by cases h:Re.junkB U with|false=>rfl|true=>obtain⟨g,b⟩:=qP h e;rw[f] at b;injection b with _ b;cases b
def jK (p:Cl T [0,aG T])(h:Re.junkB T=true)(f:10∈T):∃b w,T=b++(w++[10])/\b.all Re.blank=true/\(w=[]\/∃i,w=35::i/\i.all (λ c=>c != 10)=true):=by
 obtain⟨b,w,R,rfl,r,j⟩:=kP h f;refine⟨b,w,?_,r,j⟩;obtain⟨g,k⟩:=qP h f;rw[p.sc] at k;injection k with _ k;injection k with o _
 have n0:∀l:List Nat,l.all (λ c=>c != 10)=true->aG l=0:=λ l=>by
  induction l with
  |nil=>exact λ _=>rfl
  |cons c l ih=>intro h;obtain⟨z,G⟩:=Bool.and_eq_true_iff.mp h;show (if c=10 then 1 else 0)+_=0;rw[Wg (by simpa using z),ih G]
 have nb:aG b=0:=n0 b (Xu.mpr λ c I=>by have:=Xu.mp r c I;cases t:c==10 with|false=>simpa using t|true=>rw[beq_iff_eq.mp t] at this;exact absurd this<|{4});have J:aG w=0:=by
  rcases j with rfl|⟨i,rfl,j⟩
  rfl;show 0+aG i=0;rw[n0 i j]
 have L:aG R=0:=by rw[bP,bP,nb,J] at o;have o:0+(0+(1+aG R))=1:=o;exact U668 o
 have:R=[]:=by
  rcases p.ends with e|e
  exact absurd e<|by simp
  by_cases u:R=[];exact u;rw[show b++(w++10::R)=(b++w++[10])++R by simp,Qb] at e;obtain⟨y,x⟩:∃y,R.getLast?=Kf y:=by cases q:R.getLast? with|none=>exact absurd (List.getLast?_eq_none_iff.mp q) u|some y=>exact⟨y,rfl⟩
  rw[x] at e;have e:R.getLast?=Kf 10:=x.trans e;have:10∈R:=List.mem_of_getLast? e;have pos:∀l:List Nat,10∈l->0<aG l:=λ l=>by
   induction l with|nil=>intro h;cases h|cons c l ih=>
    intro h;show 0<(if c=10 then 1 else 0)+aG l;rcases Qy.mp h with h|h
    rw[Wy h.symm];exact {1};have:=ih h;exact {this}
  have:=pos R this;exact (U665 L this).elim
 rw[this]
noncomputable def yh (sa pa:Ww):List IS:=[.unpT [6,7,8,9,10] (.call (.g<|.val<|.ref sa) [(.v 0),(.v 3)] Wq),.asg 11 (.meth (.slice (.v 0) (.v 3)<|.v 10) .count [(.c<|.str ⟨#[10]⟩)]),.asg 12 (.call (.g<|.val<|.ref pa) [(.v 0),(.v 3)] Wq),.if_ (.and (.cmp .NotEq (.item (.v 0) (.v 12)) (.c (.str ⟨#[10]⟩))) (.or (.cmp .NotEq (.item (.v 0) (.v 12)) (.c (.str ⟨#[35]⟩))) (.cmp .In (.item (.v 0) (.bin .Add (.v 12) (.c (.int 1)))) (.c (.str ⟨#[32,9,10]⟩))))) [.asg 4 (.v 12),.asg 5 (.tup [(.v 6),(.v 8)])] [],.asg 3 (.v 10)]
noncomputable def wX (ia:Ww):List IS:=[.asg 13 (.c<|.str ⟨#[]⟩),.while_ (.cmp .In (.item (.v 0) (.v 4)) (.c (.str ⟨#[97,98,99,100,101,102,103,104,105,106,107,108,109,110,111,112,113,114,115,116,117,118,119,120,121,122,95,48,49,50,51,52,53,54,55,56,57]⟩))) [.asg 13 (.bin .Add (.v 13)<|.item (.v 0)<|.v 4),.asg 4 (.bin .Add (.v 4) (.c (.int 1)))] [],.asg 14 (.c<|.str ⟨#[114,101,102,117,115,101,100]⟩),.if_ (.cmp .Eq (.v 9) (.g (.d (.int 4)))) [.asg 14 (.call (.g (.val (.ref ia))) [(.v 0),(.item (.v 7) (.c (.int (-1)))),(.v 1),(.v 2)] Wq)] [],.ret (Kf (.lst [(.v 9),(.v 11),(.call (.g (.bi .tuple)) [(.item (.v 5) (.c (.int 0)))] Wq),(.cmp .Eq (.item (.v 5) (.c (.int 1))) (.c (.str ⟨#[58]⟩))),(.cmp .In (.v 13) (.lst [(.c (.str ⟨#[114,101,116,117,114,110]⟩)),(.c (.str ⟨#[98,114,101,97,107]⟩)),(.c (.str ⟨#[99,111,110,116,105,110,117,101]⟩)),(.c (.str ⟨#[114,97,105,115,101]⟩)),(.c (.str ⟨#[112,97,115,115]⟩))] Wq)),(.v 14)] Wq))]
noncomputable def qx (sa pa ia:Ww):List IS:=.asg 3 (.c<|.int 0)::.asg 4 (.c<|.int 0)::.asg 5 (.tup [(.lst [(.tup [(.c<|.int 0),(.c<|.int 0)])] Wq),(.c<|.str ⟨#[]⟩)]) ::
 .while_ (.cmp .Lt (.v 3)<|.call (.g<|.bi .len) [(.v 0)] Wq) (yh sa pa) []::wX ia
def jt:Spec:=λ vs c K=>Wf c/\∃x k,vs=[sV x,nV k]/\x.length<=1000/\(sg x).getLast?=Kf 10/\k<x.length/\∀fin kind stop,Eb x k fin kind stop->K (.d<|uI fin kind stop) c
def iS:Spec:=λ vs c K=>Wf c/\∃x p a tab,vs=[sV x,nV p,.d<|.int a,nV tab]/\Ok3 x/\p<x.length/\0<tab/\K (.d<|.int<|eF x a tab p) c
structure RdS (x:Str)(k:Nat)(Ts:List (List Nat))(g:L2)(place:Nat):Prop where
 fl:(sg x).take k=Ts.flatten
 kx:k<=x.length
 ends:∀T∈Ts,T.getLast?=Kf 10
 g_:Fz (tx x (ge Ts Ts.length).1 (ge Ts Ts.length).2) (L0 (ge Ts Ts.length).1) g
 le:(ge Ts Ts.length).1<=(ge Ts Ts.length).2/\(ge Ts Ts.length).2<=x.length
 pl:(Ts.all Re.junkB=true/\place=0/\(ge Ts Ts.length).1=0)\/(place=aK x (ge Ts Ts.length).1/\Re.junkB ((sg x).drop (ge Ts Ts.length).1)=false/\(ge Ts Ts.length).1<x.length)
inductive LastS (x:Str)(Ts:List (List Nat))(k:Nat)(g:L2)(kd:Nat)(st:List Nat):Prop
 |whole (h:∀T∈Ts,Cl T [0,aG T]) (e:kd=0)
 |opened (Us:List (List Nat)) (U:List Nat) (md:Md) (lv:Nat) (e:Ts=Us++[U]) (h:∀T∈Us,Cl T [0,aG T]) (sc:scan st0 (U.map tr)=⟨md,lv,aG U,[0]⟩) (ct:ar (scan st0 (U.map tr))=(kd:Nat)) (k0:kd≠0) (ke:k=x.length) (k4:kd=4->st≠[]) (gs:g.st=st) (sl:st.length<=5000) (ps:∀p∈st,p<x.length/\(sg x)[p]?≠Kf 10)
abbrev AW (x:Str) (a:Int) (tab k place:Nat) (g:L2) (o6 o7 o8 o9 o10 yS mJ:Option D):List (Option D):=[Kf<|.str x,Kf<|.int a,Kf<|.int (tab:Nat),Kf<|.int (k:Nat),Kf<|.int (place:Nat),Kf<|.tup [.lst<|b9 g.br,.str g.last],o6,o7,o8,o9,o10,yS,mJ,Wq,Wq]
def Jw (x:Str)(a:Int)(tab m:Nat)(L:List<|Option D):Prop:=∃k place g Ts o6 o7 o8 o9 o10 yS mJ,L=AW x a tab k place g o6 o7 o8 o9 o10 yS mJ/\m+k=x.length/\g.br.length<=5000/\RdS x k Ts g place/\
 (Ts=[]\/∃kd st,o7=Kf (.lst<|ao st)/\o9=Kf (.int (kd:Nat))/\yS=Kf (.int (aG (Ts.getLast?.getD []):Nat))/\LastS x Ts k g kd st)
def Jo (x:Str):RdS x 0 [] (L0 0) 0:=⟨rfl,Zj _,nofun,nv,⟨Zv _,Zj _⟩,.inl ⟨rfl,rfl,rfl⟩⟩
def Co (z:Nat):[32,9,10].contains z=aZ z:=by show (match z==32 with|true=>true|false=>(match z==9 with|true=>true|false=>(match z==10 with|true=>true|false=>false)))=(z==32||z==9||z==10);cases z==32<;>cases z==9<;>cases z==10<;>rfl
def pe (h:Ab z=true):Re.space z=aZ z:=by
 unfold Ab at h;simp only[Xv,Bool.or_eq_true,Bool.not_eq_true'] at h
 cases b:aZ z with
 |true=>unfold aZ at b;simp only[Bool.or_eq_true,beq_iff_eq] at b;rcases b with (rfl|rfl)|rfl<;>rfl
 |false=>exact h.1.2.resolve_right<|by rw[b];decide
def RdS.next (O:Ok3 x){stop kind:Nat}{g fin:L2}(R:RdS x k Ts g place)(G:∀T∈Ts,Cl T [0,aG T])(h:Eb x k fin kind stop){j:Bool}(I:j=Re.junkB ((sg x).drop k)) :RdS x stop (Ts++[tx x k stop]) (if j=true then g else fin) (if j=true then place else aK x k)/\LastS x (Ts++[tx x k stop]) stop (if j=true then g else fin) kind fin.st:=by
 have M:=am x;obtain⟨P,o,q,t⟩:=h;have u:(sg x).drop k=tx x k stop++(sg x).drop stop:=by
  unfold tx;have:(sg x).drop stop=((sg x).drop k).drop (stop-k):=by rw[Xg,show k+(stop-k)=stop by exact U674 o]
  rw[this,List.take_append_drop]
 have w:(tx x k stop).length=stop-k:=by unfold tx;rw[List.length_take,Xp];exact U677 q
 have b:(tx x k stop).getLast?=Kf 10:=by
  rcases t with ⟨_,h,_⟩|⟨_,e,_⟩
  exact h;have:(sg x).drop stop=[]:=List.drop_of_length_le (by exact U634 e);rw[this,Zg] at u;rw[<-u];exact k7 O.hl<|by exact U676 o e
 have p:10∈tx x k stop:=List.mem_of_getLast? b;have f:Re.junkB (tx x k stop)=j:=by rw[I,u,nA p]
 have y:Ts.flatten.length=k:=by rw[<-R.fl,List.length_take];have:=R.kx;exact U675 this
 have ffz:Fz (tx x k stop) (L0 k) fin:=t.elim (λ h=>h.2.2.fz)<|λ h=>h.2.2.1;have i:ge (Ts++[tx x k stop]) (Ts++[tx x k stop]).length=if j=true then ge Ts Ts.length else (k,stop):=by rw[Qj];show ge _ (Ts.length+1)=_;rw[BG,f,y,w,show k+(stop-k)=stop by exact U674 o]
 have z:kind≠0->j=false:=λ U=>by
  rcases t with ⟨e,_⟩|⟨_,_,_,⟨J,lv,sc⟩,_⟩
  exact absurd e U;rw[<-f];exact rv sc p
 refine⟨⟨?_,q,?_,?_,?_,?_⟩,?_⟩;rw[List.flatten_append,<-R.fl];show _=_++(tx x k stop++[]);rw[Zg];unfold tx;have:stop=k+(stop-k):=by exact U673 o
 rw[<-List.take_add,<-this];intro T l;rcases Qu.mp l with h|h
 exact R.ends T h;rw[Zw.mp h];exact b;rw[i];cases j with|true=>rw[Wy rfl,Wy rfl];exact R.g_|false=>rw[Wg {4},Wg<|{4}];exact ffz
 rw[i];cases j with|true=>rw[Wy rfl];exact R.le|false=>rw[Wg<|{4}];exact⟨by show k<=stop;exact {o},q⟩
 rw[i];cases j with|true=>rw[Wy rfl,Wy rfl];refine R.pl.imp (λ ⟨h,r⟩=>⟨?_,r⟩) id;rw[List.all_append,h];show (true&&(Re.junkB (tx x k stop)&&true))=true;rw[f];rfl|false=>rw[Wg {4},Wg<|{4}];exact .inr ⟨rfl,I.symm,by show k<_;exact U672 o q⟩
 rcases t with ⟨e,_,W⟩|⟨L,Y,_,⟨J,lv,sc⟩,ct,k4,ps⟩
 refine .whole (λ T l=>?_) e;rcases Qu.mp l with h|h
 exact G T h;rw[Zw.mp h];exact W.cl b;rw[z L,Wg<|{4}];exact .opened Ts _ J lv rfl G sc ct L Y k4 rfl P.2 ps
section
variable {a:Int}{K:V->aa->Prop}{g:L2}
def HA {b:IE}{w:Nat}(f:Ex P n l c b<|sV<|ch z)(hb:Ex P n l c e<|sV<|ch w):Tx P (n+1) l c (.cmp .NotEq b e) (!(z==w)):=cM f hb λ K k=>by show K (!(ch z==ch w));rw[xS,show decide (z=w)=(z==w) from Bool.eq_iff_iff.mpr (by simp)];exact k
def Ie {Post:List D->Prop}{b:List Nat}{r:List IS}{K:F->Sg'->Prop}(h:∀f:V->aa->Prop,(∀xs,Post xs->f (.d<|.tup xs) c)->aU P n e l c f)(k:∀xs,Post xs->xs.length=b.length/\aJ P pr (n+1) r ⟨oL l b xs,c⟩ K):aJ P pr (n+2) (.unpT b e::r) ⟨l,c⟩ K:=h _ λ xs p=>k xs p
def pH {f:IE}{b:List IE}{e:Option Nat}{i:V->aa->Prop}(j:Ex P n l c f u)(h:pD P n l c b vs)(k:d8 P c e u vs i):aU P (n+1) (.call f b e) l c i:=j _<|h _ k
def Kl (p:P.isFn b=true)(e:P.fn b=jt)(W:Wf c)(q:x.length<=1000)(hl:(sg x).getLast?=Kf 10)(f:k<x.length){i j:IE}(r:Ex P (n+2) l c i<|sV x)(t:Ex P (n+1) l c j<|nV k)(o:V->aa->Prop)(h:∀xs,(∃fin kind stop,xs=[.lst<|b9 fin.br,.lst<|ao fin.st,.str fin.last,.int (kind:Nat),.int (stop:Nat)]/\Eb x k fin kind stop)->o (.d<|.tup xs) c):aU P (n+4) (.call (.g<|.val<|.ref b) [i,j] Wq) l c o:=by have u:Ex P (n+3) l c (.g<|.val<|.ref b) (.val<|.ref b):=xg;have w:pD P (n+3) l c [i,j] [sV x,nV k]:=x1 r<|x1 t x0;have f:d8 P c Wq (.val<|.ref b) [sV x,nV k] o:=⟨p,by rw[e];exact⟨W,x,k,rfl,q,hl,f,λ fin kind stop s=>⟨λ _ h=>h,h _ ⟨fin,kind,stop,rfl,s⟩⟩⟩⟩;exact pH u w f
def Ae {J L:Ww}(hs:P.isFn J=true)(M:P.fn J=jt)(hp:P.isFn L=true)(U:P.fn L=dc)(W:Wf c)(O:Ok3 x)(hm:m+k=x.length)(Y:k<x.length)(R:RdS x k Ts g place)(hT:∀T∈Ts,Cl T [0,aG T]){o6 o7 o8 o9 o10 yS mJ:Option D}{r0:List IS}(hgb:g.br.length<=5000) :aJ P (dom c) (n+40) (yh J L) ⟨cu<|AW x a tab k place g o6 o7 o8 o9 o10 yS mJ,c⟩ (WK P c q r0 G (Jw x a tab) m):=by
 have hlx:=am x;have I:x.length<=big:=Zk O.hx<|{4}
 have u:=eH O.hl (p:=k)<|by exact U633 Y
 obtain⟨z,r,p1,p2,p3,p4,p5⟩:=eZ O u;obtain⟨d1,d2,d3⟩:=a9 p1;refine Ie (n:=n+38) (l:=cu<|AW x a tab k place g o6 o7 o8 o9 o10 yS mJ) (Kl (n:=n+34) hs M W O.hx O.hl Y (xv rfl)<|xv rfl) ?_;intro _ e_;obtain⟨fin,kind,stop,rfl,h⟩:=e_;refine⟨rfl,?_⟩;obtain⟨R',LS⟩:=R.next O hT h rfl;have h1:=h.2.1;have h2:=h.2.2.1;refine aF (l:=cu<|AW x a tab k place g (Kf<|.lst<|b9 fin.br) (Kf<|.lst<|ao fin.st) (Kf<|.str fin.last) (Kf<|.int (kind:Nat)) (Kf<|.int (stop:Nat)) yS mJ) (v:=nV<|aG<|tx x k stop) (x8<|pj (xv rfl) (xv rfl) (xv rfl) I (Nat.le_of_lt h1)<|Nat.le_of_lt Y)<|aF (v:=nV<|aK x k) (uS hp U W O u (xv rfl)<|xv rfl) ?_;have f:∀{n:Nat} {j:Bool},j=Re.junkB ((sg x).drop k)->aJ P (dom c) (n+4) [.asg 3<|.v 10] ⟨cu (AW x a tab k (if j=true then place else aK x k) (if j=true then g else fin) (Kf<|.lst<|b9 fin.br) (Kf<|.lst<|ao fin.st) (Kf<|.str fin.last) (Kf<|.int (kind:Nat)) (Kf<|.int (stop:Nat)) (Kf<|.int (aG (tx x k stop):Nat))<|some<|.int (aK x k:Nat)),c⟩ (WK P c q r0 G (Jw x a tab) m):=λ {n j} w=>by obtain⟨R',LS⟩:=R.next O hT h w;exact aF (v:=nV stop) (xv rfl)<|jm (m':=x.length-stop) W (L':=AW x a tab stop (if j=true then place else aK x k) (if j=true then g else fin) _ _ _ _ _ _ _) (by exact U671 hm h1 h2) ⟨stop,_,_,Ts++[tx x k stop],_,_,_,_,_,_,_,rfl,by exact U565 h2,(by cases j with|true=>exact hgb|false=>exact h.1.1),R',.inr ⟨kind,fin.st,rfl,rfl,by rw[Qb];rfl,LS⟩⟩
 have z2:z=35->∃y o,r=y::o/\(sg x)[aK x k+1]?=Kf y:=λ e=>by
  have:=iW O.hl d1<|by exact U670 e
  cases r with|nil=>have:=congrArg List.length d2;rw[Xp] at this;have:(sg x).length-(aK x k+1)=0:=this;exact (U590 ‹_› this).elim|cons y o=>exact⟨y,o,rfl,(a9 d2).1⟩
 have jk:Re.junkB ((sg x).drop k)=(z==10||(z==35&&Re.hdB (λ c=>!Re.space c) r)):=by unfold Re.junkB;rw[p2];rfl
 refine cQ (q:=!(z==10)&&(!(z==35)||[32,9,10].contains ((sg x)[aK x k+1]?.getD 0))) (wD (HA (nX (xv rfl) (xv rfl) d1 I) xc) λ _=>JM (HA (nX (xv rfl) (xv rfl) d1 I) xc) λ b=>?_) (λ t=>?_) λ t=>?_;obtain⟨y,o,rfl,i⟩:=z2 (by simpa using b);rw[i];exact Do (nX (xv rfl) (bh (xv rfl)<|xc (d:=.int (1:Nat))) i I) xc;obtain⟨n10,b⟩:=Bool.and_eq_true_iff.mp t;have w:false=Re.junkB ((sg x).drop k):=by rw[jk,show (z==10)=false by simpa using n10];by_cases e:z=35;obtain⟨y,o,rfl,i⟩:=z2 e;rw[i,e] at b;have b:[32,9,10].contains y=true:=b;rw[Co] at b;rw[e];show false=(false||(true&&!Re.space y));rw[pe<|Xu.mp O.ab y<|Qg i,b];rfl;rw[beq_eq_false_iff_ne.mpr e];rfl
 exact aF (v:=nV<|aK x k) (xv rfl)<|aF (v:=.d<|.tup [.lst<|b9 fin.br,.str fin.last]) (jX (x1 (xv rfl)<|x1 (xv rfl) x0) rfl b2)<|aS<|f w;have w:true=Re.junkB ((sg x).drop k):=by
  rw[jk];by_cases Gl:z=10;rw[Gl];rfl;rw[beq_eq_false_iff_ne.mpr Gl] at t ⊢;have t:(!(z==35)||[32,9,10].contains ((sg x)[aK x k+1]?.getD 0))=false:=t;obtain⟨q1,q2⟩:=Bool.or_eq_false_iff.mp t;have e:z=35:=by simpa using q1
  obtain⟨y,o,rfl,i⟩:=z2 e;rw[i] at q2;have q2:[32,9,10].contains y=false:=q2;rw[Co] at q2;rw[e];show true=(false||(true&&!Re.space y));rw[pe<|Xu.mp O.ab y<|Qg i,q2];rfl
 exact aS<|f w
end
structure RdE (x:Str)(g:L2)(kd rows:Nat)(st:List Nat):Prop where
 ct:ar (fin x)=(kd:Nat)
 nm:kW (fin x)=(rows:Nat)
 two:2<=(ax<|fin x).length
 en:∀s,x5 x s->s=g
 k4:kd=4->g.st=st/\st≠[]/\st.length<=5000/\∀p∈st,p<x.length/\(sg x)[p]?≠Kf 10
def Ak (h:10∈U):0<aG U:=by obtain⟨a,b,rfl⟩:=List.append_of_mem h;rw[bP];show 0<aG a+((if 10=10 then 1 else 0)+aG b);rw[Wy rfl];exact {1}
def n3 {g:L2}{o:Nat}{st:List Nat}(O:Ok3 x)(f:sg x=Ts.flatten)(i:∀T∈Ts,T.getLast?=Kf 10)(L:LastS x Ts x.length g o st) :kh x=ge Ts Ts.length/\ax (fin x)=gL Ts Ts.length/\ar (fin x)=(o:Nat):=by
 cases L with|whole h e=>subst e;obtain⟨j,k⟩:=BD f h i;exact⟨j,k,xi f h⟩|opened Us U md lv e h sc p k0 ke k4 gs sl ps=>
  subst e;have b:sg x=Us.flatten++U:=by rw[f,List.flatten_append];show _++(U++[])=_;rw[Zg]
  have hl:=i U<|List.mem_append_right _<|.head _;have l:=List.mem_of_getLast? hl;obtain⟨j,k⟩:=x6 b h (λ T q=>i T<|List.mem_append_left _ q) sc (Ak l) hl;rw[Qj];exact⟨j,k,(tW b h).trans p⟩
def D3 {g:L2}{p:Nat}{st:List Nat}(O:Ok3 x)(R:RdS x x.length Ts g place)(f:Ts≠[])(L:LastS x Ts x.length g p st):RdE x g p (aG<|Ts.getLast?.getD []) st:=by
 have l:=am x;have u:sg x=Ts.flatten:=by rw[<-R.fl,<-l,List.take_length]
 obtain⟨k,q,w⟩:=n3 O u R.ends L;have b:0<Ts.length:=List.length_pos_iff.mpr f;have j:(gL Ts Ts.length).length=Ts.length+1:=by unfold gL;rw[Zu,List.length_range]
 refine⟨w,?_,by rw[q,j];exact {b},λ s e=>?_,λ r=>?_⟩;unfold kW;rw[q,j];have g1:=lT (Ts:=Ts)<|Zv Ts.length;have g2:=lT (Ts:=Ts) (n:=Ts.length) (i:=Ts.length-1)<|by exact U683
 rw[List.getD_eq_getElem?_getD] at g1 g2;rw[show Ts.length+1-1=Ts.length by exact U682,show Ts.length+1-2=Ts.length-1 by exact U681,g1,g2];obtain⟨U,t⟩:∃U,Ts.getLast?=Kf U:=⟨_,List.getLast?_eq_some_getLast f⟩;have o:Ts[Ts.length-1]?=Kf U:=by rw[<-Qp];exact t
 have:=li o;rw[show Ts.length-1+1=Ts.length by exact U680 b] at this;rw[this,bP,t];show ((aG _+aG U:Nat):Int)-_=(aG U:Nat);exact Int.le_antisymm {0} {0};refine R.g_ x (kh x).2 ?_ ?_ ?_ s ?_ e.2;rw[k];exact R.le.2;rw[k];exact R.le.1;unfold au tx;rw[k,List.drop_take];rfl;rw[<-k];exact e.1;cases L with|whole h e=>exact (U678 r e).elim|opened Us U md lv e h sc ct k0 ke y z sl G=>exact⟨z,y r,sl,G⟩
def wl (O:Ok3 x)(h:z∈sg x):Re.wordC z=lower.contains z:=by
 have b:=Xu.mp O.ab z h;unfold Ab at b;simp only[Xv,Bool.or_eq_true,Bool.not_eq_true'] at b
 cases hl:lower.contains z with
 |true=>
  have:∀z∈lower,Re.wordC z=true:={4}
  exact this z<|List.contains_iff_mem.mp hl
 |false=>exact b.2.resolve_right<|by rw[hl];decide
def Bd {ws v:List Nat}(f:ws.all Re.wordC=true):Re.hit ws v=(v.takeWhile Re.wordC==ws):=by
 induction ws generalizing v with
 |nil=>cases v with|nil=>rfl|cons z v=>show (true&&!Re.wordC z)=_;rw[Xw];cases Re.wordC z<;>rfl
 |cons w ws ih=>rw[List.all_cons,Xv] at f;cases v with|nil=>rfl|cons z v=>have:=ih (v:=v) f.2;unfold Re.hit at this ⊢;rw[Xw];show ((w==z&&ws.isPrefixOf v)&&Re.bnd (v.drop ws.length))=_;cases b:w==z with|true=>obtain rfl:=beq_iff_eq.mp b;rw[f.1,Bool.true_and,this];show _=((w==w)&&_);rw[b];rfl|false=>show false=_;cases Re.wordC z with|false=>rfl|true=>show false=(z==w&&_);rw[show (z==w)=false from by rw[beq_eq_false_iff_ne] at b ⊢;exact λ e=>b e.symm];rfl
def Hs {p q:Nat->Bool}{v:List Nat}:(∀z∈v,p z=q z)->v.takeWhile p=v.takeWhile q:=by induction v with|nil=>intro _;exact rfl|cons z v rH=>intro h;rw[Xw,Xw,h z<|.head _,rH λ y b=>h y<|.tail _ b]
def cO (x:Str)(k:Nat):List Nat:=((sg x).drop k).takeWhile λ z=>lower.contains z
def gO (w:List Nat):Bool:=Re.five.any λ ws=>w==ws
def oA (O:Ok3 x)(k:Nat):Re.tryB ((sg x).drop k)=gO (cO x k):=by
 have e:cO x k=((sg x).drop k).takeWhile Re.wordC:=Hs λ z j=>(wl O<|List.mem_of_mem_drop j).symm;rw[e];unfold Re.tryB gO;have b:∀i∈Re.five,i.all Re.wordC=true:={4}
 generalize Re.five=f at b ⊢;induction f with|nil=>rfl|cons i f ih=>rw[List.any_cons,List.any_cons,Bd<|b i<|.head _,ih λ w h=>b w<|.tail _ h]
def qZ (O:Ok3 x)(h:z∈sg x):Re.space z=(Re.blank z||z==10):=by rw[pe<|Xu.mp O.ab z h];unfold aZ Re.blank;rfl
def tf (O:Ok3 x):(∀T∈Ts,Cl T [0,aG T])->(∀T∈Ts,T.getLast?=Kf 10)->Ts.all Re.junkB=true->(∀T∈Ts,∀z∈T,z∈sg x)->Re.closeB Ts.flatten=false:=by
 induction Ts with|nil=>intro _ _ _ _;decide|cons T Ts rH=>
  intro h l f o;rw[List.all_cons,Xv] at f;have i:=List.mem_of_getLast?<|l T<|.head _;obtain⟨b,w,rfl,t,u⟩:=jK (h T<|.head _) f.1 i;have p:=rH (λ T e=>h T<|.tail _ e) (λ T e=>l T<|.tail _ e) f.2 λ T e=>o T<|.tail _ e;unfold Re.closeB at p ⊢;have j:∀z∈b,Re.space z=true:=λ z q=>by have k:z∈sg x:=o _ (.head _) z<|List.mem_append_left _ q;rw[qZ O k,Xu.mp t z q];rfl
  show Re.tryB (((b++(w++[10]))++Ts.flatten).dropWhile Re.space)=false;rw[Qv,List.dropWhile_append_of_pos j];rcases u with rfl|⟨r,rfl,_⟩
  exact p;have:((35::r++[10])++Ts.flatten).dropWhile Re.space=35::((r++[10])++Ts.flatten):=rfl;rw[this];rfl
def AG {g:L2}{P:Nat}{st:List Nat}(O:Ok3 x)(R:RdS x x.length Ts g place)(L:LastS x Ts x.length g P st):dY x=gO (cO x place):=by
 have l:=am x;have o:sg x=Ts.flatten:=by rw[<-R.fl,<-l,List.take_length]
 obtain⟨W,h2,h3⟩:=n3 O o R.ends L;unfold dY;rw[W];rcases R.pl with ⟨f,rfl,e⟩|⟨rfl,f,t⟩
 rw[e,<-oA O 0];show Re.closeB (sg x)=Re.tryB (sg x);have j:∀T∈Ts,Cl T [0,aG T]:=by cases L with|whole h e=>exact h|opened Us U md lv e h sc=>subst e;have I:=List.mem_append_right Us (Zw.mpr rfl:U∈[U]);have:=Xu.mp f U I;rw[rv sc<|List.mem_of_getLast?<|R.ends U I] at this;cases this
 rw[o,tf O j R.ends f<|λ T j z k=>by rw[o];exact List.mem_flatten.mpr ⟨T,j,k⟩]
 cases Ts with|nil=>rfl|cons T Ts=>
  rw[List.all_cons,Xv] at f;obtain⟨b,w,rfl,i,Y⟩:=jK (j T<|.head _) f.1<|List.mem_of_getLast?<|R.ends T<|.head _;show false=Re.tryB ((b++(w++[10]))++Ts.flatten)
  cases b with
  |nil=>rcases Y with rfl|⟨w',rfl,_⟩<;>rfl
  |cons z b=>
   rw[List.all_cons,Xv] at i;have:z=32\/z=9:=by have:=i.1;unfold Re.blank at this;simpa using this
   rcases this with rfl|rfl<;>rfl
 generalize (ge Ts Ts.length).1=q at *
 rw[<-oA O];obtain⟨z,r,J,M,p3,p4,p5⟩:=eZ O<|eH O.hl (p:=q)<|by exact U633 t
 rw[J];unfold Re.closeB;have k:Re.space z=false:=by rw[qZ O<|Qg (a9 J).1,p3];unfold Re.junkB at f;rw[M] at f;have f:(z==10||_)=false:=f;exact (Bool.or_eq_false_iff.mp f).1
 have key:∀w:List Nat,(∀y∈w,y∈sg x)->w.dropWhile Re.blank=z::r->w.dropWhile Re.space=z::r:=λ w=>by induction w with|nil=>intro _ h;cases h|cons a w ih=>intro u h;rw[List.dropWhile_cons] at h ⊢;rw[qZ O<|u a<|.head _];cases i:Re.blank a with|true=>rw[i] at h;exact ih (λ y G=>u y<|.tail _ G) h|false=>rw[i] at h;obtain⟨rfl,rfl⟩:=List.cons.inj h;rw[qZ O<|u a<|.head _,i] at k;rw[k];rfl
 rw[key _ (λ y G=>List.mem_of_mem_drop G) M]
noncomputable def ee:Str:=⟨#[114,101,102,117,115,101,100]⟩
structure Due (x:Str)(a:Int)(tab:Nat)(d:List D)(g:L2)(p:Nat):Prop where
 e:d=[.int<|ar<|fin x,.int<|kW<|fin x,.tup<|b9 g.br,.bool<|g.last==⟨#[58]⟩,.bool<|dY x,if ar (fin x)=4 then .int (eF x a tab p) else .str ee]
 two:2<=(ax<|fin x).length
 en:∀s,x5 x s->s=g
 k4:ar (fin x)=4->g.st.getLast?=Kf p/\p<x.length/\(sg x)[p]?≠Kf 10
section
variable {a:Int}{K:V->aa->Prop}{g:L2}
def AV (w:List Nat):[(⟨#[114,101,116,117,114,110]⟩:Str),⟨#[98,114,101,97,107]⟩,⟨#[99,111,110,116,105,110,117,101]⟩,⟨#[114,97,105,115,101]⟩,⟨#[112,97,115,115]⟩].any (·==⟨w.toArray⟩)=gO w:=by
 have h:∀b:List Nat,((⟨b.toArray⟩:Str)==⟨w.toArray⟩)=(w==b):=λ b=>by rw[Bool.eq_iff_iff,beq_iff_eq,beq_iff_eq];exact⟨λ q=>by injection q with q;simpa using q.symm,λ q=>by rw[q]⟩
 show (((⟨[114,101,116,117,114,110].toArray⟩:Str)==_)||(((⟨[98,114,101,97,107].toArray⟩:Str)==_)||(((⟨[99,111,110,116,105,110,117,101].toArray⟩:Str)==_)||(((⟨[114,97,105,115,101].toArray⟩:Str)==_)||(((⟨[112,97,115,115].toArray⟩:Str)==_)||false)))))=_;rw[h,h,h,h,h];rfl
def b6:6<=big:={4}
def vY {M:Ww}(hi:P.isFn M=true)(T:P.fn M=iS)(W:Wf c)(O:Ok3 x)(U:0<tab)(R:RdS x x.length Ts g place)(Y:Ts≠[])(hgb:g.br.length<=5000){f:Nat}{st:List Nat}(L:LastS x Ts x.length g f st){o6 o8 o10 mJ:Option D}(hK:∀d p,Due x a tab d g p->K (.d<|.lst d) c):aJ P (dom c) (n+40) (wX M) ⟨cu<|AW x a tab x.length place g o6 (Kf<|.lst<|ao st) o8 (Kf<|.int (f:Nat)) o10 (Kf<|.int (aG (Ts.getLast?.getD []):Nat)) mJ,c⟩ (EndP c K):=by
 have hlx:=am x;have hx:x.length<=big:=Zk O.hx<|{4}
 have E:=D3 O R Y L;have hw:=AG O R L;have u:place<x.length:=by
  rcases R.pl with ⟨_,rfl,_⟩|⟨rfl,_,h⟩
  refine Nat.pos_of_ne_zero λ e=>?_;have:=O.hl;rw[List.eq_nil_of_length_eq_zero<|hlx.trans e] at this;cases this;obtain⟨_,_,_,_,_,_,h⟩:=eZ O (eH O.hl (p:=(ge Ts Ts.length).1)<|by exact U633 h);exact h
 generalize hro:aG (Ts.getLast?.getD [])=rows at *
 let S:=λ (b:Nat) (w:List Nat)=>([Kf<|.str x,Kf<|.int a,Kf<|.int (tab:Nat),Kf<|.int (x.length:Nat),Kf<|.int (b:Nat),Kf<|.tup [.lst<|b9 g.br,.str g.last],o6,Kf<|.lst<|ao st,o8,Kf<|.int (f:Nat),o10,Kf<|.int (rows:Nat),mJ,Kf<|.str ⟨w.toArray⟩,Wq]:List<|Option D);refine aF (l:=cu<|AW x a tab x.length place g o6 (Kf<|.lst<|ao st) o8 (Kf<|.int (f:Nat)) o10 (Kf<|.int (rows:Nat)) mJ) (v:=sV ⟨#[]⟩) xc ?_;refine gX (L:=S place []) (λ m L=>∃b w,L=S b w/\w++cO x b=cO x place/\m+b=x.length/\b<x.length) (x.length-place) ⟨place,[],rfl,rfl,by exact U641 u,u⟩ ?_;intro m _ e_;obtain⟨b,w,rfl,e,hm,hlt⟩:=e_;obtain⟨z,r,hd⟩:∃z r,(sg x).drop b=z::r:=⟨_,_,List.drop_eq_getElem_cons<|by exact U633 hlt⟩;obtain⟨d1,d2,d3⟩:=a9 hd;have ew:cO x b=if lower.contains z=true then z::cO x (b+1) else []:=by unfold cO;rw[hd,d2,Xw]
 refine⟨lower.contains z,Do (nX (xv rfl) (xv rfl) d1 hx) xc,λ i=>?_,λ i=>?_⟩;rw[ew,Wy i] at e;have hz:z≠10:=λ q=>by rw[q] at i;exact absurd i<|{4}
 have h3:=iW O.hl d1 hz;have hwl:w.length<=x.length:=by have h1:=congrArg List.length e;have h2:(cO x place).length<=((sg x).drop place).length:=(List.takeWhile_sublist _).length_le;rw[Qj] at h1;rw[Xp] at h2;exact U697 h1 h2
 have ea:(⟨w.toArray⟩:Str)++ch z=⟨(w++[z]).toArray⟩:=by show (⟨w.toArray++#[z]⟩:Str)=_;congr 1;simp
 refine aF (v:=sV ⟨(w++[z]).toArray⟩) (by rw[<-ea];exact GV (xv rfl) (nX (xv rfl) (xv rfl) d1 hx) (by show w.toArray.size+1<=big;have:=O.hx;rw[Xq];exact Zk (show w.length+1<=1001 by exact {hwl,this})<|{4})) ?_;exact aF (bh (xv rfl)<|xc (d:=.int (1:Nat)))<|jm (m':=m-1) W (L':=S (b+1)<|w++[z]) (by exact U695 hm h3) ⟨b+1,w++[z],rfl,by rw[Qv];exact e,by exact U694 hm h3,by exact U693 h3⟩;rw[ew,Wg (by rw[i];decide),Zg] at e;subst e;refine aS<|aF (v:=sV ee) xc ?_
 have o:∀{t:D} {p:Nat},t=(if ar (fin x)=4 then .int (eF x a tab p) else .str ee)->(ar (fin x)=4->g.st.getLast?=Kf p/\p<x.length/\(sg x)[p]?≠Kf 10)->
   aJ P (dom c) (n+36) [.ret<|some<|.lst [(.v 9),(.v 11),(.call (.g<|.bi .tuple) [(.item (.v 5)<|.c<|.int 0)] Wq),(.cmp .Eq (.item (.v 5)<|.c<|.int 1)<|.c<|.str ⟨#[58]⟩),(.cmp .In (.v 13)<|.lst [(.c<|.str ⟨#[114,101,116,117,114,110]⟩),(.c<|.str ⟨#[98,114,101,97,107]⟩),(.c<|.str ⟨#[99,111,110,116,105,110,117,101]⟩),(.c<|.str ⟨#[114,97,105,115,101]⟩),(.c<|.str ⟨#[112,97,115,115]⟩)] Wq),(.v 14)] Wq]
    ⟨(cu<|S b<|cO x place).set 14<|some<|.d t,c⟩ (EndP c K):=λ {t p} U I=>by
  have hbr:(b9 g.br).length<=big:=by rw[gE];exact ba hgb
  refine jB (v:=.d<|.lst [.int (f:Nat),.int (rows:Nat),.tup<|b9 g.br,.bool<|g.last==⟨#[58]⟩,.bool<|gO<|cO x place,t]) (ja (vs:=[nV f,nV rows,.d<|.tup<|b9 g.br,.d<|.bool<|g.last==⟨#[58]⟩,.d<|.bool<|gO<|cO x place,.d t]) (x1 (xv rfl)<|x1 (xv rfl)<|x1 (kN xg (x1 (v:=.d<|.lst<|b9 g.br) (lq (xv rfl) xc λ K k=>⟨by show 2<=big;decide,0,_,rfl,rfl,k⟩) x0) λ K k=>⟨rfl,hbr,k⟩)<|x1 (Er (lq (d:=.str g.last) (xv rfl) xc λ K k=>⟨by show 2<=big;decide,1,_,rfl,rfl,k⟩) xc λ K k=>k)<|x1 (Er (xv rfl) (ja (ds:=[.str ⟨#[114,101,116,117,114,110]⟩,.str ⟨#[98,114,101,97,107]⟩,.str ⟨#[99,111,110,116,105,110,117,101]⟩,.str ⟨#[114,97,105,115,101]⟩,.str ⟨#[112,97,115,115]⟩]) (x1 xc<|x1 xc<|x1 xc<|x1 xc<|x1 xc x0) rfl b5) λ K k=>⟨_,rfl,by rw[AV];exact k⟩)<|x1 (xv rfl) x0) rfl b6)<|cR W<|hK _ p ⟨?_,E.two,E.en,I⟩;rw[<-E.ct,<-E.nm,<-hw,U]
 refine cQ (q:=decide<|f=4) (cM (xv rfl) xg λ K k=>?_) (λ i=>?_) λ i=>?_;show K ((f:Int)==4);rw[show ((f:Int)==4)=decide (f=4) from Bool.eq_iff_iff.mpr (by simp;exact U692)];exact k;have I:f=4:=of_decide_eq_true i;obtain⟨gs,sn,sl,ps⟩:=E.k4 I;obtain⟨p,hp⟩:∃p,st.getLast?=Kf p:=⟨_,List.getLast?_eq_some_getLast sn⟩;have y:=List.mem_of_getLast? hp;have J:ar (fin x)=4:=by rw[E.ct,I];rfl
 refine aF (v:=.d<|.int<|eF x a tab p) (II hi (x1 (xv rfl)<|x1 (v:=nV p) (lq (xv rfl) xc λ K k=>?_)<|x1 (xv rfl)<|x1 (xv rfl) x0) λ K' h=>by rw[T];exact⟨W,x,p,a,tab,rfl,O,(ps p y).1,U,h⟩)<|aS<|o (p:=p) (by rw[Wy J]) λ _=>⟨by rw[gs];exact hp,ps p y⟩;have G:=List.length_pos_iff.mpr sn;have hpe:st[st.length-1]?=Kf p:=by rw[<-Qp];exact hp
 refine lE (j:=st.length-1) ?_ (by exact U691 G) (ba sl)<|by rw[hpe];exact k
 unfold seqIndex?;rw[Wy<|show (-1:Int)<0 by decide];dsimp only;rw[Wy<|by simp;exact U690 G];congr 1;exact U689;have J:ar (fin x)≠4:=by rw[E.ct];have:=of_decide_eq_false i;exact U688 this
 exact aS<|o (p:=0) (by rw[Wg J]) λ h=>absurd h J
def zR {o q r:Ww}(J:P.isFn o=true)(t:P.fn o=jt)(M:P.isFn q=true)(u:P.fn q=dc)(hi:P.isFn r=true)(w:P.fn r=iS)(W:Wf c)(O:Ok3 x)(Y:0<tab)(hK:∀d g p,Due x a tab d g p->K (.d<|.lst d) c):aJ P (dom c) (n+60) (qx o q r) ⟨start [sV x,.d<|.int a,nV tab] 12,c⟩ (EndP c K):=by
 have f:=am x;have hx:x.length<=big:=Zk O.hx<|{4}
 have b:0<x.length:=Nat.pos_of_ne_zero λ e=>by have:=O.hl;rw[List.eq_nil_of_length_eq_zero<|f.trans e] at this;cases this
 refine aF (v:=.d<|.int 0) xc<|aF (v:=.d<|.int 0) xc<|aF (v:=.d<|.tup [.lst [.tup [.int 0,.int 0]],.str ⟨#[]⟩]) (jX (ds:=[.lst [.tup [.int 0,.int 0]],.str ⟨#[]⟩]) (x1 (ja (ds:=[.tup [.int 0,.int 0]]) (x1 (jX (ds:=[.int 0,.int 0]) (x1 xc<|x1 xc x0) rfl b2) x0) rfl b1)<|x1 xc x0) rfl b2) ?_;refine gX (L:=AW x a tab 0 0 (L0 0) Wq Wq Wq Wq Wq Wq Wq) (Jw x a tab) x.length ⟨0,0,L0 0,[],_,_,_,_,_,_,_,rfl,rfl,{4},Jo x,.inl rfl⟩ ?_;intro m _ e_;obtain⟨k,place,g,G,o6,o7,o8,o9,o10,yS,mJ,rfl,I,i,R,h⟩:=e_;refine⟨decide<|k<x.length,A6 (xv rfl)<|jQ (xv rfl) hx,λ y=>?_,λ y=>?_⟩;have j:=of_decide_eq_true y;have hT:∀T∈G,Cl T [0,aG T]:=by
  rcases h with rfl|⟨kd,st,_,_,_,L⟩
  nofun;cases L with|whole h e=>exact h|opened Us U md lv e h sc ct k0 ke=>exact (U687 j ke).elim
 exact Ae (n:=n+15) J t M u W O I j R hT i;have j:k=x.length:=by have:=of_decide_eq_false y;exact U585 I this
 subst j;rcases h with rfl|⟨kd,st,rfl,rfl,rfl,L⟩
 have:=congrArg List.length R.fl;rw[List.length_take,f] at this;have:min x.length x.length=0:=this;exact (U686 b this).elim;have z:G≠[]:=λ e=>by have:=congrArg List.length R.fl;rw[e,List.length_take,f] at this;have:min x.length x.length=0:=this;exact U686 b this
 exact aS<|vY (n:=n+16) hi w W O Y R z i L λ d p h=>hK d g p h
end
def ww (ir:Ww):List IS:=[.assert (.cmp .Eq (.attr (.v 0) n6)<|.g<|.d<|.int 4),.asg 1 (.attr (.v 0) f5),.asg 2 (.attr (.v 0) cf),.asg 3 (.call (.g<|.bi .len) [(.v 2)] Wq),.asg2 4 5 (.bin .Add (.meth (.v 2) .rfind [(.c<|.str ⟨#[10]⟩),(.c<|.int 0),(.v 1)])<|.c<|.int 1),.asg 1 (.bin .Add (.v 1)<|.c<|.int 1),.while_ (.cmp .Lt (.v 1) (.v 3)) [.asg 6 (.call (.g<|.val<|.ref ir) [(.v 2),(.v 1)] Wq),.if_ (.v 6) [.asg 1 (.bin .Sub (.meth (.v 6) .end_ [])<|.c<|.int 1),.asg 7 (.c<|.int 0),.brk] [.asg2 5 1 (.bin .Add (.meth (.v 2) .find [(.c (.str ⟨#[10]⟩)),(.v 1)]) (.c (.int 1)))]] [.asg2 1 5 (.v 4),.while_ (.cmp .In (.item (.v 2) (.v 1)) (.c (.str ⟨#[32,9]⟩))) [.asg 1 (.bin .Add (.v 1) (.c (.int 1)))] [],.asg 7 (.attr (.v 0) dR)],.ret (Kf (.bin .Add (.call (.g (.bi .len)) [(.meth (.slice (.v 2) (.v 5) (.v 1)) .exp [(.attr (.v 0) dW)])] Wq) (.v 7)))]
def vA (s2 ir:Ww):List IS:=.expr (.umeth (.v 0) s2 Fn [])::ww ir
def zu (k:0<n):∀{a:Array Nat},(∀z∈w,z≠10/\z≠13)->(w.foldl (eb n) (a,a.size)).1.size=w.foldl (dj n) a.size:=by
 induction w with|nil=>intro a _;exact rfl|cons z w rH=>
  intro a h;have b:=h z<|.head _;have j:∀y∈w,y≠10/\y≠13:=λ y q=>h y<|.tail _ q;rewrite[List.foldl_cons,List.foldl_cons];by_cases e:z=9;subst e;have f:eb n (a,a.size) 9=(a++Array.replicate (n-a.size % n) 32,a.size+(n-a.size % n)):=rfl;have i:dj n a.size 9=a.size+n-a.size % n:=rfl;rw[f,i];have l:a.size+(n-a.size % n)=(a++Array.replicate (n-a.size % n) 32).size:=by rw[Array.size_append,Array.size_replicate]
  have o:a.size+n-a.size % n=a.size+(n-a.size % n):=by have:=Nat.mod_lt a.size k;exact U714 this
  rw[o,l];exact rH j;have f:eb n (a,a.size) z=(a.push z,a.size+1):=by unfold eb;rw[Wg (show ¬(z==9)=true by simpa using e),Wg<|show ¬(z==10||z==13)=true by simp[b.1,b.2]]
  have i:dj n a.size z=a.size+1:=by unfold dj;rw[Wg b.1,Wg e]
  rw[f,i,show a.size+1=(a.push z).size by rw[Array.size_push]];exact rH j
def ti :∀{k:Nat},(∀z∈w,z≠10/\z≠9)->w.foldl (dj n) k=k+w.length:=by
 induction w with|nil=>intro k _;exact rfl|cons z w rH=>
  intro k h;have e:dj n k z=k+1:=by unfold dj;rw[Wg (h z<|.head _).1,Wg (h z<|.head _).2]
  rw[List.foldl_cons,e,rH (k:=k+1) λ y q=>h y (.tail _ q),Qz];exact Om.an {1} {1}
def BJ (f:0<n)(h:∀z∈w,z≠10/\z≠13):(Bv ⟨w.toArray⟩ n).length=fg n w:=by
 unfold Bv;by_cases e:(!w.toArray.contains 9)=true;rw[Wy e];unfold fg;have i:9∉w:=by simpa using e
 rw[ti λ z b=>⟨(h z b).1,λ q=>i<|q▸b⟩];show w.toArray.size=_;simp;rw[Wg e];show (w.foldl (eb n) (#[],(#[]:Array Nat).size)).1.size=_;rw[zu f h];rfl
def AJ (x:Str)(i:Nat):Prop:=i=0\/(sg x)[i-1]?=Kf 10
def vq (hi:AJ x i)(b:i<=j):fg tab ((sg x).take j)=fg tab (((sg x).drop i).take<|j-i):=by
 have e:(sg x).take j=(sg x).take i++((sg x).drop i).take (j-i):=by rw[<-List.take_add,show i+(j-i)=j by exact U632 b]
 rw[e];unfold fg;rw[List.foldl_append];rcases hi with rfl|h
 rfl;cases i with|zero=>rfl|succ i=>have hi:=(Qw.mp h).1;have h:(sg x)[i]?=Kf 10:=h;rw[List.take_add_one,h,List.foldl_append];rfl
section
variable {p:Nat}{a:Int}{e1 e2:IE}
def IP (x:Str)(j:Nat):V:=match Re.itemR j ((sg x).drop j) with|some e=>.mt e|none=>.d .none
def Lb {i:Ww}(T:TextOk x)(w:P.isFn i=true)(j:P.fn i=aP Re.itemC){p:Nat}(o:p<x.length)(y:Ex P (n+2) l c e1<|sV x)(z:Ex P (n+1) l c e2<|nV p):Ex P (n+4) l c (.call (.g<|.val<|.ref i) [e1,e2] Wq) (IP x p):=by
 have hl:=am x;have r:=T.len;have I:x.length<=big:=U63 r;have e:((sg x).take x.length).drop p=(sg x).drop p:=by rw[<-hl,List.take_length]
 have t:=nr x (p:=p) (q:=x.length) (st:=p) (code:=Re.itemC) (U58 o)<|Zv _;rw[e] at t;have f:Re.Low ((sg x).drop p):=e▸jL T p x.length;have b:((sg x).drop p).length<=1048576:=by rw[Xp];unfold big at r;exact U200 r
 have J:=Re.item_ok (text:=x.cps) (lim:=x.length) (st:=p) t f {b};refine kN xg (x1 y<|x1 z x0) λ L h=>⟨w,?_⟩;rw[j];refine⟨x,p,x.length,_,_,.inl ⟨rfl,rfl⟩,by exact U58 o,Zv _,I,⟨?_,?_⟩,.inl ⟨J,by show 1<=x.length-p;exact U198 o⟩,?_⟩;exact {1};exact Gi {Xx 3 b};unfold IP at h;cases u:Re.itemR p ((sg x).drop p) with|none=>rw[u] at h;exact⟨λ _ q=>q,h⟩|some e=>rw[u] at h;exact⟨λ _ q=>q,h⟩
def Bs (C:aa)(L:List<|Option D):∀(M:Sl),yU (M++cu L) C C M.length (cu L):=by induction L with|nil=>intro M;exact trivial|cons o L rH=>intro M;have r:=rH<|M++[o.map V.d];rw[Qv,Qj] at r;cases o with|none=>exact r|some d=>exact⟨⟨.d d,by unfold av;rw[List.getElem?_append_right<|Zv _,Nat.sub_self];rfl,vD _ _ _⟩,r⟩
noncomputable def It (k:Nat)(L:List<|Option D):Sl:=Kf (.obj k)::cu L
def CA (W:Wf c)(b:k∈dom c)(L:List<|Option D):Wk (dom c) ⟨It k L,c⟩ ⟨It k L,c⟩:=⟨⟨⟨.obj k,rfl,.inl ⟨rfl,b⟩⟩,Bs c L [Kf<|.obj k]⟩,rfl,W.w,λ _ h=>h⟩
structure IndOk (P:Pm)(c:aa)(k:Nat)(x:Str)(a:Int)(tab p:Nat):Prop where
 W:Wf c
 kd:k∈dom c
 O:Ok3 x
 T:TextOk x
 t1:1<=tab
 t8:tab<=8
 px:p<x.length
 pn:(sg x)[p]?≠Kf 10
 ct:∀{n:Nat} {l:Sl},av l 0=Kf (.obj k)->Ex P (n+2) l c (.attr (.v 0) n6) (.d<|.int 4)
 op:∀{n:Nat} {l:Sl},av l 0=Kf (.obj k)->Ex P (n+2) l c (.attr (.v 0) f5) (nV p)
 co:∀{n:Nat} {l:Sl},av l 0=Kf (.obj k)->Ex P (n+2) l c (.attr (.v 0) cf) (sV x)
 iw:∀{n:Nat} {l:Sl},av l 0=Kf (.obj k)->Ex P (n+2) l c (.attr (.v 0) dR) (.d<|.int a)
 tb:∀{n:Nat} {l:Sl},av l 0=Kf (.obj k)->Ex P (n+2) l c (.attr (.v 0) dW) (nV tab)
def rY (I:IndOk P c k x a tab p){ex v:Int}(hi:AJ x i)(b:i<=j)(L:j<=x.length)(M:∀q,i<=q->q<j->(sg x)[q]?≠Kf 10)(R:av l 0=Kf (.obj k))(h:av l 1=Kf (nV j))(o:av l 2=Kf (sV x))(T:av l 5=Kf (nV i))(U:av l 7=Kf (.d<|.int ex))(W:v=(fg tab ((sg x).take j):Nat)+ex) (Y:∀l,G (.ret<|.d<|.int v) ⟨l,c⟩):aJ P (dom c) (n+12) [.ret<|some<|.bin .Add (.call (.g<|.bi .len) [(.meth (.slice (.v 2) (.v 5)<|.v 1) .exp [(.attr (.v 0) dW)])] Wq)<|.v 7] ⟨l,c⟩ G:=by
 have t:x.length<=big:=Zk I.O.hx<|{4}
 have hlx:=am x;have hw:∀z∈((sg x).drop i).take (j-i),z≠10/\z≠13:=λ z y=>by refine⟨λ e=>?_,λ e=>?_⟩;subst e;obtain⟨m,r⟩:=List.mem_iff_getElem?.mp y;have f:=(Qw.mp r).1;rw[List.length_take,Xp] at f;rw[List.getElem?_take_of_lt (by exact U712 f),Zx] at r;exact M (i+m) (by exact {1}) (by exact U710 f) r;subst e;have:=Xu.mp I.O.ab 13<|List.mem_of_mem_drop<|List.mem_of_mem_take y;exact absurd this<|{4}
 have J:=BJ (n:=tab) I.t1 hw;have hb:(Bv ⟨(((sg x).drop i).take<|j-i).toArray⟩ tab).length<=big:=by
  rw[J];unfold fg;have hS:∀(w:List Nat) (q:Nat),w.foldl (dj tab) q<=q+8*w.length:=λ w=>by
   induction w with|nil=>intro q;exact Zv _|cons z w ih=>
    intro q;rw[List.foldl_cons,Qz];have h:=ih<|dj tab q z;have o:dj tab q z<=q+8:=by have:=I.t8;unfold dj;split;exact {1};split;exact {Nat.sub_le (q+tab)<|q % tab,this};exact {1}
    exact U521 h o
  have h:=hS (((sg x).drop i).take<|j-i) 0;rw[List.length_take,Xp] at h;have:=I.O.hx;exact Zk (show _<=8000 by exact U708 h this)<|{4}
 refine jB (v:=.d<|.int v) ?_<|Y _;rw[W,vq hi b,<-J];exact yD (jQ (jS (u:=sV ⟨(((sg x).drop i).take<|j-i).toArray⟩) (vs:=[nV tab]) (pj (xv o) (xv T) (xv h) t b<|Zk b L) rfl (x1 (I.tb R) x0) λ K k=>⟨rfl,tab,rfl,⟨I.t1,I.t8⟩,Zk (by show (List.toArray _).size<=x.length;rw[Xq,List.length_take,Xp];exact U707) t,k⟩) hb)<|xv U
def Hy :∀{q:Nat},q<(w.takeWhile Re.blank).length->w[q]?≠Kf 10:=by induction w with|nil=>intro q h;cases h|cons z w rH=>intro q h;rw[Xw] at h;cases b:Re.blank z with|false=>rw[b] at h;cases h|true=>rw[b] at h;cases q with|zero=>intro e;rw[Option.some.inj e] at b;exact absurd b<|by decide|succ q=>exact rH<|Nat.lt_of_succ_lt_succ h
def sy (b:k<=q)(f:q<aK x k):(sg x)[q]?≠Kf 10:=λ e=>by unfold aK at f;exact Hy (w:=(sg x).drop k) (q:=q-k) (by exact U631 b f)<|by rw[Zx,show k+(q-k)=q by exact U632 b];exact e
def Ld {e:Int}(h:av l i=Kf (.mt e)):Tx P (n+2) l c (.v i) true:=λ f k=>by show aU P (n+1) (.v i) l c λ u b=>bJ b u λ r=>f r b;exact xv h _ k
def KW (h:av l i=Kf (.d .none)):Tx P (n+2) l c (.v i) false:=λ e k=>by show aU P (n+1) (.v i) l c λ u b=>bJ b u λ r=>e r b;exact xv h _ k
def Dc (j:Nat):IP x j=if mU x j=true then .mt (aK x j+1:Nat) else .d .none:=by unfold IP Re.itemR mU aK;by_cases h:Re.hdB Re.itemB (((sg x).drop j).dropWhile Re.blank)=true;rw[Wy h,Wy h];rw[Wg h,Wg h]
def Ji {r:List IS}(h:G .brk σ):aJ P (dom c) (n+2) (.brk::r) σ G:=h
def xP {ir:Ww}(hj:P.isFn ir=true)(hjf:P.fn ir=aP Re.itemC)(I:IndOk P c k x a tab p)(hG:∀l,G (.ret<|.d<|.int<|eF x a tab p) ⟨l,c⟩):aJ P (dom c) (n+60) (ww ir) ⟨It k [Wq,Wq,Wq,Wq,Wq,Wq,Wq],c⟩ G:=by
 have hlx:=am x;have hx:x.length<=big:=Zk I.O.hx<|{4}
 have hpl:p<=x.length:=Nat.le_of_lt I.px;obtain⟨_,l2,l3,l4⟩:=qu hpl;have hL0:AJ x (iq x p):=by
  rcases Nat.eq_zero_or_pos (iq x p) with h|h
  exact .inl h;exact .inr<|l4 h
 refine b7 (cM (I.ct rfl) xg λ K k=>k) ?_;refine aF (I.op rfl)<|aF (I.co rfl)<|aF (jQ (xv rfl) hx)<|iM (nV<|iq x p) (vu hpl (xv rfl)<|xv rfl)<|aF (bh (xv rfl)<|xc (d:=.int (1:Nat))) ?_;let S:=λ (j i:Nat) (o6:Option D)=>([Kf<|.int (j:Nat),Kf<|.str x,Kf<|.int (x.length:Nat),Kf<|.int (iq x p:Nat),Kf<|.int (i:Nat),o6,Wq]:List<|Option D)
 refine lN (It k) (L:=S (p+1) (iq x p) Wq) (λ m L=>∃j i f o6,L=S j i o6/\ft x f j=ft x (x.length+1) (p+1)/\x.length<j+f/\m+j=x.length/\i<=j/\AJ x i/\∀q,i<=q->q<j->(sg x)[q]?≠Kf 10)
  (x.length-(p+1)) ⟨p+1,_,_,_,rfl,rfl,by exact {1},by have:=I.px;exact U652 this,by exact {l2},hL0,λ q t o=>?_⟩ ?_
 by_cases e:q=p;rw[e];exact I.pn;exact l3 q t<|by exact U705 o e
 intro m _ e_;obtain⟨j,i,f,o6,rfl,M,hf,hm,hij,hi,hn⟩:=e_
 cases f with|zero=>exact (U704 hm hf).elim|succ f=>
  refine⟨decide<|j<x.length,A6 (xv rfl)<|xv rfl,λ U=>?_,λ U=>?_⟩;have Y:=of_decide_eq_true U;have b:=eH I.O.hl (p:=j)<|by exact U633 Y
  rw[ft,Wg<|by exact U650 Y] at M;refine aF (Lb I.T hj hjf Y (xv rfl)<|xv rfl) ?_;rw[Dc];by_cases ha:mU x j=true;rw[Wy ha] at M ⊢;obtain⟨_,_,_,_,_,_,pl⟩:=eZ I.O b;refine cQ (q:=true) (Ld (e:=(aK x j+1:Nat)) rfl) (λ _=>?_) nofun;refine aF (v:=nV<|aK x j) (uJ (i:=aK x j+1) (j:=1) (jS (u:=.mt (aK x j+1:Nat)) (vs:=[]) (xv rfl) rfl x0 λ K k=>⟨rfl,rfl,k⟩) xc<|by exact Int.le_antisymm {0} {0})<|aF (v:=.d<|.int 0) xc<|Ji ?_;have e:eF x a tab p=(fg tab ((sg x).take<|aK x j):Nat):=by unfold eF;rw[<-M]
  have hpj:j<=aK x j:=Nat.le_add_right _ _;exact rY (l:=[Kf (.obj k),Kf (nV (aK x j)),Kf (sV x),Kf (nV x.length),Kf (nV (iq x p)),Kf (nV i),Kf (.mt (aK x j+1:Nat)),Kf (.d (.int 0))]) I (i:=i) (j:=aK x j) (ex:=0) hi (by exact {hij,hpj}) (Nat.le_of_lt pl) (λ q t o=>by by_cases h:q<j;exact hn q t h;exact sy (by exact U537 h) o) rfl rfl rfl rfl rfl (by rw[e,Int.add_zero]) hG;rw[Wg ha] at M ⊢;obtain⟨w,R,y,hw⟩:=fP b;obtain⟨e1,e2⟩:=xt y hw;refine cQ (q:=false) (KW rfl) nofun λ _=>?_;refine iM (nV<|j+w.length+1) (bh (i:=j+w.length) (vj (xv rfl) (xv rfl)<|mh y hw)<|xc (d:=.int (1:Nat)))<|aS<|pA (m':=x.length-(j+w.length+1)) (CA I.W I.kd) (L':=S (j+w.length+1) (j+w.length+1)<|some .none) (by exact U649 hm e2) ⟨_,_,f,_,rfl,by rw[<-e1];exact M,by exact U701 hf,by exact U647 e2,Zv _,.inr ?_,λ q t o=>by exact (U700 t o).elim⟩;show (sg x)[j+w.length+1-1]?=Kf 10;rw[Nat.add_sub_cancel,<-Zx,y,List.getElem?_append_right<|Zv _,Nat.sub_self];rfl;have hk:¬j<x.length:=of_decide_eq_false U;rw[ft,Wy<|by exact U537 hk] at M;have e:eF x a tab p=(fg tab ((sg x).take<|aK x<|iq x p):Nat)+a:=by unfold eF;rw[<-M]
  have b:=eH I.O.hl (p:=iq x p) (by have:=I.px;exact U699 l2 this);obtain⟨_,_,_,_,_,_,pl⟩:=eZ I.O b;refine iM (nV<|iq x p) (xv rfl) ?_;let S2:=λ (j:Nat)=>([Kf<|.int (j:Nat),Kf<|.str x,Kf<|.int (x.length:Nat),Kf<|.int (iq x p:Nat),Kf<|.int (iq x p:Nat),o6,Wq]:List<|Option D);refine lN (It k) (L:=S2<|iq x p) (λ m L=>∃j,L=S2 j/\aK x j=aK x (iq x p)/\10∈(sg x).drop j/\m+j=x.length) (x.length-iq x p) ⟨_,rfl,rfl,b,by have:=I.px;exact U698 l2 this⟩ ?_;intro m _ e_;obtain⟨j',rfl,hp,J,hm⟩:=e_
  cases y:(sg x).drop j' with|nil=>rw[y] at J;cases J|cons z r=>
   obtain⟨t,o,h3⟩:=a9 y;refine⟨[32,9].contains z,Do (nX (xv rfl) (xv rfl) t hx) xc,λ U=>?_,λ U=>?_⟩;have hb:Re.blank z=true:=by rw[<-U,gc]
   refine aF (bh (xv rfl)<|xc (d:=.int (1:Nat)))<|pA (m':=m-1) (CA I.W I.kd) (L':=S2<|j'+1) (by exact U564 hm h3) ⟨j'+1,rfl,?_,?_,by exact U563 hm h3⟩;rw[<-hp];unfold aK;rw[o,y,Xw,hb];show _=j'+(_+1);exact Om.an {1} {1};rw[y] at J;rw[o];exact (Qy.mp J).resolve_left λ e=>by rw[<-e] at hb;exact absurd hb<|{4}
   have hb:Re.blank z=false:=by rw[<-U,gc]
   have ej:aK x j'=j':=by unfold aK;rw[y,Xw,hb];rfl
   rw[ej] at hp;subst hp;have hlp:iq x p<=aK x (iq x p):=Nat.le_add_right _ _;exact aS<|aF (I.iw rfl)<|aS<|rY I hL0 hlp (Nat.le_of_lt pl) (λ q t o=>sy t o) rfl rfl rfl rfl rfl e hG
end
structure IndPre (x:Str)(tab p:Nat):Prop where
 O:Ok3 x
 t1:1<=tab
 t8:tab<=8
 ct:ar (fin x)=4
 px:p<x.length
 pn:(sg x)[p]?≠Kf 10
 en:∀s,x5 x s->s.st.getLast?=Kf p
section
variable {p:Nat}{a:Int}{s:L2}{K:V->aa->Prop}
def Kx (a b:Int)(s:L2):look (aw x a b s 2) n6=Kf (.d<|.int<|ar<|fin x)/\look (aw x a b s 2) f5=Kf (.d<|fm s.st)/\look (aw x a b s 2) cf=Kf (.d<|.str x)/\look (aw x a b s 2) dR=Kf (.d<|.int a)/\look (aw x a b s 2) dW=Kf (.d<|.int b):=
 ⟨{2},{2},{2},{2},{2}⟩
def zA (At:Attr3 P)(J:IndPre x tab p)(b:Par P.C c k dk x a (tab:Nat) s 2):IndOk P c k x a tab p:=by obtain⟨o,l,q,r,u⟩:=Kx (x:=x) a (tab:Nat) s;rw[J.ct] at o;unfold fm at l;rw[J.en s<|b.e rfl] at l;exact⟨b.w,aj b.k_,J.O,b.t.toTextOk,J.t1,J.t8,J.px,J.pn,λ f j h=>bt f b.k_ b.d_ At.ct o rfl j h,λ f j h=>bt f b.k_ b.d_ At.op l rfl j h,λ f j h=>bt f b.k_ b.d_ At.co q rfl j h,λ f j h=>bt f b.k_ b.d_ At.iw r rfl j h,λ f j h=>bt f b.k_ b.d_ At.tw u rfl j h⟩
def AX {f o:Ww}(At:Attr3 P)(q:Par P.C c k dk x a (tab:Nat) s i)(y:P.isFn f=true)(r:P.fn f=aX P.C Fs 2 (λ _=>True) fy)(z:∀j∈Fs,j∉dom c)(t:P.isFn o=true)(u:P.fn o=aP Re.itemC)(J:IndPre x tab p)(h:∀s',Par P.C (cset c dk<|.ns<|aw x a (tab:Nat) s' 2) k dk x a (tab:Nat) s' 2->K (.d<|.int<|eF x a tab p) (cset c dk<|.ns<|aw x a (tab:Nat) s' 2)):aJ P (dom c) (n+61) (vA f o) ⟨start [.obj k] 7,c⟩ (EndP c K):=by refine ma (n:=n+56) rfl q (λ i s G=>oz G<|{3}) y r z λ s' b=>?_;rw[sU q.le] at b ⊢;have e:dom c=dom (cset c dk<|.ns<|aw x a (tab:Nat) s' 2):=(ai ..).symm;have I:∀l,EndP c K (.ret<|.d<|.int<|eF x a tab p) ⟨l,cset c dk<|.ns<|aw x a (tab:Nat) s' 2⟩:=λ l=>EndP.same b.w (λ j t=>by rw[ai];exact t) rfl<|h s' b;rw[show aJ P (dom c) (n+56+4)=aJ P (dom<|cset c dk<|.ns<|aw x a (tab:Nat) s' 2) (n+60) by rw[<-e]];exact xP (n:=n) t u (zA At J b) I
end
noncomputable def lD:List IS:=[.if_ (.cmp .Eq (.v 0) (.lst [] Wq)) [.ret (Kf (.c (.int 0)))] [],.ret (Kf (.bin .Mod (.meth (.v 0) .pop [(.c (.int 0))]) (.v 1)))]
def gq:Spec:=λ vs c K=>∃(k:Nat) (l:List Int) (b:Int),vs=[.obj k,.d<|.int b]/\Wf c/\ae c k=Kf (.list<|l.map .int)/\b≠0/\l.length<=big/\
 ((l=[]/\K (.d<|.int 0) c)\/∃a r,l=a::r/\K (.d<|.int<|a.fmod b) (cset c k<|.list<|r.map .int))
section
def oD {l:List Int}(b:ae c k=Kf (.list<|l.map .int)){K:Bool->Prop}(h:K l.isEmpty):gH c .Eq (.obj k) (.d<|.lst []) K:=by
 obtain⟨f,i⟩:=xJ l;have e:rd c (.obj k)=Kf (D.lst<|l.map .int):=by show (match ae c k with|some (.list xs)=>Kf (D.lst xs)|_=>Wq)=_;rw[b]
 show aC (rd c<|.obj k) _;rw[e];refine⟨?_,{4},?_,?_⟩;show (PyData.canLayAll0 (dQ<|l.map .int)&&decide (PyData.depthAll (dQ<|l.map .int)+1<=64))=true;rw[f,i];rfl;cases l<;>rfl;cases l with|nil=>exact h|cons a l=>exact h
theorem Wf.list (W:Wf c){ys:List D}(h:ae c k=Kf (.list xs)):Wf (cset c k<|.list ys):=by
 have b:=aj h;refine⟨?_,by rw[ai];exact W.nd⟩;rw[celW_iff];intro p e;rcases jp W.nd e with rfl|⟨e,f⟩
 exact⟨.list ys,by rw[aI b,Wy rfl],rfl⟩;obtain⟨o,i,l⟩:=celW_iff.mp W.w p e;exact⟨o,by rw[aI b,Wg f];exact i,gU (λ j q=>by rw[ai];exact q) l⟩
def Bz {l:List Int}{b:Int}(W:Wf c)(e:ae c k=Kf (.list<|l.map .int))(hb:b≠0)(hl:l.length<=big){K:V->aa->Prop}(h:(l=[]/\K (.d<|.int 0) c)\/∃a r,l=a::r/\K (.d<|.int<|a.fmod b) (cset c k<|.list<|r.map .int)):aJ P (dom c) (n+20) lD ⟨start [.obj k,.d<|.int b] 0,c⟩ (EndP c K):=by
 unfold lD;refine bQ (n:=n+18) l.isEmpty (c':=c) (λ f h=>d6 (n:=n+17) (.obj k) (.d<|.lst []) (λ f h=>h) (λ f h=>⟨{4},h⟩)<|oD e h) ?_;rcases h with ⟨rfl,h⟩|⟨a,r,rfl,h⟩
 exact mC (n:=n+16) (.d<|.int 0) (c':=c) (λ f h=>h)<|EndP.same W (λ _ h=>h) rfl h;refine aM (n:=n+17) ?_;refine mC (n:=n+17) (.d<|.int<|a.fmod b) (c':=cset c k<|.list<|r.map .int) (λ f h=>?_)<|EndP.same (W.list e) (λ j i=>by rw[ai];exact i) rfl h;rw[fR,fS];refine cJ (n:=n+14) (v:=.obj k) rfl _ ?_;have o:cH c (.obj k) .pop:=⟨rfl,by rw[e];trivial⟩;refine⟨o,rfl,?_⟩;rw[e];refine⟨rfl,by rw[Zu];exact hl,.int a,r.map .int,rfl,?_⟩;exact⟨hb,h⟩
end
noncomputable abbrev K1 (p:Params):Frag:=H3.K p
noncomputable def G1:List (Str×V):=[(Qq "C_NONE",.d (.int 0)),(Qq "C_BACKSLASH",.d (.int 1)),(Qq "C_STRING_FIRST_LINE",.d (.int 2)),(Qq "C_STRING_NEXT_LINES",.d (.int 3)),(Qq "C_BRACKET",.d (.int 4)),(Qq "_junkre",.val<|.ref 68),(Qq "_match_stringre",.val<|.ref 69),(Qq "_itemre",.val<|.ref 70),(Qq "_closere",.val<|.ref 71),(Qq "_chew_ordinaryre",.val<|.ref 72),(Qq "trans",.val<|.ref 97),(Qq "Parser",.val<|.ref 255),(Qq "_law_draw",.val<|.ref 266),(Qq "_law_string",.val<|.ref 273),(Qq "_law_statement",.val<|.ref 280),(Qq "_law_past",.val<|.ref 287),(Qq "_law_column",.val<|.ref 294),(Qq "_law_indent",.val<|.ref 301),(Qq "_law_read",.val<|.ref 308),(Qq "_law_ask",.val<|.ref 315),(Qq "len",.bi .len),(Qq "isinstance",.bi .isinstance),(Qq "bool",.bi .bool),(Qq "range",.bi .range),(Qq "list",.bi .list),(Qq "tuple",.bi .tuple),(Qq "AssertionError",.val (.type "AssertionError"))]
noncomputable def DL:List Pos:=[⟨55,37,0,40⟩,⟨56,20,0,36⟩,⟨153,16,0,18⟩,⟨154,21,0,33⟩,⟨155,21,0,29⟩,⟨367,11,0,23⟩,⟨372,47,0,82⟩,⟨376,15,0,46⟩]
noncomputable def IZ:Str->Pos->Option (Ww×Nat×Nat):=λ f _=>if f=Qq "Parser" then Kf (255,0,0) else Wq
noncomputable def meth1:List (Str×Ww):=[(Qq "set_code",168),(Qq "_study1",189),(Qq "_study2",203),(Qq "get_continuation_type",196),(Qq "compute_bracket_indent",210),(Qq "get_num_lines_in_stmt",217),(Qq "is_block_opener",238),(Qq "is_block_closer",245),(Qq "get_last_stmt_bracketing",252)]
def T1 (p:Params)(a:Ww):Tb:=JF (K1 p) a G1 DL IZ meth1
def t7 (p:Params):aV 60 (T1 p 161) (aq (K1 p) 161)=Kf lX:={2}
def yi (p:Params):aV 60 (T1 p 168) (aq (K1 p) 168)=Kf rN:={2}
def qf (p:Params):aV 60 (T1 p 189) (aq (K1 p) 189)=Kf (eW 97 55037 56020):={2}
def mQ (p:Params):aV 60 (T1 p 203) (aq (K1 p) 203)=Kf (f7 189 68 72 69 153016 154021 155021):={2}
def ul (p:Params):aV 60 (T1 p 196) (aq (K1 p) 196)=Kf (oE 189 GH n6):={2}
def wc (p:Params):aV 60 (T1 p 217) (aq (K1 p) 217)=Kf (yn 189):={2}
def nK (p:Params):aV 60 (T1 p 238) (aq (K1 p) 238)=Kf (jV 203):={2}
def na (p:Params):aV 60 (T1 p 245) (aq (K1 p) 245)=Kf (jU 203 71):={2}
def ui (p:Params):aV 60 (T1 p 252) (aq (K1 p) 252)=Kf (oE 203 Fn Ch):={2}
def vo (p:Params):aV 60 (T1 p 210) (aq (K1 p) 210)=Kf (vA 203 70):={2}
def uj (p:Params):aV 60 (T1 p 266) (aq (K1 p) 266)=Kf lD:={2}
def oi (p:Params):aV 60 (T1 p 273) (aq (K1 p) 273)=Kf jz:={2}
def sR (p:Params):aV 60 (T1 p 280) (aq (K1 p) 280)=Kf (eO 273):={2}
def uN (p:Params):aV 60 (T1 p 287) (aq (K1 p) 287)=Kf qs:={2}
def yq (p:Params):aV 60 (T1 p 294) (aq (K1 p) 294)=Kf jf:={2}
def nU (p:Params):aV 60 (T1 p 301) (aq (K1 p) 301)=Kf (jo 287 294):={2}
def sF (p:Params):aV 60 (T1 p 308) (aq (K1 p) 308)=Kf (qx 280 287 301):={2}
section
variable {p:Params}(X:(K1 p).In hb)(lim:hb.NoLimit)
include X lim
def qO:FnT hb 161 (T1 p 161) lX [Qq "self",Qq "indentwidth",Qq "tabwidth"] [] (cm (K1 p) 161) (aq (K1 p) 161) 60:=
 bF X lim {2} (e7 λ _=>e7 λ _=>e7 λ _=>kK<|{2}) rfl {2} {2} (t7 p)
def yJ:FnT hb 168 (T1 p 168) rN [Qq "self",Qq "s"] [] (cm (K1 p) 168) (aq (K1 p) 168) 60:=
 bF X lim {2} (e7 λ _=>e7 λ _=>kK<|{2}) rfl {2} {2} (yi p)
def nY:FnT hb 189 (T1 p 189) (eW 97 55037 56020) [Qq "self"] (bb (K1 p) 189) (cm (K1 p) 189) (aq (K1 p) 189) 60:=
 bF X lim {2} (e7 λ _=>kK<|{2}) rfl {2} {2} (qf p)
def kF:FnT hb 203 (T1 p 203) (f7 189 68 72 69 153016 154021 155021) [Qq "self"] (bb (K1 p) 203) (cm (K1 p) 203) (aq (K1 p) 203) 60:=
 bF X lim {2} (e7 λ _=>kK<|{2}) rfl {2} {2} (mQ p)
def ry:FnT hb 196 (T1 p 196) (oE 189 GH n6) [Qq "self"] [] (cm (K1 p) 196) (aq (K1 p) 196) 60:=
 bF X lim {2} (e7 λ _=>kK<|{2}) rfl {2} {2} (ul p)
def vd:FnT hb 217 (T1 p 217) (yn 189) [Qq "self"] (bb (K1 p) 217) (cm (K1 p) 217) (aq (K1 p) 217) 60:=
 bF X lim {2} (e7 λ _=>kK<|{2}) rfl {2} {2} (wc p)
def kJ:FnT hb 238 (T1 p 238) (jV 203) [Qq "self"] [] (cm (K1 p) 238) (aq (K1 p) 238) 60:=
 bF X lim {2} (e7 λ _=>kK<|{2}) rfl {2} {2} (nK p)
def k8:FnT hb 245 (T1 p 245) (jU 203 71) [Qq "self"] [] (cm (K1 p) 245) (aq (K1 p) 245) 60:=
 bF X lim {2} (e7 λ _=>kK<|{2}) rfl {2} {2} (na p)
def rV:FnT hb 252 (T1 p 252) (oE 203 Fn Ch) [Qq "self"] [] (cm (K1 p) 252) (aq (K1 p) 252) 60:=
 bF X lim {2} (e7 λ _=>kK<|{2}) rfl {2} {2} (ui p)
def oV:FnT hb 210 (T1 p 210) (vA 203 70) [Qq "self"] (bb (K1 p) 210) (cm (K1 p) 210) (aq (K1 p) 210) 60:=
 bF X lim {2} (e7 λ _=>kK<|{2}) rfl {2} {2} (vo p)
def rx:FnT hb 266 (T1 p 266) lD [Qq "pool",Qq "bound"] [] (cm (K1 p) 266) (aq (K1 p) 266) 60:=
 bF X lim {2} (e7 λ _=>e7 λ _=>kK<|{2}) rfl {2} {2} (uj p)
def lf:FnT hb 273 (T1 p 273) jz [Qq "text",Qq "k"] (bb (K1 p) 273) (cm (K1 p) 273) (aq (K1 p) 273) 60:=
 bF X lim {2} (e7 λ _=>e7 λ _=>kK<|{2}) rfl {2} {2} (oi p)
def rc:FnT hb 280 (T1 p 280) (eO 273) [Qq "text",Qq "k"] (bb (K1 p) 280) (cm (K1 p) 280) (aq (K1 p) 280) 60:=
 bF X lim {2} (e7 λ _=>e7 λ _=>kK<|{2}) rfl {2} {2} (sR p)
def lW:FnT hb 287 (T1 p 287) qs [Qq "text",Qq "k"] [] (cm (K1 p) 287) (aq (K1 p) 287) 60:=
 bF X lim {2} (e7 λ _=>e7 λ _=>kK<|{2}) rfl {2} {2} (uN p)
def vx:FnT hb 294 (T1 p 294) jf [Qq "text",Qq "tab"] (bb (K1 p) 294) (cm (K1 p) 294) (aq (K1 p) 294) 60:=
 bF X lim {2} (e7 λ _=>e7 λ _=>kK<|{2}) rfl {2} {2} (yq p)
def kE:FnT hb 301 (T1 p 301) (jo 287 294) [Qq "text",Qq "place",Qq "step",Qq "tab"] (bb (K1 p) 301) (cm (K1 p) 301) (aq (K1 p) 301) 60:=
 bF X lim {2} (e7 λ _=>e7 λ _=>e7 λ _=>e7 λ _=>kK<|{2}) rfl {2} {2} (nU p)
def ro:FnT hb 308 (T1 p 308) (qx 280 287 301) [Qq "text",Qq "step",Qq "tab"] (bb (K1 p) 308) (cm (K1 p) 308) (aq (K1 p) 308) 60:=
 bF X lim {2} (e7 λ _=>e7 λ _=>e7 λ _=>kK<|{2}) rfl {2} {2} (sF p)
end
def attrs:List Str:=keys
def Jj (w:Wv)(fn:Ww->Spec)(isFn:Ww->Bool):Pm where
 C:=255
 attr:=λ x=>attrs.contains x
 fn:=fn
 isFn:=isFn
 init:=161
 td:=97
 tr:=tr
def Js (p:Params):ClsOk (K1 p) 255:=⟨{2},{2},{2},{2},{2}⟩
def Hu (p:Params)(x:Str)(h:attrs.contains x=true):findIn (K1 p) (.ref 255) x=Kf Wq:=by have:=List.contains_iff_mem.mp h;simp only[attrs,keys,Qy,Xb,or_false] at this;rcases this with rfl|rfl|rfl|rfl|rfl|rfl|rfl|rfl|rfl|rfl|rfl<;>kernel_rfl
def jy {β:Type}{l:List (Str×β)}{v:β}(h:l.lookup x=Kf v):(x,v)∈l:=by induction l with|nil=>contradiction|cons p r ih=>obtain⟨y,u⟩:=p;rw[Zq] at h;split at h;rename_i e;injection h with h;subst h;rw[beq_iff_eq.mp e];exact .head _;exact .tail _<|ih h
def yd (p:Params)(x:Str)(f:Ww)(h:meth1.lookup x=Kf f):findIn (K1 p) (.ref 255) x=Kf (Kf<|.ref f)/\typeIn (K1 p) (.ref f)=Kf (.type "function"):=by have:=jy h;simp only[meth1,Qy,Xb,or_false,Prod.mk.injEq] at this;rcases this with ⟨rfl,rfl⟩|⟨rfl,rfl⟩|⟨rfl,rfl⟩|⟨rfl,rfl⟩|⟨rfl,rfl⟩|⟨rfl,rfl⟩|⟨rfl,rfl⟩|⟨rfl,rfl⟩|⟨rfl,rfl⟩<;>exact⟨{2},{2}⟩
def Id (p:Params):makesIn (K1 p) 255=true:={2}
def JU (p:Params):findIn (K1 p) (.ref 255) "__init__"=Kf (Kf<|.ref 161)/\typeIn (K1 p) (.ref 161)=Kf (.type "function"):=⟨{2},{2}⟩
def Iv (p:Params):keepIn (K1 p) (.ref 255)=true:={2}
noncomputable def wV (es:Array DictEntry):Bool:=es.toList.all λ e=>match e.key with | .int k _=>e.hash==hashInt k|_=>false
def qr {b:Array DictEntry}(h:wV b=true):PySem.IntKeys b:=by intro e f;have:=Xu.mp h e<|Array.mem_toList_iff.mpr f;obtain⟨i,key,val⟩:=e;cases key with|int k t=>exact⟨k,t,rfl,beq_iff_eq.mp this⟩|_=>exact Bool.noConfusion this
noncomputable def Jt (es:Array DictEntry)(f:Nat->Nat):Bool:=(List.range 128).all λ c=>match findBy Value.isInt es (c:Int) with|some (.int v _)=>v==(f c:Nat)&&decide (f c<128)|_=>false
def E3 {b:Array DictEntry}{f:Nat->Nat}(h:Jt b f=true)(c:Nat)(e:c<128):∃t,findBy Value.isInt b (c:Int)=Kf (.int (f c:Nat) t)/\f c<128:=by have:=Xu.mp h c<|List.mem_range.mpr e;cases q:findBy Value.isInt b (c:Int) with|none=>rw[q] at this;exact Bool.noConfusion this|some u=>rw[q] at this;cases u with|int v t=>obtain⟨i,j⟩:=Bool.and_eq_true_iff.mp this;exact⟨t,by rw[beq_iff_eq.mp i],of_decide_eq_true j⟩|_=>exact Bool.noConfusion this
noncomputable def dP (K:Frag)(a:Ww):Obj:=(K.lookup a).getD default
def J0 (K:Frag)(a:Ww):Nat:=match (dP K a).data with | .dict _ n=>n|_=>0
def JE (p:Params):∃b,TabOk (K1 p) 97 b tr:=by refine⟨89,⟨(dP (K1 p) 97).dict,nsOf (K1 p) 97,J0 (K1 p) 97,(dP (K1 p) 97).slots,{2},qr {2},E3<|{2}⟩,{2},{2},{2}⟩
noncomputable def HC:Option Wx->Tok
 |some (.int _ t)=>t|_=>0
def GZ {w:Wv}{p:Params}(X:(K1 p).In hb){mb:Str->Option Wx}(k:hb.Ns mainGlobals mg)(l:hb.Ns builtinsNs mb)(o:∀x:Str,x≠"__name__"->mb x=bootBuiltins x) (x:Str) (v:V) (h:G1.lookup x=Kf v):d5 prog w hb x v:=by
 have mge:=mg_of X k<|{2}
 have r:∀(x:Str) (i:Int),nsFind (nsOf (K1 p) mainGlobals) x=Kf (.int i<|HC<|nsFind (nsOf (K1 p) mainGlobals) x)->d5 prog w hb x (.d<|.int i):=λ x i e=>rL k ((mge x).trans e)<|λ c α h=>.int _ _;have f:∀(x:Str) (a:Ww),nsFind (nsOf (K1 p) mainGlobals) x=Kf (.ref a)->d5 prog w hb x (.val<|.ref a):=λ x a e=>rL k ((mge x).trans e)<|λ c α h=>rfl;have j:∀(x:Str) (b:Bi),nsFind (nsOf (K1 p) mainGlobals) x=Wq->x≠"__name__"->bootBuiltins x=Kf b.val->d5 prog w hb x (.bi b):=λ x b e u y=>rl k l ((mge x).trans e) ((o x u).trans y)<|λ c α h=>rfl;have z:∀(x:Str) (t:String),nsFind (nsOf (K1 p) mainGlobals) x=Wq->x≠"__name__"->bootBuiltins x=Kf (.type t)->d5 prog w hb x (.val<|.type t):=λ x t e u y=>rl k l ((mge x).trans e) ((o x u).trans y)<|λ c α h=>rfl
 have all:∀q∈G1,d5 prog w hb q.1 q.2:=
  Qx.mpr ⟨r _ _ {2},Qx.mpr ⟨r _ _ {2},Qx.mpr ⟨r _ _ {2},Qx.mpr ⟨r _ _ {2},Qx.mpr ⟨r _ _ {2},Qx.mpr ⟨f _ _ {2},Qx.mpr ⟨f _ _ {2},Qx.mpr ⟨f _ _ {2},Qx.mpr ⟨f _ _ {2},Qx.mpr ⟨f _ _ {2},Qx.mpr ⟨f _ _ {2},Qx.mpr ⟨f _ _ {2},Qx.mpr ⟨f _ _ {2},Qx.mpr ⟨f _ _ {2},Qx.mpr ⟨f _ _ {2},Qx.mpr ⟨f _ _ {2},Qx.mpr ⟨f _ _ {2},Qx.mpr ⟨f _ _ {2},Qx.mpr ⟨f _ _ {2},Qx.mpr ⟨f _ _ {2},Qx.mpr ⟨j _ _ {2} {3} {2},Qx.mpr ⟨j _ _ {2} {3} {2},Qx.mpr ⟨j _ _ {2} {3} {2},Qx.mpr ⟨j _ _ {2} {3} {2},Qx.mpr ⟨j _ _ {2} {3} {2},Qx.mpr ⟨j _ _ {2} {3} {2},Qx.mpr ⟨z _ "AssertionError" {2} {3} {2},List.forall_mem_nil _⟩⟩⟩⟩⟩⟩⟩⟩⟩⟩⟩⟩⟩⟩⟩⟩⟩⟩⟩⟩⟩⟩⟩⟩⟩⟩⟩
 exact all (x,v)<|jy h
structure Base1 (w:Wv)(p:Params)(hb:Wu)(mg mb:Str->Option Wx):Prop where
 x:(K1 p).In hb
 lim:hb.NoLimit
 g:hb.Ns mainGlobals mg
 b:hb.Ns builtinsNs mb
 mb:∀x:Str,x≠"__name__"->mb x=bootBuiltins x
def KV {w:Wv}{p:Params}{mb:Str->Option Wx}(B:Base1 w p hb mg mb){e:Ww->Spec}{isFn:Ww->Bool}(a:Ww)(i:∀a,isFn a=true->(∃k,Looks (model prog w) hb (keeperOf<|.ref a) k)/\FnOk prog w hb dep a (e a)) (j:FnOk prog w hb dep 161<|e 161):Cx0 prog w hb (K1 p) (T1 p a) (Jj w e isFn) dep:=
 ⟨B.x,λ x v h=>GZ B.x B.g B.b B.mb x v h,Js p,λ x h=>Hu p x h,λ x f h=>yd p x f h,i,Id p,JU p,j,Iv p,JE p⟩
def cy (w:Wv)(b:Ww->Spec)(isFn:Ww->Bool):Attr3 (Jj w b isFn):=⟨⟨⟨{2},{2},{2},{2}⟩,{2},{2},{2},{2},{2}⟩,{2},{2}⟩
section
variable {w:Wv}{p:Params}{mb:Str->Option Wx}(B:Base1 w p hb mg mb)
include B
noncomputable def IF:Ww->Spec:=λ _ _ _ _=>False
theorem k9 {o:Obj}{b:FuncData}(e:hb.get? a=Kf o)(f:o.data=.func b):∃k,Looks (model prog w) hb (keeperOf<|.ref a) k:=by refine⟨.frame,λ A Q E s k q=>?_⟩;unfold keeperOf;refine Zb<|wpAny_load (k _ _ e) ?_;rw[f];exact Zp q
noncomputable def yR (o:Obj)(i:Nat):Wx:=match o.data with | .fields vs=>vs.getD i .none|_=>.none
def pJ:PatAt hb 68 43 Re.junkC:=⟨B.x _ _ {2},yR (dP (K1 p) 43) 0,yR (dP (K1 p) 43) 1,42,0,B.x _ _ {2},B.x _ _<|{2}⟩
def pS:PatAt hb 69 48 Re.strC:=⟨B.x _ _ {2},yR (dP (K1 p) 48) 0,yR (dP (K1 p) 48) 1,47,0,B.x _ _ {2},B.x _ _<|{2}⟩
def pI:PatAt hb 70 53 Re.itemC:=⟨B.x _ _ {2},yR (dP (K1 p) 53) 0,yR (dP (K1 p) 53) 1,52,0,B.x _ _ {2},B.x _ _<|{2}⟩
def pC:PatAt hb 71 58 Re.closeC:=⟨B.x _ _ {2},yR (dP (K1 p) 58) 0,yR (dP (K1 p) 58) 1,57,0,B.x _ _ {2},B.x _ _<|{2}⟩
def pO:PatAt hb 72 63 Re.chewC:=⟨B.x _ _ {2},yR (dP (K1 p) 63) 0,yR (dP (K1 p) 63) 1,62,0,B.x _ _ {2},B.x _ _<|{2}⟩
end
def JA (P:Params)(h:Wu)(w:Wx)(d:WData):Prop:=match d with| .int i=>∃t,w=.int i t|_=>True
def Hc (P:Params)(h:Wu)(ws:List Wx)(ds:List WData):Prop:=match ds with| []=>ws=[]|d::ds=>∃w r,ws=w::r/\Well P h w d/\WellAll P h r ds
def vt {P:Params}{w:Wx}{d:WData}(i:Well P h w d):JA P h w d:=by cases i<;>first|trivial|exact⟨_,rfl⟩
def g9 {P:Params}{ds:List WData}(i:WellAll P h ws ds):Hc P h ws ds:=by cases i with|nil=>rfl|cons a r=>exact⟨_,_,rfl,a,r⟩
def uO {P:Params}{l:List Int}:∀{ws:List Wx},WellAll P h ws (ofPys<|l.map .int)->IsDs h own (l.map D.int) ws:=by induction l with|nil=>intro ws i;obtain rfl:ws=[]:=g9 i;exact .nil|cons n l ih=>intro ws i;obtain⟨w,r,rfl,a,q⟩:=g9 i;obtain⟨t,rfl⟩:=vt a;exact .cons (.int n t)<|ih q
structure But (S:Ww->Prop)(h h':Wu):Prop where
 kept:∀b o,h.get? b=Kf o->¬S b->h'.get? b=Kf o
 up:∀b o,h.get? b=Kf o->S b->∃sl,h'.get? b=Kf {o with slots:=sl}
structure Apart (S:Ww->Prop)(hb:Wu)(c:aa)(α:Al)(h:Wu):Prop where
 nb:∀b,S b->hb.get? b=Wq
 no:∀b,S b->¬aD c α b
 fz:∀b o,S b->h.get? b=Kf o->∃es ep,o.data=.dict es ep
section
variable {S:Ww->Prop}{env:Env}{l:cI}
def Apart.froz (A:Apart S hb c α h){o:Obj}(f:dT o=true)(e:h.get? b=Kf o):¬S b:=λ s=>by obtain⟨i,j,q⟩:=A.fz b o s e;unfold dT at f;rw[q] at f;contradiction
def But.isD (B:But S h h')(A:Apart S hb c α h){d:D}(i:IsD h (aD c α) d g):IsD h' (aD c α) d g:=i.step (λ b o f e _=>B.kept b o e<|A.froz f e) λ _ e=>.inl e
def But.isDs (B:But S h h')(A:Apart S hb c α h){d:List D}{g:List Wx}(i:IsDs h (aD c α) d g):IsDs h' (aD c α) d g:=i.step (λ b o f e _=>B.kept b o e<|A.froz f e) λ _ e=>.inl e
def But.isV (B:But S h h')(A:Apart S hb c α h)(i:a7 c α h v g):a7 c α h' v g:=by cases v with|d x=>exact B.isD A i|obj k=>exact i|val u=>exact i|rng p q=>obtain⟨r,t,u,v,e,g,n⟩:=i;exact⟨r,t,u,v,e,B.kept r _ g<|A.froz rfl g,n⟩|bi b=>exact i|mt e=>obtain⟨r,e,m⟩:=i;exact⟨r,e,m.step (λ b o f e _=>B.kept b o e<|A.froz f e) λ _ e=>.inl e⟩
def But.isO (B:But S h h')(A:Apart S hb c α h)(b:¬S a){o:O}(i:IsO c α h a o):IsO c α h' a o:=by
 cases o with
 |list xs=>obtain⟨j,e,g,d⟩:=i;exact⟨j,e,B.kept _ _ g b,B.isDs A d⟩|ns fs=>obtain⟨q,p,e,g,r,t,sz,f⟩:=i;refine⟨q,p,e,B.kept _ _ g b,r,t,sz,λ y=>?_⟩;have:=f y;cases hl:look fs y with|none=>rw[hl] at this;exact this|some v=>rw[hl] at this;obtain⟨w,u,x⟩:=this;exact⟨w,u,B.isV A x⟩
 |inst C dk=>exact⟨B.kept _ _ i.1 b,i.2⟩|bound id k=>exact⟨B.kept _ _ i.1 b,i.2⟩
def But.cst (B:But S h h')(A:Apart S hb c α h)(C:Cst hb pr c α h):Cst hb pr c α h':=
 ⟨λ b o e=>B.kept b o (C.base b o e) (λ s=>by rw[A.nb b s] at e;contradiction),λ k o e=>B.isO A (λ s=>A.no _ s ⟨k,aj e,rfl⟩) (C.cell k o e),C.fresh,C.inj,C.prs⟩
def But.ns (B:But S h h'){m:Str->Option Wx}(n:h.Ns a m):h'.Ns a m:=by obtain⟨o,b,f,e,i,r⟩:=n;by_cases s:S a;obtain⟨sl,j⟩:=B.up a o e s;exact⟨_,b,f,j,i,r⟩;exact⟨o,b,f,B.kept a o e s,i,r⟩
def But.fst (B:But S h h')(A:Apart S hb c α h)(F:Fst hb pr env l c α h):Fst hb pr env l c α h':=by
 have f:∀b o v,h.get? b=Kf o->o.data=.cell v->h'.get? b=Kf o:=λ b o v e d=>B.kept b o e λ s=>by obtain⟨j,k,q⟩:=A.fz b o s e;rw[d] at q;cases q
 refine⟨B.cst A F.toCst,?_,λ x b e=>?_,λ x v e=>?_,F.fr⟩;obtain⟨m,n⟩:=F.ns;exact⟨m,B.ns n⟩;obtain⟨o,v,g,d⟩:=F.cel x b e;exact⟨o,v,f _ _ _ g d,d⟩;obtain⟨w,H,i⟩:=F.loc x v e;refine⟨w,?_,B.isV A i⟩;cases H with|loc m a b e=>exact .loc m a (B.ns b) e|cel b o a e g d=>exact .cel b o a e (f _ _ _ g d) d|free b o a e g d=>exact .free b o a e (f _ _ _ g d) d
end
def v5 (h:Wu)(S:List Ww):∃base:Wu,(∀b,b∉S->base.get? b=h.get? b)/\∀b∈S,base.get? b=Wq:=by
 induction S with|nil=>exact⟨h,λ _ _=>rfl,nofun⟩|cons L S rH=>
  obtain⟨base,i,j⟩:=rH;refine⟨base.update L λ o=>{o with data:=.freed},λ b f=>?_,λ b f=>?_⟩;rw[Heap.get?_update_other _ _ (λ e:L=b=>f<|by rw[<-e];exact .head _)];exact i b λ q=>f<|.tail _ q;by_cases e:L=b;subst e
  cases base with|mk objs l=>
   show (match (objs.modify L _)[L]? with
    |some ⟨_,_,.freed,_⟩=>Wq|o=>o)=Wq
   rw[Array.getElem?_modify,Wy rfl];cases objs[L]?<;>rfl
  rw[Heap.get?_update_other _ _ e];exact j b<|(Qy.mp f).resolve_left λ q=>e q.symm
def FrsOk (hb:Wu)(c:aa)(α:Al)(h:Wu)(l:List Env):Prop:=∀env∈l,env.scope.kind=.function/\∃L,env.frame=Kf L/\hb.get? L=Wq/\¬aD c α L/\∃m,h.Ns L m
def FrsOk.le {b:Al}{l:List Env}(H:FrsOk hb c α h l)(L:Le c α h c' b h'):FrsOk hb c' b h' l:=λ env i=>by obtain⟨j,A,k,p,r_⟩:=H env i;obtain⟨f,m,o,q,r_⟩:=r_;obtain⟨t,e,r⟩:=r_;exact⟨j,A,k,p,L.not_own e f,m,o,q,t,L.kept _ _ e f,r⟩
def Bw {l:List Env}:(∀env∈l,env.scope.kind=.function/\∃L,env.frame=Kf L/\base.get? L=Wq/\∃m,h.Ns L m)->h.FunFrames base l:=by induction l with|nil=>intro _;exact trivial|cons env l rH=>intro H;obtain⟨b,A,f,i,r_⟩:=H env<|.head _;obtain⟨m,j⟩:=r_;exact Heap.FunFrames.cons (by rw[b];decide) f j i<|rH λ e k=>H e<|.tail _ k
def sX {l:List Env}(H:FrsOk hb c α h l):Apart (λ b=>b∈l.filterMap (·.frame)) hb c α h:=by
 have g:∀b,b∈l.filterMap (·.frame)->hb.get? b=Wq/\¬aD c α b/\∃m,h.Ns b m:=λ b m=>by obtain⟨env,i,j⟩:=List.mem_filterMap.mp m;obtain⟨_,A,f,r⟩:=H env i;rw[j] at f;cases f;exact r
 exact⟨λ b s=>(g b s).1,λ b s=>(g b s).2.1,λ b o s e=>by obtain⟨m,u,k,p,q,t,_⟩:=(g b s).2.2;rw[q] at e;cases e;exact⟨k,p,t⟩⟩
def AY {l:List Env}(H:FrsOk hb c α h l)(b2:∀b∈l.filterMap (·.frame),base.get? b=Wq)(k:∀b o,h.get? b=Kf o->h'.get? b=Kf o):h'.FunFrames base l:=Bw λ env e=>by obtain⟨i,A,f,t,r_⟩:=H env e;obtain⟨u,m,o,j,r_⟩:=r_;obtain⟨p,q,r⟩:=r_;exact⟨i,A,f,b2 _<|List.mem_filterMap.mpr ⟨env,e,f⟩,m,o,j,p,k _ _ q,r⟩
def v6 {l:List Ww}(b1:∀b,b∉l->base.get? b=h.get? b)(b2:∀b∈l,base.get? b=Wq)(b:Ww)(o:Obj)(q:base.get? b=Kf o):h.get? b=Kf o:=by by_cases e:b∈l;rw[b2 b e] at q;contradiction;rw[<-b1 b e];exact q
structure Fled (hb:Wu)(outer:List Env)(X:String)(c:aa)(α:Al)(h:Wu)(c':aa)(α':Al)(h1:Wu)(e:Ww)(h':Wu)(base:Wu)(S:Ww->Prop)(a0:Wx):Prop where
 C:Cst hb [] c' α' h1
 L:Le c α h c' α' h1
 A:Apart S hb c' α' h1
 s:∀b,S b->(∃env∈outer,env.frame=Kf b)\/h.get? b=Wq
 so:∀env∈outer,∀b,env.frame=Kf b->S b
 keep:∀b o,h1.get? b=Kf o->¬S b->base.get? b=Kf o
 nR:∀b,S b->base.get? b=Wq
 fl:Heap.FlyingW base outer e (.type X) a0 h'
 up:h1.UpToSlots h'
def Fled.but {X:String}{i:Al}{f:Wu}{e:Ww}{S:Ww->Prop}{j:Wx}(F:Fled hb outer X c α h c' i f e h' base S j):But S f h':=
 ⟨λ b o g n=>F.fl.1 b o (F.keep b o g n),λ b o g s=>F.up b o g λ k q=>by obtain⟨l,p,d⟩:=F.A.fz b o s g;rw[d] at q;cases q⟩
section
variable {w:Wv}{T:Tb}{m0:Nat}{rest:List Str}
def w2 {st0:Stmt}{t:Wz}{r:List Stmt}{L:IS}{it:IE}(N:FnT hb a T ib ps rest fd (st0::.Assert t Wq pos::r) m0)(X:Cx0 prog w hb K₀ T P dep)(h0:oq m T st0=Kf L)(M:aH m T t=Kf it){A:Around} (R:Room (dep+2) A) {outer:List Env} (U:A.frames=Kf outer) {vs:List V} {ws:List Wx} {c:aa} {α:Al} {s:Wj} {Q:Result->Wj->Prop} (hs:1<=s.toks) (C:Cst hb [] c α s.heap) (iv:IsVs c α s.heap vs ws) (h:vs.length=ps.length)(Fr:FrsOk hb c α s.heap outer) {K:aa->Prop} (hw:oK P (dom c) n L ⟨start vs rest.length,c⟩ λ f τ=>f=.next/\fN P n it τ.l τ.c λ b c1=>b=false/\(∀k∈dom c,k∈dom c1)/\K c1)(hQ:∀c' α' M e h' W base S a0,K c'->1<=W->Fled hb outer "AssertionError" c α s.heap c' α' M e h' base S a0->Q (.error<|.ref e) {s with heap:=h',toks:=W}) :codeAny (model prog w) A (.call (.ref a) ⟨ws,[]⟩) Q s:=by
 refine fW N.N R (.inl hs) C iv h λ h₁ W Y EN=>?_;have E:=N.cxE EN.eo;have R1:Room (dep+1) (A.deeper<|callEnvC fd s.heap.objs.size a):=R.deeper _;have s0:=(qV (prog:=prog) (w:=w) (hb:=hb) (P:=P) (K₀:=K₀) (dep:=dep) m).1 T _ _ (dom c) X E R1 st0 L h0 n ⟨start vs rest.length,c⟩ _ (by rw[N.names];simp[start,h]) hw;rw[N.names,dw _ _ _ h] at s0;refine wpAny_execs_cons<|Vq (s0 α _ (λ f s'=>match f with | .next=>wpAny (model prog w) _ (execs (.Assert t Wq pos::r)<|callEnvC fd s.heap.objs.size a) _ _ s'|f=>_) Y EN.F λ f τ α1 g h1' tk1 ht1 k F1 L1 i=>?_) (λ _ _ x=>x) λ _ _ x=>x.elim;obtain⟨σ,hlσ,rfl,rfl,ht⟩:=k;subst i;have T0:=(snd (prog:=prog) (w:=w) (hb:=hb) (P:=P) (K₀:=K₀) (dep:=dep) m T _ _ (dom c) X E R1 t it M).2 _ _ _ _ ht;refine wpAny_execs_cons<|wpAny_Assert_new R1.handled<|Vq (T0 α1 _ _ ht1 (by rw[N.names];exact F1) λ b c2 α2 g h2 tk2 ht2 k u L2 i=>?_) (λ _ _ x=>x) λ _ _ x=>x.elim;obtain⟨rfl,y,hK⟩:=k;subst i;intro h3 e z;have LS:=L1.trans (L2.leS F1.toCst) λ b f=>(u.fr b f).2;obtain⟨C',L'⟩:=EN.le u LS y;have G:FrsOk hb c2 α2 h2 (callEnvC fd s.heap.objs.size a::outer):=λ env j=>by
  rcases Qy.mp j with rfl|j
  exact⟨N.N.kind,_,rfl,(u.fr _<|.inl rfl).1,(u.fr _<|.inl rfl).2,u.ns⟩;exact Fr.le L' env j
 obtain⟨base,b1,b2⟩:=v5 h2 ((callEnvC fd s.heap.objs.size a::outer).filterMap (·.frame));have stay:=v6 b1 b2;obtain⟨ob,tp,j,I,hd⟩:=z.there;have J:base.get? e=Wq:=by cases q:base.get? e with|none=>rfl|some o=>have:=stay e o q;rw[z.new] at this;contradiction
 refine wpAny_leaving_firstW (base:=base) (Around.frames_deeper U) (AY G b2 z.keeps) rfl j (λ b o q=>z.keeps b o<|stay b o q) J hd rfl rfl λ h' hL=>?_;obtain⟨k1,⟨_,_,k2⟩,k3,k4⟩:=hL;rw[I] at k3;refine hQ c2 α2 h2 e h' tk2 base _ _ hK ht2 ⟨C',L',sX G,λ b hb=>?_,λ env j b p=>List.mem_filterMap.mpr ⟨env,.tail _ j,p⟩,λ b o q n=>by rw[b1 b n];exact q,b2,⟨k1,J,k2,k3⟩,λ b o q hn=>k4 b o (z.keeps b o q) hn⟩;obtain⟨env,j,p⟩:=List.mem_filterMap.mp hb;rcases Qy.mp j with rfl|j
 injection p with p;subst p;exact .inr<|rq _
 exact .inl ⟨env,j,p⟩
end
structure Asked (hb:Wu)(outer:List Env)(c:aa)(α:Al)(h:Wu)(c':aa)(α':Al)(h1 h':Wu)(S:Ww->Prop):Prop where
 C:Cst hb [] c' α' h1
 L:Le c α h c' α' h1
 A:Apart S hb c' α' h1
 s:∀b,S b->(∃env∈outer,env.frame=Kf b)\/h.get? b=Wq
 but:But S h1 h'
def yQ (prog:Program)(w:Wv)(hb:Wu)(d:Nat)(a:Ww)(spec:Spec):Prop:=
 ∀(A:Around),Room d A->∀outer,A.frames=Kf outer->∀(vs:List V) (ws:List Wx) (c:aa) (α:Al) (s:Wj) (K:V->aa->Prop) (R:Result->Wj->Prop),
  1<=s.toks->Cst hb [] c α s.heap->IsVs c α s.heap vs ws->FrsOk hb c α s.heap outer->spec vs c K->
  (∀v c' α' h1 g h' tk S,1<=tk->K v c'->Asked hb outer c α s.heap c' α' h1 h' S->a7 c' α' h' v g->R (.ok<|.ret g) {s with heap:=h',toks:=tk})->
  codeAny (model prog w) A (.call (.ref a) ⟨ws,[]⟩) R s
def Eh :Apart (λ _=>False) hb c α h:=⟨λ _ h=>h.elim,λ _ h=>h.elim,λ _ _ h=>h.elim⟩
def Ka :But (λ _=>False) h h:=⟨λ _ _ e _=>e,λ _ _ _ h=>h.elim⟩
section
variable {w:Wv}{T:Tb}
def w6 (X:Cx0 prog w hb K₀ T P dep){A:Around}{env:Env}{l:cI}{j:Str}{f:Ww}(M:T.meth j=Kf f){p:Pos}(q:a8 o=true)(b:(apos.endLine==pos.line)=true)(R:P.isFn f=true)(h:Ev prog w A hb pr env l c o λ u J=>u=.obj k/\J=c) {dk:Nat} {fs:List (Str×V)} (U:ae c k=Kf (.inst P.C dk)) (z:ae c dk=Kf (.ns fs)) (W:look fs j=Wq){α:Al} {s:Wj} {Q:Flow->Wj->Prop} {E:Wx->Wj->Prop} (Y:1<=s.toks) (F:Fst hb pr env l c α s.heap)(hc:∀t i y,1<=y->Fst hb pr env l c t i->Le c α s.heap c t i->codeAny (model prog w) A (.call (.ref f) ⟨[.ref<|t k],[]⟩) (λ r s'=>match r with | .ok (.ret v)=>Q (.ret v) s' | .ok _=>False | .error e=>E e s') {s with heap:=i,toks:=y}) :wpAny (model prog w) A (exec (.Return (Kf<|.Call (.Attribute o j apos) [] [] pos) p) env) Q E s:=by refine wpAny_Return_some<|dJ q rfl (by show 0<30;decide) b<|Vq (h α s (λ ov s₁=>wpAny (model prog w) A (getMethod ov j _) _ E s₁) Y F λ u J t g i y G k1 I L1 i1=>?_) (λ _ _ x=>x) λ _ _ x=>x.elim;obtain⟨rfl,rfl⟩:=k1;obtain⟨rfl,hkm⟩:=i1;obtain⟨m1,m2⟩:=X.meth j f M;refine Vq (qJ (s:={s with heap:=i,toks:=y}) (Q:=λ L s₂=>wpAny (model prog w) A (callWith pos L.1 L.2 _ []) _ E s₂) I X.kin U z X.cls m1 m2 W ?_) (λ _ _ x=>x) λ _ _ x=>x.elim;refine cg rfl<|PySem.evalArgs_none ⟨gQ X (u:=.val<|.ref f) I.toCst rfl<|.inr<|.inl ⟨f,rfl,R⟩,?_⟩;exact wpAny_call<|hc t i y G I L1
def tt (X:Cx0 prog w hb K₀ T P dep){A:Around}{env:Env}(E:CxE env T)(hfr:A.frames=Kf (env::outer)){L:Ww}(hfe:env.frame=Kf L){nm:Str}{f:Ww}(hm:T.meth nm=Kf f){p np rp hp cp:Pos}{r:Str}(Y:a8 o=true) (J:(apos.endLine==pos.line)=true) {k:Nat} {Kc:aa->Prop} (hf:P.isFn f=true) (hx:d9 T x=Kf (.g<|.val<|.type "AssertionError"))(h:Ev prog w A hb pr env (ad T.names l) c o λ u c1=>u=.obj k/\c1=c) {dk:Nat} {fs:List (Str×V)} (hk:ae c k=Kf (.inst P.C dk)) (hdk:ae c dk=Kf (.ns fs)) (hv:look fs nm=Wq){α:Al} {s:Wj} {Q:Flow->Wj->Prop} {E0:Wx->Wj->Prop} (hs:1<=s.toks) (F:Fst hb pr env (ad T.names l) c α s.heap)(hc:∀U W t1,1<=t1->Fst hb pr env (ad T.names l) c U W->Le c α s.heap c U W->∀R:Result->Wj->Prop,(∀c' I z e h' G base S a0,Kc c'->1<=G->Fled hb (env::outer) "AssertionError" c U W c' I z e h' base S a0->R (.error (.ref e)) {s with heap:=h',toks:=G})->codeAny (model prog w) A (.call (.ref f) ⟨[.ref (U k)],[]⟩) R {s with heap:=W,toks:=t1})(hq:∀c' I z M S G t,Kc c'->1<=G->Le c α s.heap c' I z->Fst hb pr env (ad T.names l) c' I z->Apart S hb c' I z->(∀b,S b->(∃env'∈env::outer,env'.frame=Kf b)\/s.heap.get? b=Wq)->But S z M->Q (.ret<|.str r t) {s with heap:=M,toks:=G}) :wpAny (model prog w) A (exec (.Try [.Return (Kf<|.Call (.Attribute o nm apos) [] [] pos) p] [.ExceptHandler (Kf<|.Name x np) Wq [.Return (Kf<|.Constant (.str r) kk cp) rp] hp] [] [] tp) env) Q E0 s:=by
 refine wpAny_Try_except<|wpAny_execs_cons<|w6 X hm Y J hf h hk hdk hv hs F λ U W t1 ht1 F1 L1=>hc U W t1 ht1 F1 L1 _ λ c' I z e h' G base S a0 hK htk y=>?_;refine wpAny_looks_onW (s:={s with heap:=h',toks:=G}) hfr hfe y.fl λ h3 H3 u3=>?_;refine wpAny_landsW (s:={s with heap:=h3,toks:=G}) H3 λ M f4 u4=>?_;have C2:Cst hb pr c' I z:=⟨y.C.base,y.C.cell,y.C.fresh,y.C.inj,λ j hj=>y.L.dom j<|F1.prs j hj⟩;have F2:Fst hb pr env (ad T.names l) c' I z:=F1.le y.L C2;have B4:But S z M:=⟨λ b o g n=>f4.1 b o (y.keep b o g n),λ b o g n=>((y.up.trans u3).trans u4) b o g λ vs q=>by obtain⟨es,ep,d⟩:=y.A.fz b o n g;rw[d] at q;cases q⟩;have F4:=B4.fst y.A F2;refine wpAny_handleBy_builtin (X:="AssertionError") (T:="AssertionError") (b:=true) (isSubtype_of_subB<|{3}) (isSubtype_of_subB<|{3}) (isSubtype_of_subB<|{3}) ?_;obtain⟨hn,hx'⟩:=gG hx;obtain⟨n1,n2⟩:=gh hn;rcases hx' with ⟨i,_,q⟩|⟨v,hkd,hvG,q⟩
 exact nomatch (congrArg Ik q:Kf _=Wq);injection q with q
 subst q;obtain⟨g,ig,ld⟩:=X.glob x _ hvG;obtain rfl:g=_:=ig [] (λ _=>0) M;refine Vq (wpAny_Name (ld env _ {s with heap:=M,toks:=G} (λ c s₁=>c=.type "AssertionError"/\s₁.TypeIs (.ref e) "AssertionError"/\if true=true then _ else _) E.eo E.gl E.bl (E.kg x hkd) F4.base ⟨rfl,f4.there,?_⟩) n1) (λ _ _ x=>x) λ _ _ x=>x.elim;rw[Wy rfl];refine wpAny_setFlight_noneW (s:={s with heap:=M,toks:=G}) f4.1 f4.2.2.1 f4.2.2.2.at λ h5 k1 k2 k3 k4=>?_;refine wpAny_execs_cons<|wpAny_Return_some<|wpAny_Constant_str ?_;refine hq c' I z h5 S _ _ hK (Nat.le_succ_of_le htk) (L1.trans y.L) F2 y.A (λ b hb=>?_) ⟨λ b o g n=>k1 b o (y.keep b o g n),λ b o g n=>?_⟩;rcases y.s b hb with q|q
 exact .inl q;refine .inr ?_;cases q':s.heap.get? b with|none=>rfl|some o=>by_cases n:aD c α b;obtain⟨j,hj,rfl⟩:=n;obtain⟨o',e'⟩:=F1.toCst.ex hj;rw[L1.agree j hj,q] at e';contradiction;rw[L1.kept _ _ q' n] at q;contradiction
 obtain⟨es,ep,d⟩:=y.A.fz b o n g;have nf:∀vs,o.data≠.fields vs:=λ vs q=>by rw[d] at q;cases q
 obtain⟨sl,e4⟩:=((y.up.trans u3).trans u4) b o g nf;exact⟨sl,k4 b _ e4 nf⟩
end
def ly (prog:Program)(w:Wv)(hb:Wu)(d:Nat)(f:Ww)(spec:List V->aa->(aa->Prop)->Prop):Prop:=
 ∀(A:Around),Room d A->∀outer,A.frames=Kf outer->∀(vs:List V) (ws:List Wx) (c:aa) (α:Al) (s:Wj) (K:aa->Prop) (R:Result->Wj->Prop),
  1<=s.toks->Cst hb [] c α s.heap->IsVs c α s.heap vs ws->FrsOk hb c α s.heap outer->spec vs c K->
  (∀c' α' h1 e h' tk base S a0,K c'->1<=tk->Fled hb outer "AssertionError" c α s.heap c' α' h1 e h' base S a0->R (.error<|.ref e) {s with heap:=h',toks:=tk})->
  codeAny (model prog w) A (.call (.ref f) ⟨ws,[]⟩) R s
section
variable {w:Wv}{T:Tb}
def wr {o:Nat}{p:FuncData}{q:List IS}{rest:List Str}{st0:Stmt}{t:Wz}{r:List Stmt}{i:IS}{it:IE}(N:FnT hb a T q ps rest p (st0::.Assert t Wq pos::r) o)(X:Cx0 prog w hb K₀ T P dep)(u:oq m T st0=Kf i)(x:aH m T t=Kf it){spec:List V->aa->(aa->Prop)->Prop} (h:∀vs c K,spec vs c K->vs.length=ps.length/\∃n,oK P (dom c) n i ⟨start vs rest.length,c⟩ λ f τ=>f=.next/\fN P n it τ.l τ.c λ b j=>b=false/\(∀k∈dom c,k∈dom j)/\K j):ly prog w hb (dep+2) a spec:=
 λ A R outer e vs J c α s K Q y C z Fr sp G=>by obtain⟨hl,n,I⟩:=h vs c K sp;exact w2 N X u x R e y C z hl Fr I G
theorem kZ {env:Env}{A:Around}(X:Cx0 prog w hb K₀ T P dep)(E:CxE env T)(R:Room (dep+1) A){r:List Stmt}{Q:Flow->Wj->Prop}{h:Wx->Wj->Prop}:∀(b:List Stmt) (m:Nat) (e:List IS),aV m T b=Kf e->∀(n:Nat) (σ:Sg') (K:F->Sg'->Prop),σ.l.length=T.names.length->aJ P pr n e σ K->∀(α:Al) (s:Wj),1<=s.toks->Fst hb pr env (ad T.names σ.l) σ.c α s.heap->(∀f τ i g h' j,1<=j->KS T.names K f τ->Fst hb pr env τ.l τ.c i h'->LeS pr env σ.c α s.heap τ.c i h'->IK τ.c i h' f g->match g with
   | .next=>wpAny (model prog w) A (execs r env) Q h {s with heap:=h',toks:=j}|g=>Q g {s with heap:=h',toks:=j})->wpAny (model prog w) A (execs (b++r) env) Q h s:=by
 intro b m e k n σ K hl o α s p F q;exact (yc (prog:=prog) (w:=w) (hb:=hb) (P:=P) (K₀:=K₀) (dep:=dep) m).2 T env A pr X E R r Q h b e k n σ K hl o α s p F q
inductive Last (P:Pm)(n:Nat)(f:Ww)(nm:Str)(i:Nat)(rs:List V->aa->(aa->Prop)->Prop)(c0:aa)(r:Str)(K:V->aa->Prop)(σ:Sg'):Prop
 |tells (h:aU P n (.umeth (.v i) f nm []) σ.l σ.c λ v c1=>EndP c0 K (.ret v) ⟨σ.l,c1⟩)
 |raises (k dk:Nat) (fs:List (Str×V)) (hi:av σ.l i=Kf (.obj k)) (hk:ae σ.c k=Kf (.inst P.C dk)) (hdk:ae σ.c dk=Kf (.ns fs)) (hv:look fs nm=Wq) (Kc:aa->Prop) (hr:rs [.obj k] σ.c Kc) (hK:∀c',Kc c'->K (.d (.str r)) c')
theorem Eu {m2:Nat}{rest:List Str}{b:List Stmt}{nm:Str}{f:Ww}{p np rp hp cp:Pos}{r:Str}{rs:List V->aa->(aa->Prop)->Prop}(N:FnK hb a T ps rest fd<|b++[.Try [.Return (Kf<|.Call (.Attribute o nm apos) [] [] pos) p] [.ExceptHandler (Kf<|.Name x np) Wq [.Return (Kf<|.Constant (.str r) kk cp) rp] hp] [] [] tp]) (X:Cx0 prog w hb K₀ T P<|dep+1)(hB:aV m T b=Kf ib) (hC:aH m2 T (.Call (.Attribute o nm apos) [] [] pos)=Kf (.umeth (.v i) f nm [])) (ho:aH m2 T o=Kf (.v i)) (hm:T.meth nm=Kf f) (hf:P.isFn f=true) (hsup:a8 o=true) (Y:(apos.endLine==pos.line)=true) (hx:d9 T x=Kf (.g<|.val<|.type "AssertionError"))(RO:ly prog w hb (dep+1) f rs)(h:∀vs c K,spec vs c K->vs.length=ps.length/\∃n,aJ P (dom c) n ib ⟨start vs rest.length,c⟩ λ fl τ=>match fl with
   | .ret v=>EndP c K (.ret v) τ| .next=>Last P n f nm i rs c r K τ|_=>False):yQ prog w hb (dep+3) a spec:=by
 intro A R outer hfr vs ws c α s K Q hs C iv Fr sp hQ;obtain⟨z,n,hw⟩:=h vs c K sp;refine fW N.N R (.inl hs) C iv z λ h₁ tk htk EN=>?_;have E:=N.cxE EN.eo;have R1:Room (dep+2) (A.deeper<|callEnvC fd s.heap.objs.size a):=R.deeper _;have F0:=EN.F;rw[<-dw ps rest vs z,<-N.names] at F0;have endp:∀{v:V} {σ:Sg'} {l':cI} {M:Al} {g:Wx} {G:Wu} {I:Nat},1<=I->EndP c K (.ret v) σ->Fst hb (dom c) (callEnvC fd s.heap.objs.size a) l' σ.c M G->LeS (dom c) (callEnvC fd s.heap.objs.size a) c α h₁ σ.c M G->a7 σ.c M G v g->Q (.ok<|.ret g) {s with heap:=G,toks:=I}:=by intro v σ l' M g G I J ⟨v',c',hv,hc,hd,hK⟩ y L1 ig;have W:Weak (dom c) ⟨l',σ.c⟩ ⟨[],c'⟩:=⟨trivial,hc,hd⟩;have e:=W.fst y;have L2:=W.leS L1;obtain⟨C',L'⟩:=EN.le e L2 hd;exact hQ v' c' M G g G I (λ _=>False) J hK ⟨C',L',Eh,λ _ h=>h.elim,Ka⟩<|n8 y.toCst (λ k U=>dN hc k U) hv ig
 refine kZ X E R1 b m ib hB n ⟨start vs rest.length,c⟩ _ (by rw[N.names];simp[start,z]) hw α _ htk F0 λ fl τ M g G I J k y L1 ig=>?_;obtain⟨σ,hlσ,rfl,k⟩:=k
 cases fl with|brk=>exact k.elim|cont=>exact k.elim|ret v=>obtain⟨g',rfl,ig⟩:=ig;exact endp J k y L1 ig|next=>
  subst ig
  cases k with
  |tells hE=>have S0:=(snd (prog:=prog) (w:=w) (hb:=hb) (P:=P) (K₀:=K₀) (dep:=dep+1) m2 T _ _ (dom c) X E R1 _ _ hC).1 _ _ _ _ hE;refine wpAny_execs_cons<|wpAny_Try_except<|wpAny_execs_cons<|wpAny_Return_some<|Vq (S0 M _ (λ v s'=>Q (.ok<|.ret v) s') J y λ v c2 α2 g h2 tk2 ht2 k2 e L2 i2=>?_) (λ _ _ x=>x) λ _ _ x=>x.elim;exact endp (σ:=⟨σ.l,c2⟩) ht2 k2 e (L1.trans (L2.leS y.toCst) λ b hf=>(e.fr b hf).2) i2
  |raises k dk fs hi U hdk hv Kc hr hK=>
   have Ev0:=(snd (prog:=prog) (w:=w) (hb:=hb) (P:=P) (K₀:=K₀) (dep:=dep+1) m2 T _ _ (dom c) X E R1 _ _ ho).1 1 σ.l σ.c (λ u c1=>u=.obj k/\c1=σ.c)<|by show aC (av σ.l i) _;rw[hi];exact⟨rfl,rfl⟩
   obtain⟨C1,L⟩:=EN.le y L1 y.prs;have Fr1:=Fr.le L;have FrE:FrsOk hb σ.c M G (callEnvC fd s.heap.objs.size a::outer):=λ env he=>by
    rcases Qy.mp he with rfl|he
    exact⟨N.N.kind,_,rfl,(y.fr _<|.inl rfl).1,(y.fr _<|.inl rfl).2,y.ns⟩;exact Fr1 env he
   refine wpAny_execs_cons<|tt X E (outer:=outer) (Around.frames_deeper hfr) rfl hm hsup Y (k:=k) (Kc:=Kc) hf hx Ev0 U hdk hv J y (λ α2 h2 t2 ht2 e L2 R' hR'=>?_) λ c' α' h2 h4 S tk' t hKc htk' L2 e Ap hS B=>?_;exact RO _ (R1.less<|Nat.le_succ _) _ (Around.frames_deeper hfr) [.obj k] [.ref<|α2 k] σ.c α2 _ Kc R' ht2 ⟨e.base,e.cell,e.fresh,e.inj,λ _ U=>by cases U⟩ (.cons ⟨rfl,aj U⟩ .nil) (FrE.le L2) hr hR';refine hQ (.d<|.str r) c' α' h2 _ h4 tk' S htk' (hK c' hKc) ⟨⟨e.base,e.cell,e.fresh,e.inj,λ _ U=>by cases U⟩,L.trans L2,Ap,λ b hb=>?_,B⟩ (.str _ _);rcases hS b hb with ⟨env,he,hf'⟩|q
   rcases Qy.mp he with rfl|he
   refine .inr ?_;have:b=s.heap.objs.size:=(Option.some.inj hf').symm;rw[this];cases q:s.heap.get? s.heap.objs.size with|none=>rfl|some o=>exact absurd (Heap.lt_size q)<|Nat.lt_irrefl _
   exact .inl ⟨env,he,hf'⟩;refine .inr ?_;cases q':s.heap.get? b with|none=>rfl|some o=>by_cases n:aD c α b;obtain⟨j,hj,rfl⟩:=n;obtain⟨o',e'⟩:=C1.ex<|L.dom j hj;rw[L.agree j hj] at e';have q:G.get? (α j)=Wq:=q;rw[q] at e';contradiction;have:=L.kept _ _ q' n;have q:G.get? b=Wq:=q;rw[q] at this;contradiction
end
def je (C:Ww):Spec:=λ vs c K=>∃k dk a b,vs=[.obj k,.d<|.int a,.d<|.int b]/\Wf c/\ae c k=Kf (.inst C dk)/\ae c dk=Kf (.ns [])/\K (.d .none) (cset c dk<|.ns [(dR,.d<|.int a),(dW,.d<|.int b)])
def lA (C:Ww):Spec:=λ vs c K=>∃k dk a b x,vs=[.obj k,.d<|.str x]/\Wf c/\ae c k=Kf (.inst C dk)/\ae c dk=Kf (.ns [(dR,.d<|.int a),(dW,.d<|.int b)])/\TextOk x/\K (.d .none) (cset c dk<|.ns<|aw x a b (L0 0) 0)
noncomputable def yT:List Nat:=[55037,56020]
noncomputable def lm:List Nat:=[55037,56020,153016,154021,155021]
abbrev mI:Str->Prop:=λ _=>True
def xX:Spec:=aX 255 yT 1 mI fy
def wH:Spec:=aX 255 lm 2 mI fy
def R0:Str->Int->Int->L2->V->Prop:=λ x _ _ _ v=>v=.d (.int<|ar<|fin x)
def R1:Str->Int->Int->L2->V->Prop:=λ x _ _ _ v=>v=.d (.int<|kW<|fin x)
def R2:Str->Int->Int->L2->V->Prop:=λ _ _ _ s v=>v=.d (.tup<|b9 s.br)
def R3:Str->Int->Int->L2->V->Prop:=λ _ _ _ s v=>v=.d (.bool<|s.last==⟨#[58]⟩)
def R4:Str->Int->Int->L2->V->Prop:=λ x _ _ _ v=>v=.d (.bool<|dY x)
def xU:Spec:=λ vs c K=>∃k dk x a tab p s i,vs=[.obj k]/\Par 255 c k dk x a (tab:Nat) s i/\(∀j∈lm,j∉dom c)/\IndPre x tab p/\
 ∀s',Par 255 (cset c dk<|.ns<|aw x a (tab:Nat) s' 2) k dk x a (tab:Nat) s' 2->K (.d<|.int<|eF x a tab p) (cset c dk<|.ns<|aw x a (tab:Nat) s' 2)
def xV:List V->aa->(aa->Prop)->Prop:=λ vs c K=>∃k dk x a b s i,vs=[.obj k]/\Par 255 c k dk x a b s i/\(∀j∈lm,j∉dom c)/\ar (fin x)≠4/\
 ∀s',Par 255 (cset c dk<|.ns<|aw x a b s' 2) k dk x a b s' 2->K (cset c dk<|.ns<|aw x a b s' 2)
def jA:Spec:=λ vs c K=>Wf c/\∃x a tab,vs=[sV x,.d<|.int a,nV tab]/\Ok3 x/\0<tab/\∀d g p,Due x a tab d g p->K (.d<|.lst d) c
def Kr (h:∀j∈lm,j∉dom c):∀j∈yT,j∉dom c:=λ j b=>h j<|List.mem_of_mem_take (i:=2) (l:=lm) b
def z8 (l:List<|Addr×Spec):Ww->Spec:=λ a=>match l.lookup a with|some s=>s|none=>IF a
noncomputable def C4 (l:List<|Addr×Spec):Ww->Bool:=λ a=>(l.lookup a).isSome
def PT (w:Wv)(l:List<|Addr×Spec):Pm:=Jj w (z8 l)<|C4 l
def xn {l:List (Ww×Spec)}(h:C4 l a=true):∃s,(a,s)∈l/\z8 l a=s:=by unfold C4 at h;unfold z8;induction l with|nil=>contradiction|cons q l ih=>obtain⟨b,s⟩:=q;rw[Zq] at h ⊢;cases e:a==b with|true=>rw[beq_iff_eq.mp e];exact⟨s,.head _,rfl⟩|false=>rw[e] at h;obtain⟨f,i,j⟩:=ih h;exact⟨f,.tail _ i,j⟩
section
variable {w:Wv}{p:Params}{mb:Str->Option Wx}(B:Base1 w p hb mg mb)
include B
abbrev FF (prog:Program) (w:Wv) (hb:Wu) (dep a:Nat) (s:Spec):Prop:=(∃k,Looks (model prog w) hb (keeperOf<|.ref a) k)/\FnOk prog w hb dep a s
def Ff (a:Ww){l:List (Ww×Spec)}(h:∀q∈l,FF prog w hb dep q.1 q.2)(hi:FnOk prog w hb dep 161<|z8 l 161):Cx0 prog w hb (K1 p) (T1 p a) (PT w l) dep:=
 KV B a (λ a b=>by obtain⟨s,e,f⟩:=xn b;rw[f];exact h _ e) hi
omit B in
theorem kI {a:Nat}:FnOk prog w hb dep a (IF a):=λ A r e f c α s K R h i j b=>b.elim
def mH {T:Tb}{b:List IS}{rest:List Str}{e:FuncData}(N:FnT hb a T b ps rest e body m){s:Spec}(F:FnOk prog w hb dep a s){d:Nat}(f:dep<=d):FF prog w hb d a s:=
 ⟨let ⟨_,h,i⟩:=N.N.at_;k9 B h i,F.more f⟩
omit B in
theorem Hr {q:Ww}(P:PatAt hb a q code){d:Nat}:FF prog w hb d a (aP code):=⟨pW P,DW P⟩
def EZ (a:Ww):Cx0 prog w hb (K1 p) (T1 p a) (PT w []) 0:=Ff B a (λ q h=>by cases h) kI
def BW:FnOk prog w hb 2 161 (je 255):=by refine cF (qO B.x B.lim) (EZ B 161) λ j c K h=>?_;obtain⟨k,l,a,b,rfl,W,f,e,i⟩:=h;exact⟨rfl,_,AC (P:=PT w []) (n:=0) (cy _ _ _) W f e i⟩
def Ja:FnOk prog w hb 2 168 (lA 255):=by refine cF (yJ B.x B.lim) (EZ B 168) λ j c K h=>?_;obtain⟨k,l,a,b,r_⟩:=h;obtain⟨x,rfl,W,f,r_⟩:=r_;obtain⟨e,T,i⟩:=r_;exact⟨rfl,_,E4 (P:=PT w []) (n:=0) (cy _ _ _) W f e T i⟩
def DZ:FnOk prog w hb 2 189 xX:=by
 refine cF (nY B.x B.lim) (EZ B 189) λ l c K h=>?_;obtain⟨k,o,x,a,r_⟩:=h;obtain⟨b,s,i,rfl,r_⟩:=r_;obtain⟨q,e,_,h⟩:=r_;refine⟨rfl,130,?_⟩;have f:(bb (K1 p) 189).length=12:={2}
 rw[f];exact tm (P:=PT w []) (n:=0) (cy _ _ _) rfl rfl q (e _<|.head _) (e _<|.tail _<|.head _) {4} λ j=>h _ _ rfl j
noncomputable abbrev l1:List (Ww×Spec):=[(189,xX),(68,aP Re.junkC),(69,aP Re.strC),(72,aP Re.chewC)]
omit B in
theorem de {C:Ww×Spec->Prop}{q:Ww×Spec}{l:List (Ww×Spec)}(h:C q)(r:∀q∈l,C q):∀b∈q::l,C b:=Qx.mpr ⟨h,r⟩
def JI (a:Ww):Cx0 prog w hb (K1 p) (T1 p a) (PT w l1) 2:=Ff B a (de (mH B (nY B.x B.lim) (DZ B)<|{4})<|de (Hr<|pJ B)<|de (Hr<|pS B)<|de (Hr<|pO B) nofun) kI
def yX:FnOk prog w hb 4 203 wH:=by
 refine cF (kF B.x B.lim) (JI B 203) λ r c K h=>?_;obtain⟨k,t,x,a,r_⟩:=h;obtain⟨b,s,i,rfl,r_⟩:=r_;obtain⟨q,f,_,h⟩:=r_;refine⟨rfl,130,?_⟩;have j:(bb (K1 p) 203).length=13:={2}
 rw[j];exact sJ (P:=PT w l1) (n:=0) (cy _ _ _) q (f _<|.head _) (f _<|.tail _<|.head _) (f _<|.tail _<|.tail _<|.head _) (f _<|.tail _<|.tail _<|.tail _<|.head _) (f _<|.tail _<|.tail _<|.tail _<|.tail _<|.head _) {4} {4} {4} rfl rfl rfl rfl rfl rfl rfl rfl λ l o=>by have e:=h (.d .none) l rfl;rw[sU q.le] at e;exact e o
def Gx:FnOk prog w hb 4 196 (aX 255 yT 1 mI R0):=by refine cF (ry B.x B.lim) (JI B 196) λ j c K h=>?_;obtain⟨k,l,x,a,r_⟩:=h;obtain⟨b,s,i,rfl,r_⟩:=r_;obtain⟨q,e,_,h⟩:=r_;exact⟨rfl,_,yH (P:=PT w l1) (n:=0) (need:=1) (Fs:=yT) (d:=λ _=>.int<|ar<|fin x) q {3} {2} rfl rfl e (λ _=>rfl) (λ f=>(Cz q.le f).1) h⟩
def J7:FnOk prog w hb 4 217 (aX 255 yT 1 mI R1):=by
 refine cF (vd B.x B.lim) (JI B 217) λ j c K h=>?_;obtain⟨k,l,x,a,r_⟩:=h;obtain⟨b,s,i,rfl,r_⟩:=r_;obtain⟨q,e,_,h⟩:=r_;refine⟨rfl,20,?_⟩;have f:(bb (K1 p) 217).length=1:={2}
 rw[f];exact EY (P:=PT w l1) (n:=0) (Fs:=yT) (cy _ _ _) q rfl rfl e (λ _=>rfl) h
noncomputable abbrev l2:List (Ww×Spec):=[(203,wH),(70,aP Re.itemC),(71,aP Re.closeC)]
def H9 (a:Ww):Cx0 prog w hb (K1 p) (T1 p a) (PT w l2) 4:=Ff B a (de (mH B (kF B.x B.lim) (yX B)<|{4})<|de (Hr<|pI B)<|de (Hr<|pC B) nofun) kI
def H4:FnOk prog w hb 6 252 (aX 255 lm 2 mI R2):=by refine cF (rV B.x B.lim) (H9 B 252) λ j c K h=>?_;obtain⟨k,l,x,a,r_⟩:=h;obtain⟨b,s,i,rfl,r_⟩:=r_;obtain⟨q,f,_,h⟩:=r_;exact⟨rfl,_,yH (P:=PT w l2) (n:=0) (need:=2) (Fs:=lm) (d:=λ e=>.tup<|b9 e.br) q {3} {2} rfl rfl f (λ _=>rfl) (λ e=>(mF q.le e).2.1) h⟩
def H2:FnOk prog w hb 6 238 (aX 255 lm 2 mI R3):=by refine cF (kJ B.x B.lim) (H9 B 238) λ f c K h=>?_;obtain⟨k,j,x,a,r_⟩:=h;obtain⟨b,s,i,rfl,r_⟩:=r_;obtain⟨q,e,_,h⟩:=r_;exact⟨rfl,_,uk (P:=PT w l2) (n:=0) (Fs:=lm) (cy _ _ _) q rfl rfl e (λ _=>rfl) h⟩
def Hm:FnOk prog w hb 6 245 (aX 255 lm 2 mI R4):=by refine cF (k8 B.x B.lim) (H9 B 245) λ f c K h=>?_;obtain⟨k,j,x,a,r_⟩:=h;obtain⟨b,s,i,rfl,r_⟩:=r_;obtain⟨q,e,_,h⟩:=r_;exact⟨rfl,_,uh (P:=PT w l2) (n:=0) (Fs:=lm) (cy _ _ _) q rfl rfl e rfl rfl (λ _=>rfl) h⟩
def Kg:FnOk prog w hb 6 210 xU:=by
 refine cF (oV B.x B.lim) (H9 B 210) λ f c K h=>?_;obtain⟨k,j,x,a,r_⟩:=h;obtain⟨tab,l,s,i,r_⟩:=r_;obtain⟨rfl,q,b,J,h⟩:=r_;refine⟨rfl,61,?_⟩;have e:(bb (K1 p) 210).length=7:={2}
 rw[e];exact AX (P:=PT w l2) (n:=0) (Fs:=lm) (cy _ _ _) q rfl rfl b rfl rfl J h
def Hx:FnOk prog w hb 2 266 gq:=by refine cF (rx B.x B.lim) (EZ B 266) λ o c K h=>?_;obtain⟨k,l,b,rfl,W,e,f,i,j⟩:=h;exact⟨rfl,_,Bz (P:=PT w []) (n:=0) W e f i j⟩
def JJ:FnOk prog w hb 2 273 iL:=by
 refine cF (lf B.x B.lim) (EZ B 273) λ l c K h=>?_;obtain⟨W,x,k,d,r_⟩:=h;obtain⟨r,rfl,b,e,r_⟩:=r_;obtain⟨f,i⟩:=r_;refine⟨rfl,40,?_⟩;have j:(bb (K1 p) 273).length=1:={2}
 rw[j];exact ub (P:=PT w []) (n:=0) W (ba<|by exact {b}) e f i
def CB:FnOk prog w hb 2 287 dc:=by refine cF (lW B.x B.lim) (EZ B 287) λ i c K h=>?_;obtain⟨W,x,k,rfl,r_⟩:=h;obtain⟨b,e,f⟩:=r_;exact⟨rfl,_,z9 (P:=PT w []) (n:=0) W (ba<|by exact {b}) e f⟩
def JR:FnOk prog w hb 2 294 iF:=by
 refine cF (vx B.x B.lim) (EZ B 294) λ j c K h=>?_;obtain⟨W,x,k,rfl,r_⟩:=h;obtain⟨b,e,f⟩:=r_;refine⟨rfl,20,?_⟩;have i:(bb (K1 p) 294).length=2:={2}
 rw[i];exact tc (P:=PT w []) (n:=0) W b e f
noncomputable abbrev l3:List (Ww×Spec):=[(273,iL),(287,dc),(294,iF)]
def KI (a:Ww):Cx0 prog w hb (K1 p) (T1 p a) (PT w l3) 2:=Ff B a (de (mH B (lf B.x B.lim) (JJ B)<|{4})<|de (mH B (lW B.x B.lim) (CB B)<|{4})<|de (mH B (vx B.x B.lim) (JR B)<|{4}) nofun) kI
def HF:FnOk prog w hb 4 280 jt:=by
 refine cF (rc B.x B.lim) (KI B 280) λ l c K h=>?_;obtain⟨W,x,k,rfl,r_⟩:=h;obtain⟨b,e,f,i⟩:=r_;refine⟨rfl,80,?_⟩;have j:(bb (K1 p) 280).length=6:={2}
 rw[j];exact l8 (P:=PT w l3) (n:=0) rfl rfl ⟨W,b,e⟩ f i
def Ho:FnOk prog w hb 4 301 iS:=by
 refine cF (kE B.x B.lim) (KI B 301) λ k c K h=>?_;obtain⟨W,x,q,a,r_⟩:=h;obtain⟨tab,rfl,b,e,r_⟩:=r_;obtain⟨f,i⟩:=r_;refine⟨rfl,40,?_⟩;have j:(bb (K1 p) 301).length=2:={2}
 rw[j];exact tv (P:=PT w l3) (n:=0) rfl rfl rfl rfl W b e f i
noncomputable abbrev l4:List (Ww×Spec):=[(280,jt),(287,dc),(301,iS)]
def K7 (a:Ww):Cx0 prog w hb (K1 p) (T1 p a) (PT w l4) 4:=Ff B a (de (mH B (rc B.x B.lim) (HF B)<|{4})<|de (mH B (lW B.x B.lim) (CB B)<|{4})<|de (mH B (kE B.x B.lim) (Ho B)<|{4}) nofun) kI
def HQ:FnOk prog w hb 6 308 jA:=by
 refine cF (ro B.x B.lim) (K7 B 308) λ j c K h=>?_;obtain⟨W,x,a,tab,r_⟩:=h;obtain⟨rfl,b,e,f⟩:=r_;refine⟨rfl,60,?_⟩;have i:(bb (K1 p) 308).length=12:={2}
 rw[i];exact zR (P:=PT w l4) (n:=0) rfl rfl rfl rfl rfl rfl W b e f
omit B in
theorem Du {K:F->Sg'->Prop}(h:aU P n e l c λ v b=>K .next ⟨l,b⟩):oK P pr (n+1) (.expr e) ⟨l,c⟩ K:=h
noncomputable def uM:Stmt:=.Break ⟨0,0,0,0⟩
noncomputable def zP:Pos:=⟨0,0,0,0⟩
def zE:Wz:=.Constant .none 0 zP
def KR (s:Stmt):Wz×Pos:=if h:s.ctorIdx=19 then @Stmt.Assert.elim (λ _=>_) s h λ t _ p=>(t,p) else (zE,zP)
def KL (s:Stmt):Wz:=(KR s).1
def K3 (s:Stmt):Pos:=(KR s).2
omit B in
theorem wW (p:Params):aq (K1 p) 210=(aq (K1 p) 210).headD uM::.Assert (KL<|(aq (K1 p) 210).tail.headD uM) Wq (K3<|(aq (K1 p) 210).tail.headD uM)::(aq (K1 p) 210).tail.tail:={2}
omit B in
theorem BK (p:Params):oq 59 (T1 p 210) ((aq (K1 p) 210).headD uM)=Kf (.expr<|.umeth (.v 0) 203 Fn []):={2}
omit B in
theorem AD (p:Params):aH 59 (T1 p 210) (KL<|(aq (K1 p) 210).tail.headD uM)=Kf (.cmp .Eq (.attr (.v 0) n6)<|.g<|.d<|.int 4):={2}
def Jy:ly prog w hb 6 210 xV:=by have N:=oV B.x B.lim;rw[wW p] at N;refine wr N (H9 B 210) (BK p) (AD p) λ z c K h=>?_;obtain⟨k,t,x,a,r_⟩:=h;obtain⟨b,s,i,rfl,r_⟩:=r_;obtain⟨q,u,y,h⟩:=r_;refine⟨rfl,11,Du<|lx (n:=7) rfl q.k_ q.d_ (oz q.le<|{3}) rfl _ ?_⟩;refine⟨k,t,x,a,b,s,i,rfl,q,u,trivial,λ v r e f=>⟨λ j l=>by rw[ai];exact l,rfl,?_⟩⟩;rw[sU q.le] at f ⊢;refine cM (P:=PT w l2) (n:=10) (q:=false) (λ o h=>bt (n:=8) rfl f.k_ f.d_ (cy w _ _).ct (Kx a b r).1 rfl o h) xg (λ o h=>?_) _ ⟨rfl,λ j l=>by rw[ai];exact l,h r f⟩;show o (ar (fin x)==4);rw[beq_eq_false_iff_ne.mpr y];exact h
end
def Gc (s:Stmt):List Stmt×List ExceptHandler×Pos:=if h:s.ctorIdx=17 then @Stmt.Try.elim (λ _=>_) s h λ b x _ _ p=>(b,x,p) else ([],[],zP)
def tryB (s:Stmt):Stmt:=(Gc s).1.headD uM
def Jd (s:Stmt):Option ExceptHandler:=(Gc s).2.1.head?
def Ki (s:Stmt):Pos:=(Gc s).2.2
def BS (s:Stmt):Option Wz×Pos:=if h:s.ctorIdx=3 then @Stmt.Return.elim (λ _=>_) s h λ e p=>(e,p) else (Wq,zP)
def w4 (s:Stmt):Wz:=(BS s).1.getD zE
def Iz (s:Stmt):Pos:=(BS s).2
def D1 (e:Wz):Wz×List Wz×Pos:=if h:e.ctorIdx=16 then @Expr.Call.elim (λ _=>_) e h λ f a _ p=>(f,a,p) else (zE,[],zP)
def uB (e:Wz):Wz:=(D1 e).1
def FM (e:Wz):Pos:=(D1 e).2.2
def HR (e:Wz):Wz×Str×Pos:=(eJ e).getD (zE,⟨#[]⟩,zP)
def D2 (e:Wz):Wz:=(HR e).1
def Hq (e:Wz):Pos:=(HR e).2.2
def JD (e:Wz):Str×Pos:=(cn e).getD (⟨#[]⟩,zP)
def qz (e:Wz):Pos:=(JD e).2
def Jp:Option ExceptHandler->Wz|some (.ExceptHandler (Kf e) _ _ _)=>e|_=>zE
def DT:Option ExceptHandler->Stmt|some (.ExceptHandler _ _ b _)=>b.headD uM|_=>uM
def Jz:Option ExceptHandler->Pos|some (.ExceptHandler _ _ _ p)=>p|_=>zP
def Gy (e:Wz):Nat×Pos:=if h:e.ctorIdx=19 then @Expr.Constant.elim (λ _=>_) e h λ _ k p=>(k,p) else (0,zP)
def Jc (e:Wz):Nat:=(Gy e).1
def Jr (e:Wz):Pos:=(Gy e).2
abbrev si (p:Params):Stmt:=(aq (K1 p) 315).getLastD uM
abbrev j9 (p:Params):Wz:=w4<|tryB<|si p
abbrev xO (p:Params):Option ExceptHandler:=Jd<|si p
abbrev ID (p:Params):List Stmt:=(aq (K1 p) 315).dropLast
def w7 (p:Params):aq (K1 p) 315=ID p++[.Try [.Return (Kf (.Call (.Attribute (D2 (uB (j9 p))) (Qq "compute_bracket_indent") (Hq (uB (j9 p)))) [] [] (FM (j9 p)))) (Iz (tryB (si p)))] [.ExceptHandler (Kf (.Name (Qq "AssertionError") (qz (Jp (xO p))))) Wq [.Return (Kf (.Constant (.str ee) (Jc (w4 (DT (xO p)))) (Jr (w4 (DT (xO p)))))) (Iz (DT (xO p)))] (Jz (xO p))] [] [] (Ki (si p))]:={2}
noncomputable def HS (i:Int)(f:Ww)(nm:Str):IS:=.if_ (.cmp .Eq (.v 1)<|.c<|.int i) [.ret<|some<|.umeth (.v 0) f nm []] []
noncomputable def Ix:List IS:=[HS 0 196<|Qq "get_continuation_type",HS 1 217<|Qq "get_num_lines_in_stmt",HS 2 252<|Qq "get_last_stmt_bracketing",HS 3 238<|Qq "is_block_opener",HS 4 245<|Qq "is_block_closer"]
def vE (p:Params):aV 60 (T1 p 315) (ID p)=Kf Ix:={2}
def ud (p:Params):aH 60 (T1 p 315) (.Call (.Attribute (D2<|uB<|j9 p) (Qq "compute_bracket_indent")<|Hq<|uB<|j9 p) [] []<|FM<|j9 p)=Kf (.umeth (.v 0) 210 (Qq "compute_bracket_indent") []):={2}
def Dd (p:Params):aH 60 (T1 p 315) (D2<|uB<|j9 p)=Kf (.v 0):={2}
section
variable {f need:Nat}{a b:Int}{s:L2}{R:Str->Int->Int->L2->V->Prop}{nm:Str}
def Ii {r:List IS}{K:F->Sg'->Prop}(h:aU P n e l c λ v j=>K (.ret v) ⟨l,j⟩):aJ P pr (n+2) (.ret (Kf e)::r) ⟨l,c⟩ K:=h
def gC {r:List IS}(o:av l 0=Kf (.obj k))(q:Par P.C c k dk x a b s i)(p:nm∈vH)(t:P.isFn f=true)(h:P.fn f=aX P.C Fs need mI R)(u:∀j∈Fs,j∉dom c)(w:∀v s',R x a b s' v->Par P.C (cset c dk<|.ns<|aw x a b s'<|max need i) k dk x a b s' (max need i)->G (.ret v) ⟨l,cset c dk<|.ns<|aw x a b s'<|max need i⟩):aJ P (dom c) (n+5) (.ret (Kf<|.umeth (.v 0) f nm [])::r) ⟨l,c⟩ G:=by refine Ii (n:=n+3)<|lx (n:=n) o q.k_ q.d_ (oz q.le p) t _ ?_;rw[h];exact⟨k,dk,x,a,b,s,i,rfl,q,u,trivial,λ v s' e y=>⟨λ j z=>by rw[ai];exact z,w v s' e y⟩⟩
def we (h:av l 1=Kf (nV way))(j:Nat):Tx P (n+2) l c (.cmp .Eq (.v 1)<|.c<|.int (j:Nat)) (decide<|way=j):=cM (xv h) xc λ K k=>by show K (((way:Nat):Int)==(j:Nat));rw[show (((way:Nat):Int)==(j:Nat))=decide (way=j) from Bool.eq_iff_iff.mpr (by simp;exact U592)];exact k
end
def wp (x:Str)(a:Int)(tab:Nat)(d:List D)(g:L2)(p:Nat):Prop:=Ok3 x/\1<=tab/\tab<=8/\Due x a tab d g p
def Dg:Spec:=λ vs c K=>∃k dk x a tab s i g p d way,vs=[.obj k,nV way]/\way<=5/\Par 255 c k dk x a (tab:Nat) s i/\(∀j∈lm,j∉dom c)/\wp x a tab d g p/\
 ∀v s' i',d[way]?=Kf v->Par 255 (cset c dk<|.ns<|aw x a (tab:Nat) s' i') k dk x a (tab:Nat) s' i'->K (.d v) (cset c dk<|.ns<|aw x a (tab:Nat) s' i')
noncomputable abbrev l5:List (Ww×Spec):=[(196,aX 255 yT 1 mI R0),(217,aX 255 yT 1 mI R1),(252,aX 255 lm 2 mI R2),(238,aX 255 lm 2 mI R3),(245,aX 255 lm 2 mI R4),(210,xU)]
section
variable {w:Wv}{p:Params}{mb:Str->Option Wx}(B:Base1 w p hb mg mb)
include B
def K8 (a:Ww):Cx0 prog w hb (K1 p) (T1 p a) (PT w l5) 6:=Ff B a (de (mH B (ry B.x B.lim) (Gx B)<|{4})<|de (mH B (vd B.x B.lim) (J7 B)<|{4})<|de (mH B (rV B.x B.lim) (H4 B)<|{4})<|de (mH B (kJ B.x B.lim) (H2 B)<|{4})<|de (mH B (k8 B.x B.lim) (Hm B)<|{4})<|de (mH B (oV B.x B.lim) (Kg B)<|{4}) nofun) kI
omit B in
theorem yI (X:(K1 p).In hb)(lim:hb.NoLimit):FnK hb 315 (T1 p 315) [Qq "parser",Qq "way"] [] (cm (K1 p) 315) (aq (K1 p) 315):=
 pG X lim {2} (e7 λ _=>e7 λ _=>kK<|{2}) rfl {2} {2}
def J8:yQ prog w hb 8 315 Dg:=by
 have N:=yI B.x B.lim;rw[w7 p] at N;refine Eu (dep:=5) N (K8 B 315) (vE p) (ud p) (Dd p) {2} rfl {2} {2} {2} (Jy B) λ vs c K h=>?_;obtain⟨k,t,x,a,r_⟩:=h;obtain⟨tab,s,i,g,r_⟩:=r_;obtain⟨p0,d,way,rfl,r_⟩:=r_;obtain⟨z,q,y,⟨O,t1,t8,G⟩,h⟩:=r_;refine⟨rfl,30,?_⟩;have go:∀{v:V} {u:D} {f:L2} {J:Nat},v=.d u->d[way]?=Kf u->Par 255 (cset c t<|.ns<|aw x a (tab:Nat) f J) k t x a (tab:Nat) f J->EndP c K (.ret v) ⟨start [.obj k,nV way] 0,cset c t<|.ns<|aw x a (tab:Nat) f J⟩:=λ e hu b=>by rw[e];exact EndP.same b.w (λ j L=>by rw[ai];exact L) rfl<|h _ _ _ hu b
 have o:=G.e;refine cQ (P:=PT w l5) (n:=28) (l:=start [.obj k,nV way] 0) (q:=decide<|way=0) (we rfl 0) (λ r=>gC (P:=PT w l5) (n:=23) (R:=R0) (Fs:=yT) (need:=1) rfl q {3} rfl rfl (Kr y) λ v f e b=>go e (by rw[o,of_decide_eq_true r];rfl) b) λ M=>aS ?_;refine cQ (P:=PT w l5) (n:=27) (l:=start [.obj k,nV way] 0) (q:=decide<|way=1) (we rfl 1) (λ r=>gC (P:=PT w l5) (n:=22) (R:=R1) (Fs:=yT) (need:=1) rfl q {3} rfl rfl (Kr y) λ v f e b=>go e (by rw[o,of_decide_eq_true r];rfl) b) λ T=>aS ?_;refine cQ (P:=PT w l5) (n:=26) (l:=start [.obj k,nV way] 0) (q:=decide<|way=2) (we rfl 2) (λ r=>gC (P:=PT w l5) (n:=21) (R:=R2) (Fs:=lm) (need:=2) rfl q {3} rfl rfl y λ v f e b=>go e (by rw[o,of_decide_eq_true r,<-G.en f (b.e<|sU q.le)];rfl) b) λ U=>aS ?_;refine cQ (P:=PT w l5) (n:=25) (l:=start [.obj k,nV way] 0) (q:=decide<|way=3) (we rfl 3) (λ r=>gC (P:=PT w l5) (n:=20) (R:=R3) (Fs:=lm) (need:=2) rfl q {3} rfl rfl y λ v f e b=>go e (by rw[o,of_decide_eq_true r,<-G.en f (b.e<|sU q.le)];rfl) b) λ W=>aS ?_;refine cQ (P:=PT w l5) (n:=24) (l:=start [.obj k,nV way] 0) (q:=decide<|way=4) (we rfl 4) (λ r=>gC (P:=PT w l5) (n:=19) (R:=R4) (Fs:=lm) (need:=2) rfl q {3} rfl rfl y λ v f e b=>go e (by rw[o,of_decide_eq_true r];rfl) b) λ Y=>aS ?_;have h5:way=5:=by have:=of_decide_eq_false M;have:=of_decide_eq_false T;have:=of_decide_eq_false U;have:=of_decide_eq_false W;have:=of_decide_eq_false Y;exact U717 z ‹_› ‹_› ‹_› ‹_› this
 show Last (PT w l5) 30 210 (Qq "compute_bracket_indent") 0 xV c ee K ⟨start [.obj k,nV way] 0,c⟩;by_cases I:ar (fin x)=4;obtain⟨k1,k2,k3⟩:=G.k4 I;refine .tells<|lx (P:=PT w l5) (n:=27) rfl q.k_ q.d_ (oz q.le<|{3}) rfl _ ?_;exact⟨k,t,x,a,tab,p0,s,i,rfl,q,y,⟨O,t1,t8,I,k2,k3,λ s e=>by rw[G.en s e];exact k1⟩,λ f b=>⟨λ j L=>by rw[ai];exact L,go rfl (by rw[o,h5,Wy I];rfl) b⟩⟩;refine .raises k t _ rfl q.k_ q.d_ (oz q.le<|{3}) (λ c'=>∃f,c'=cset c t (.ns<|aw x a (tab:Nat) f 2)/\Par 255 c' k t x a (tab:Nat) f 2) ⟨k,t,x,a,_,s,i,rfl,q,y,I,λ f b=>⟨f,rfl,b⟩⟩ ?_;intro _ e_;obtain⟨f,rfl,b⟩:=e_;exact h _ f 2 (by rw[o,h5,Wg I];rfl) b
end
noncomputable def headsL:List (List Nat):=[[102,40,49,44],[],[105,102,32,97,58,10],[114,101,116,117,114,110,39,39,39]]
noncomputable def bN:List (List Nat):=[[40],[97],[10],[114,101,116,117,114,110],[58],[35],[41],[34],[32],[92],[39,39,39],[91],[112,97,115,115],[9],[39],[125],[10],[123]]
noncomputable def bM:List (List Nat):=[[34,34,34],[35,32,98],[93],[92,10],[114,97,105,115,101],[95,49]]
noncomputable def a5 (l:List<|List Nat):List D:=l.map λ w=>.str ⟨w.toArray⟩
def pieces3:List (List Nat):=bN++bM
noncomputable def dz (a:Int):Nat:=(a.fmod 24).toNat
noncomputable def Is (h:List Nat)(ps:List<|List Nat):Str:=⟨(h++ps.flatten++[10]).toArray⟩
def jF (v:Nat)(rest:List Int):Str:=Is (headsL.getD v [])<|(rest.take 40).map λ a=>pieces3.getD (dz a) []
def Ey {ps:List (List Nat)}:(∀w∈ps,w.length<=m)->ps.flatten.length<=m*ps.length:=by induction ps with|nil=>intro _;exact Zj _|cons w ps rH=>intro h;have:=rH λ w q=>h w<|.tail _ q;have:=h w<|.head _;show (w++ps.flatten).length<=m*(ps.length+1);rw[Qj,Nat.mul_add];exact U726 ‹_› this
def kb {p:List Nat->Bool}{l:List (List Nat)}(h:l.all p=true)(b:p []=true)(i:Nat):p (l.getD i [])=true:=by rw[List.getD_eq_getElem?_getD];cases e:l[i]? with|none=>exact b|some w=>exact Xu.mp h w<|Qg e
def Bu (v:Nat)(rest:List Int):Ok3 (jF v rest):=by
 have f:=kb (p:=λ w=>w.all Ab&&decide (w.length<=9)) (l:=headsL) {4} rfl v;have h:∀w∈(rest.take 40).map λ a=>pieces3.getD (dz a) [],(w.all Ab&&decide (w.length<=6))=true:=λ w b=>by obtain⟨a,_,rfl⟩:=List.mem_map.mp b;exact kb (p:=λ w=>w.all Ab&&decide (w.length<=6)) (l:=pieces3) {4} rfl _
 have hl:=Ey (m:=6) (ps:=(rest.take 40).map λ a=>pieces3.getD (dz a) []) λ w b=>of_decide_eq_true (Bool.and_eq_true_iff.mp<|h w b).2;rw[Zu,List.length_take] at hl;have i:=of_decide_eq_true (Bool.and_eq_true_iff.mp f).2;refine⟨?_,?_,?_⟩;show (List.toArray _).size<=1000;rw[Xq,Qj,Qj];show _+_+1<=1000;exact U725 hl i;show (_++[10]).getLast?=Kf 10;simp;show (_++_++[10]).all Ab=true;rw[List.all_append,List.all_append,(Bool.and_eq_true_iff.mp f).1,Bool.true_and,Xv];refine⟨Xu.mpr λ z e=>?_,{4}⟩;obtain⟨w,b,e⟩:=List.mem_flatten.mp e;exact Xu.mp (Bool.and_eq_true_iff.mp<|h w b).1 z e
def Ok3.txt (O:Ok3 x):TextOk x/\2*x.length+10<=big:=by have h:=O.hx;have hl:=am x;refine⟨⟨λ z b=>?_,.inr O.hl,ba<|by exact U724 h⟩,ba<|by exact U723 h⟩;have:=Xu.mp O.ab z b;unfold Ab at this;simp only[Xv,decide_eq_true_eq] at this;exact this.1.1
noncomputable abbrev c0 (rest:List Int):aa:=[(367011,.list<|rest.map .int)]
noncomputable abbrev pc (rest:List Int) (fs:List<|Str×V):aa:=[(367011,.list<|rest.map .int),(2,.ns fs),(1,.inst 255 2)]
def IR (rest:List Int):Wf (c0 rest):=⟨⟨⟨_,rfl,rfl⟩,trivial⟩,by simp[dom]⟩
def IJ {fs:List (Str×V)}(h:w8 fs)(rest:List Int):Wf (pc rest fs):=⟨⟨⟨_,rfl,rfl⟩,⟨_,rfl,lC h⟩,⟨_,rfl,rfl,rfl,by simp[dom]⟩,trivial⟩,by simp[dom]⟩
structure L3Ok (P:Pm):Prop where
 C:P.C=255
 dr:P.isFn 266=true
 drS:P.fn 266=gq
 rd:P.isFn 308=true
 rdS:P.fn 308=jA
 st:P.isFn 168=true
 stS:P.fn 168=lA 255
 ini:P.fn P.init=je 255
noncomputable def oY:List IS:=[.asg 5 (.bin .Sub (.c<|.int 8)<|.call (.g<|.val<|.ref 266) [(.v 3),(.c<|.int 8)] Wq),.asg 6 (.bin .Add (.bin .Add (.item (.v 1)<|.call (.g<|.val<|.ref 266) [(.v 3),(.c<|.int 4)] Wq)<|.meth (.c<|.str ⟨#[]⟩) .join [(.comp (.item (.v 1)<|.bin .Mod (.v 0)<|.c<|.int 24) (.slice (.v 3) (.c .none)<|.c<|.int 40) [2] 372047)])<|.c<|.str ⟨#[10]⟩),.asg 7 (.call (.g<|.val<|.ref 308) [(.v 6),(.v 4),(.v 5)] Wq),.asg 8 (.make 255 [(.v 4),(.v 5)] 0 0),.expr (.umeth (.v 8) 168 (Qq "set_code") [(.v 6)])]
def uY:List IS:=[.asg 1 (.lst ((a5 headsL).map .c) Wq),.asg 2 (.lst ((a5 bN).map .c) Wq),.asg 2 (.bin .Add (.v 2)<|.lst ((a5 bM).map .c) Wq),.asg 3 (.call (.g<|.bi .list) [(.v 0)]<|some 367011),.asg 4 (.c<|.int 4),.if_ (.cmp .NotEq (.v 3) (.lst [] Wq)) [.asg 4 (.meth (.v 3) .pop [(.c (.int 0))])] []]++oY
section
variable {K:F->Sg'->Prop}{r:List IS}
def vy (h:aU P n e l c λ v b=>aJ P pr (n+1) r ⟨l.set i<|some v,b⟩ K):aJ P pr (n+2) (.asg i e::r) ⟨l,c⟩ K:=h
def Hj (h:aU P n e l c λ v b=>aJ P pr (n+1) r ⟨l,b⟩ K):aJ P pr (n+2) (.expr e::r) ⟨l,c⟩ K:=h
def Lr (ds:List D):pD P (n+ds.length+1) l c (ds.map .c) (ds.map .d):=by induction ds with|nil=>exact x0|cons d ds rH=>exact x1 (n:=n+ds.length+1) xc<|rH
theorem oG:∀ds:List D,iA (ds.map .d)=Kf ds
 | []=>rfl|d::ds=>by show (iA<|ds.map .d).map (d::·)=_;rw[oG ds];rfl
def Av (ds:List D)(hl:ds.length<=big):Ex P (n+ds.length+2) l c (.lst (ds.map .c) Wq) (.d<|.lst ds):=ja (Lr ds) (oG ds) hl
def xN (xs:List D)(b:Nat):nR xs Wq (Kf (b:Int))=xs.take b:=by
 unfold nR;show (xs.drop 0).take (clipAt xs.length (b:Int)-0)=_;have:clipAt xs.length (b:Int)=min b xs.length:=by
  unfold clipAt;rw[Wg<|Int.not_lt.mpr<|Om.nn b,Hd];rcases Nat.le_total b xs.length with h|h
  rw[Nat.min_eq_left h,Int.min_eq_left<|Om.zl h];rfl;rw[Nat.min_eq_right h,Int.min_eq_right<|Om.zl h];rfl
 rw[this,Nat.sub_zero,List.drop_zero];by_cases h:b<=xs.length;rw[Nat.min_eq_left h];rw[Nat.min_eq_right (by exact {(Om.nt h)}),List.take_of_length_le<|Zv _,List.take_of_length_le<|by exact {(Om.nt h)}]
def JQ (h:j<n):seqIndex? (j:Int) n=Kf j:=by unfold seqIndex?;rw[Wg<|show ¬(j:Int)<0 by exact U721];dsimp only;rw[Wy<|by simp;exact U633 h];congr 1
def jD {d:D}(b:xs[j]?=Kf d)(hb:xs.length<=big){K:D->Prop}(h:K d):f8 c (.d<|.lst xs) (nV j) K:=
 ⟨hb,j,d,JQ (Qw.mp b).1,b,h⟩
def Cr {o:Nat}{elt iter:IE}{frees:List Nat}(W:Wf c)(b:o∉dom c)(f:D->D)(hit:Ex P n l c iter<|.d<|.lst xs)(e:xs.length<=big)(k:∀d∈xs,∀q,Ex P n (Kf (.d d)::frees.map (av l)) q elt<|.d<|f d):Ex P (n+1) l c (.comp elt iter frees o) (.d<|.lst<|xs.map f):=λ t h=>by refine hit _ ⟨trivial,xs,rfl,e,b,λ i acc j=>acc=(xs.take i).map f/\j=c,⟨rfl,rfl⟩,?_,?_⟩;intro i d acc j p e_;obtain⟨rfl,rfl⟩:=e_;refine⟨b,k d (Qg p) _ _ ⟨f d,j,rfl,rfl,b,?_,rfl⟩⟩;rw[List.take_add_one,p];simp;intro acc j e_;obtain⟨rfl,rfl⟩:=e_;rw[List.take_length];exact⟨b,W.drop b,h⟩
def kY (L:L3Ok P){b:Nat}(hb:0<b)(p:av l 3=Kf (.obj 367011))(q:rest.length<=63) :∃(v:Nat) (rest':List Int),v<b/\rest'.length<=rest.length/\∀f:V->aa->Prop,f (nV v) (c0 rest')->aU P (n+4) (.call (.g<|.val<|.ref 266) [(.v 3),(.c<|.int (b:Nat))] Wq) l (c0 rest) f:=by
 have go:∀f:V->aa->Prop,gq [.obj 367011,.d<|.int (b:Nat)] (c0 rest) (λ v o=>fo (c0 rest) o/\f v o)->aU P (n+4) (.call (.g<|.val<|.ref 266) [(.v 3),(.c<|.int (b:Nat))] Wq) l (c0 rest) f:=λ f h=>by refine gp (n:=n) (u:=.val<|.ref 266) (v1:=.obj 367011) (v2:=.d<|.int (b:Nat)) (λ f h=>h) (cJ p) (λ f h=>h) ⟨L.dr,?_⟩;rw[L.drS];exact h
 have i:rest.length<=big:=ba<|by exact U720 q
 cases rest with|nil=>exact⟨0,[],hb,Zv _,λ f h=>go f ⟨367011,[],b,rfl,IR [],rfl,by exact U561 hb,{4},.inl ⟨rfl,λ j k=>k,h⟩⟩⟩|cons a r=>
  obtain⟨t,w⟩:=iN a (m:=(b:Int))<|by exact {0,(Om.zl hb)}
  refine⟨(a.fmod b).toNat,r,by exact U718 hb w,Nat.le_succ _,λ f h=>go f ⟨367011,a::r,b,rfl,IR _,rfl,by exact U561 hb,i,.inr ⟨a,r,rfl,λ j k=>k,?_⟩⟩⟩;have e:nV (a.fmod b).toNat=.d (.int<|a.fmod b):=by show V.d (.int (((a.fmod b).toNat:Nat):Int))=_;rw[Int.toNat_of_nonneg t]
  rw[e] at h;exact h
end
def eV (a b:Str):sg (a++b)=sg a++sg b:=by show (a.cps++b.cps).toList=_;rw[Array.toList_append]
def Bc (ys:List Str):sg (Str.join ⟨#[]⟩ ys)=(ys.map sg).flatten:=by induction ys using bj with|nil=>exact rfl|zero a=>show sg a=sg a++[];rw[Zg]|cons a b r rH1 rH2=>show sg (a++⟨#[]⟩++Str.join ⟨#[]⟩ (b::r))=_;rw[eV,eV,rH2];show sg a++[]++_=_;rw[Zg];rfl
def Di (x:Str):x=⟨(sg x).toArray⟩:=by cases x;rfl
def y2 {ys:List Str}:(∀y∈ys,y.length<=m)->(ys.map (·.length)).sum<=m*ys.length:=by induction ys with|nil=>intro _;exact Zj _|cons y ys rH=>intro h;have:=rH λ w q=>h w<|.tail _ q;have:=h y<|.head _;rw[List.map_cons,List.sum_cons,Qz,Nat.mul_add];exact U726 ‹_› this
def A4 (h:List Nat)(ps:List<|List Nat):((⟨h.toArray⟩:Str)++Txt.join ⟨#[]⟩ (ps.map λ w=>⟨w.toArray⟩))++⟨#[10]⟩=Is h ps:=by
 rw[Di<|_++_,eV,eV];unfold Txt.join;rw[StrLaws.glued_eq_join,Bc,List.map_map];have:ps.map (sg ∘ λ w=>(⟨w.toArray⟩:Str))=ps:=by rw[show (sg ∘ λ w:List Nat=>(⟨w.toArray⟩:Str))=id from rfl,List.map_id]
 rw[this];rfl
section
def oR:D->D
 | .int a=>.str ⟨(pieces3.getD (dz a) []).toArray⟩|d=>d
def yu (b:j<24):(a5 bN++a5 bM)[j]?=Kf (.str ⟨(pieces3.getD j []).toArray⟩):=by rw[show a5 bN++a5 bM=pieces3.map λ w=>D.str ⟨w.toArray⟩ from (List.map_append ..).symm,Xy];have:j<pieces3.length:=b;rw[Qk this,List.getD_eq_getElem?_getD,Qk this];rfl
def A0 (o:av l 3=Kf (.obj 367011))(q:av l 2=Kf (.d<|.lst<|a5 bN++a5 bM))(r:rest.length<=63) :Ex P (n+10) l (c0 rest) (.meth (.c<|.str ⟨#[]⟩) .join [(.comp (.item (.v 1)<|.bin .Mod (.v 0)<|.c<|.int 24) (.slice (.v 3) (.c .none)<|.c<|.int 40) [2] 372047)]) (sV<|Txt.join ⟨#[]⟩<|((rest.take 40).map λ a=>pieces3.getD (dz a) []).map λ w=>⟨w.toArray⟩):=by
 have b:(rest.map D.int).take 40=(rest.take 40).map D.int:=List.map_take.symm;have f:Ex P (n+8) l (c0 rest) (.comp (.item (.v 1)<|.bin .Mod (.v 0)<|.c<|.int 24) (.slice (.v 3) (.c .none)<|.c<|.int 40) [2] 372047) (.d<|.lst<|((rest.map D.int).take 40).map oR):=by
  refine Cr (IR rest) (by simp[dom]) oR (gP (xv o) xc xc λ K k=>⟨rfl,by show (rest.map D.int).length<=big;rw[Zu];exact ba (by exact U720 r),by show K (.lst<|nR (rest.map D.int) Wq<|some (40:Nat));rw[xN];exact k⟩) (by rw[List.length_take,Zu];exact ba<|by exact U729) λ d j I=>?_;rw[b] at j;obtain⟨a,_,rfl⟩:=List.mem_map.mp j;obtain⟨t,h⟩:=iN a (m:=24)<|{4}
  have e:V.d (.int<|a.fmod 24)=nV (dz a):=by show _=V.d (.int (((a.fmod 24).toNat:Nat):Int));rw[Int.toNat_of_nonneg t]
  have i:dz a<24:=by unfold dz;exact U728 h
  refine lq (u:=.d<|.lst<|a5 bN++a5 bM) (v:=nV<|dz a) (xv<|by show av [Kf<|V.d<|.int a,av l 2] 1=_;rewrite[q];rfl) (by rewrite[<-e];exact iB (xv rfl) xc λ K k=>⟨{4},k⟩) λ K k=>jD (yu i) {4} k
 rw[b,List.map_map] at f;have x:(rest.take 40).map (oR ∘ D.int)=((((rest.take 40).map λ a=>pieces3.getD (dz a) []).map λ w=>(⟨w.toArray⟩:Str))).map D.str:=by rw[List.map_map,List.map_map];rfl
 rw[x] at f;refine jS (u:=sV ⟨#[]⟩) xc rfl (x1 f x0) λ K k=>⟨rfl,?_⟩;refine⟨_,rfl,rfl,?_,k⟩;have:=y2 (m:=6) (ys:=((rest.take 40).map λ a=>pieces3.getD (dz a) []).map λ w=>(⟨w.toArray⟩:Str)) λ y z=>by obtain⟨w,G,rfl⟩:=List.mem_map.mp z;obtain⟨a,_,rfl⟩:=List.mem_map.mp G;exact of_decide_eq_true<|kb (p:=λ w=>decide<|(⟨w.toArray⟩:Str).length<=6) (l:=pieces3) {4} rfl _
 rw[Zu,Zu,List.length_take] at this;exact ba<|by exact U727 this
end
section
variable {K:F->Sg'->Prop}
def Ec (P:Pm)(n:Nat)(l:Sl)(c:aa)(e:IE)(v:V)(c':aa):Prop:=∀K':V->aa->Prop,K' v c'->aU P n e l c K'
def Jx {v:Nat}(h:Ec P n l c e (nV v) c')(b:v<8)(f:Ex P n l c (.c (.int 8)) (.d (.int 8))):Ec P (n+1) l c (.bin .Sub (.c (.int 8)) e) (nV (8-v)) c':=λ i k=>f _ (h _ (by show i (.d<|.int<|8-(v:Int)) c';rw[show (8:Int)-v=((8-v:Nat):Int) by exact U736 b];exact k))
def GG {a:IE}{d:D}(b:Ex P n l c a<|.d<|.lst xs)(h:Ec P n l c e (nV j) c')(f:xs[j]?=Kf d)(hb:xs.length<=big):Ec P (n+1) l c (.item a e) (.d d) c':=λ i k=>b _<|h _<|jD f hb k
def GX {a b:IE}(e:Ec P n l c a (sV x) c')(hb:Ex P n l c' b<|sV y)(h:x.length+y.length<=big):Ec P (n+1) l c (.bin .Add a b) (sV<|x++y) c':=λ f k=>e _<|hb _ ⟨h,k⟩
def x2 {r:List IS}(h:Ec P n l c e v c')(k:aJ P pr (n+1) r ⟨l.set i<|some v,c'⟩ K):aJ P pr (n+2) (.asg i e::r) ⟨l,c⟩ K:=h _ k
def Az {C:Ww}{e:List IE}{a b:Nat}(j:C=P.C)(k:pD P n l c e vs)(o:1∉dom c)(p:2∉dom c){f:V->aa->Prop}(h:P.fn P.init (.obj 1::vs) (c++[(2,.ns [])]++[(1,.inst C 2)])<|λ v i=>v=.d .none/\fo (c++[(2,.ns [])]++[(1,.inst C 2)]) i/\f (.obj 1) i) :aU P (n+1) (.make C e a b) l c f:=⟨j,k _ ⟨1,2,o,p,{4},h⟩⟩
def wq {o:IE}{f:Ww}{i:Str}{fs:List (Str×V)}{j:List IE}{p:V->aa->Prop}(q:Ex P n l c o<|.obj k)(r:ae c k=Kf (.inst P.C dk))(b:ae c dk=Kf (.ns fs))(e:look fs i=Wq)(t:P.isFn f=true)(u:pD P n l c j vs)(h:P.fn f (.obj k::vs) c<|λ v c3=>fo c c3/\p v c3):aU P (n+1) (.umeth o f i j) l c p:=q _ ⟨ou r b e,u _ ⟨t,h⟩⟩
def Fe {o:IE}{m:Mn}{b:List IE}{e:V->aa->Prop}(f:Ex P n l c o u)(h:cH c u m)(i:pD P n l c b vs)(k:i8 c u m vs e):aU P (n+1) (.meth o m b) l c e:=f _ ⟨h,i _ k⟩
def CU {o:IE}{d:D}{r:List D}(e:Ex P (n+2) l c o<|.obj k)(b:ae c k=Kf (.list<|d::r))(hb:(d::r).length<=big):Ec P (n+3) l c (.meth o .pop [.c<|.int 0]) (.d d) (cset c k<|.list r):=λ f h=>by have i:pD P (n+2) l c [.c<|.int 0] [.d<|.int 0]:=x1 xc x0;have j:cH c (.obj k) .pop:=⟨rfl,by rw[b];trivial⟩;have p:i8 c (.obj k) .pop [.d<|.int 0] f:=⟨rfl,by rw[b];exact⟨rfl,hb,d,r,rfl,h⟩⟩;exact Fe e j i p
def DD (l:List Int)(text:Str)(step:Int)(tab:Nat)(d:List D):Sl:=[Kf<|.d<|.lst<|l.map .int,Kf<|.d<|.lst<|a5 headsL,Kf<|.d<|.lst<|a5 bN++a5 bM,Kf<|.obj 367011,Kf<|.d<|.int step,Kf<|nV tab,Kf<|sV text,Kf<|.d<|.lst d,Kf<|.obj 1,Wq,Wq]
def By {v:Nat}(b:v<4):(a5 headsL)[v]?=Kf (.str ⟨(headsL.getD v []).toArray⟩):=by have:v<headsL.length:=b;unfold a5;rw[Xy,Qk this,List.getD_eq_getElem?_getD,Qk this];rfl
def As (L:L3Ok P)(ls:List Int){step:Int}(r:rest.length<=63)(R:∀rest text tab d g p,rest.length<=63->wp text step tab d g p->K .next ⟨DD ls text step tab d,pc rest<|aw text step (tab:Nat) (L0 0) 0⟩) :aJ P [] (n+40) oY ⟨[Kf<|.d<|.lst<|ls.map .int,Kf<|.d<|.lst<|a5 headsL,Kf<|.d<|.lst<|a5 bN++a5 bM,Kf<|.obj 367011,Kf<|.d<|.int step,Wq,Wq,Wq,Wq,Wq,Wq],c0 rest⟩ K:=by
 obtain⟨v,Y,I,q,t⟩:=kY (P:=P) (n:=n+33) (l:=[Kf<|.d<|.lst<|ls.map .int,Kf<|.d<|.lst<|a5 headsL,Kf<|.d<|.lst<|a5 bN++a5 bM,Kf<|.obj 367011,Kf<|.d<|.int step,Wq,Wq,Wq,Wq,Wq,Wq]) L (b:=8) {4} rfl r;refine x2 (Jx t I xc) ?_;obtain⟨u,e,U,x,y⟩:=kY (P:=P) (n:=n+30) (l:=[Kf<|.d<|.lst<|ls.map .int,Kf<|.d<|.lst<|a5 headsL,Kf<|.d<|.lst<|a5 bN++a5 bM,Kf<|.obj 367011,Kf<|.d<|.int step,Kf<|nV<|8-v,Wq,Wq,Wq,Wq,Wq]) L (b:=4) {4} rfl<|Zk q r;have i:e.length<=63:=Zk x<|Zk q r;have O:=Bu u e;have J:=A4 (headsL.getD u [])<|(e.take 40).map λ a=>pieces3.getD (dz a) [];have f:((⟨(headsL.getD u []).toArray⟩:Str)++Txt.join ⟨#[]⟩ (((e.take 40).map λ a=>pieces3.getD (dz a) []).map λ w=>⟨w.toArray⟩)).length+1<=1000:=by have h:=O.hx;unfold jF at h;rw[<-J,<-am,eV,Qj,am] at h;exact h
 have o:(⟨(headsL.getD u []).toArray⟩:Str).length+(Txt.join ⟨#[]⟩<|((e.take 40).map λ a=>pieces3.getD (dz a) []).map λ w=>⟨w.toArray⟩).length<=1000:=by rw[<-am,eV,Qj,am,am] at f;exact {f}
 refine x2 (c':=c0 e) (v:=sV (jF u e)) (by unfold jF;rw[<-J];exact GX (GX (GG (xv rfl) y (By U) {4}) (A0 (n:=n+25) rfl rfl i) (ba (by exact {o}))) xc (ba (by show _+1<=5000;exact {f}))) ?_;generalize jF u e=text at O;have z:1<=8-v:=by exact U732 I
 have M:8-v<=8:=by exact U731
 generalize 8-v=tab at z M;refine vy<|pH xg (x1 (xv rfl)<|x1 (xv rfl)<|x1 (xv rfl) x0) ⟨L.rd,?_⟩;rw[L.rdS];refine⟨IR _,text,step,tab,rfl,O,by exact {z},λ d g p W=>⟨λ _ h=>h,?_⟩⟩;obtain⟨T,hb⟩:=O.txt;refine vy<|Az L.C.symm (x1 (xv rfl)<|x1 (xv rfl) x0) (by simp[dom]) (by simp[dom]) ?_;rw[L.ini];refine⟨1,2,step,(tab:Nat),rfl,IJ (fs:=[]) trivial e,rfl,rfl,rfl,λ j G=>G,?_⟩;refine Hj<|wq (k:=1) (dk:=2) (fs:=[(dR,.d<|.int step),(dW,.d<|.int (tab:Nat))]) (xv rfl) (by rw[L.C];rfl) rfl {2} L.st (x1 (xv rfl) x0) ?_;rw[L.stS];exact⟨1,2,step,(tab:Nat),text,rfl,IJ (fs:=[(dR,.d<|.int step),(dW,.d<|.int (tab:Nat))]) ⟨⟨_,rfl⟩,⟨_,rfl⟩,trivial⟩ e,rfl,rfl,T,λ j G=>G,R e text tab d g p i ⟨O,z,M,W⟩⟩
def y0 (L:L3Ok P)(ls:List Int)(hl:ls.length<=63)(f:∀rest text step tab d g p,rest.length<=63->wp text step tab d g p->K .next ⟨DD ls text step tab d,pc rest<|aw text step (tab:Nat) (L0 0) 0⟩):aJ P [] (n+80) uY ⟨start [.d<|.lst<|ls.map .int] 10,[]⟩ K:=by
 have b:(ls.map D.int).length<=big:=by rw[Zu];exact ba<|by exact U720 hl
 refine aF (Av (n:=n+72) (a5 headsL)<|{4})<|aF (Av (n:=n+57) (a5 bN)<|{4})<|aF (mT (xv rfl) (Av (n:=n+67) (a5 bM)<|{4})<|{4})<|vy<|pH xg (x1 (xv rfl) x0) ⟨b,by simp[dom],?_⟩;refine aF (v:=.d<|.int 4) xc ?_;have go:∀{step:Int} {rest:List Int},rest.length<=63->aJ P [] (n+74) oY ⟨[Kf<|.d<|.lst<|ls.map .int,Kf<|.d<|.lst<|a5 headsL,Kf<|.d<|.lst<|a5 bN++a5 bM,Kf<|.obj 367011,Kf<|.d<|.int step,Wq,Wq,Wq,Wq,Wq,Wq],c0 rest⟩ K:=λ h=>As (n:=n+34) L ls h λ rest text tab d g p i j=>f rest text _ tab d g p i j;refine cQ (q:=!ls.isEmpty) (cM (xv rfl) (ja (ds:=[]) x0 rfl<|Zj _) λ K k=>oD (c:=c0 ls) (K:=λ r=>K<|!r) rfl k) (λ e=>?_) λ e=>?_;cases ls with|nil=>cases e|cons a r=>exact x2 (v:=.d<|.int a) (c':=c0 r) (CU (n:=n+68) (c:=c0<|a::r) (k:=367011) (d:=.int a) (r:=r.map .int) (xv rfl) rfl b)<|aS<|go<|Nat.le_of_succ_le hl
 exact aS<|go hl
end
section
variable {w:Wv}{T:Tb}
def AH (X:Cx0 prog w hb K₀ T P dep){env:Env}(E:CxE env T){A:Around}{d:Nat}(R:Room d A)(hfr:A.frames=Kf [env])(I:env.frame=Kf env.locals)(AO:yQ prog w hb d a spec)(hkp:∃k,Looks (model prog w) hb (keeperOf<|.ref a) k){x f0 y z:Str} {i j1 j2:Nat} {p fp p1 p2 cp ap:Pos} (hi:bU T x=Kf i) (J:d9 T f0=Kf (.g<|.val<|.ref a)) (hy:d9 T y=Kf (.v j1)) (hz:d9 T z=Kf (.v j2)) {pr:List Nat} {σ:Sg'} (hl:σ.l.length=T.names.length) {v1 v2:V} (h1:av σ.l j1=Kf v1) (h2:av σ.l j2=Kf v2) {Kd:V->aa->Prop} (sp:spec [v1,v2] σ.c Kd){α:Al} {s:Wj} {Q:Flow->Wj->Prop} (hs:1<=s.toks) (F:Fst hb pr env (ad T.names σ.l) σ.c α s.heap)(hq:∀v c' t h' W,1<=W->Kd v c'->Fst hb pr env (ad T.names<|σ.l.set i<|some v) c' t h'->LeS pr env σ.c α s.heap c' t h'->Q .next {s with heap:=h',toks:=W}) :wpAny (model prog w) A (exec (.Assign [.Name x p] (.Call (.Name f0 fp) [.Name y p1,.Name z p2] [] cp) ap) env) Q no s:=by
 have hst:[Expr.Name y p1,.Name z p2].all (λ e=>!cN e)=true:=rfl;have N0:Ev prog w A hb pr env (ad T.names σ.l) σ.c (.Name f0 fp) λ u Y=>u=.val (.ref a)/\Y=σ.c:=d7 (n:=1) X E J ⟨rfl,rfl⟩
 have Ny:OkArgs prog w A hb pr env (ad T.names σ.l) [.Name y p1,.Name z p2] σ.c λ vs Y=>vs=[v1,v2]/\Y=σ.c:=
  d7 (n:=1) X E hy (by show aC (av σ.l j1) _;rw[h1];exact d7 (n:=1) X E hz<|by show aC (av σ.l j2) _;rw[h2];exact⟨rfl,rfl⟩)
 refine wpAny_Assign_Name (Call_Name (cq env cp hst)<|N0 α s (λ f s₁=>wpAny (model prog w) A (callWith cp f [] _ []) _ no s₁) hs F λ u Y α1 g h1' t1 ht1 k1 F1 L1 i1=>?_)<|fX rfl;obtain⟨rfl,rfl⟩:=k1;obtain rfl:g=_:=i1;refine cg rfl<|Calls.evalArgs_plain<|iV Ny α1 _ (λ ws s₁=>(∃k,Looks (model prog w) s₁.heap (keeperOf<|.ref a) k)/\wpAny (model prog w) A (call (.ref a)<|[]++ws) _ no s₁) ht1 F1 λ vs c2 α2 ws G t2 ht2 k2 r L2 i2=>?_;obtain⟨rfl,rfl⟩:=k2;refine⟨let ⟨k,M⟩:=hkp;⟨k,M.keeps r.base⟩,wpAny_call ?_⟩;have Fr:FrsOk hb σ.c α2 G [env]:=λ e he=>by obtain rfl:=Zw.mp he;exact⟨E.eo.kind,_,I,(r.fr _<|.inl rfl).1,(r.fr _<|.inl rfl).2,r.ns⟩
 refine AO A R [env] hfr [v1,v2] ws σ.c α2 _ Kd _ ht2 ⟨r.base,r.cell,r.fresh,r.inj,λ _ M=>by cases M⟩ i2 Fr sp λ v c' t h1 g h' W S htk hK h iv=>?_;have C':Cst hb pr c' t h1:=⟨h.C.base,h.C.cell,h.C.fresh,h.C.inj,λ j hj=>h.L.dom j<|r.prs j hj⟩;have F3:Fst hb pr env (ad T.names σ.l) c' t h':=h.but.fst h.A<|r.le h.L C';have LS:LeS pr env σ.c α2 G c' t h':=⟨λ k M=>h.L.agree k (r.prs k M),λ b o e nf no=>h.but.kept b o (h.L.kept b o e no) λ hS=>by
  rcases h.s b hS with ⟨e',he,U⟩|q
  obtain rfl:=Zw.mp he;rw[I] at U;exact nf<|.inl (Option.some.inj U).symm;have q:G.get? b=Wq:=q;rw[e] at q;contradiction,h.L.grow⟩
 refine bG (s:={s with heap:=h',toks:=W}) E hi hl htk F3 iv λ h3 t3 ht3 F4 L4 i4=>?_;exact hq v c' t h3 t3 ht3 hK F4<|(((L1.trans L2).leS F.toCst).trans LS λ b J=>(F3.fr b J).2).trans L4 λ b J=>(F4.fr b J).2
end
def z0 (rows:List<|Nat×Nat):PyData.canLayAll0 (dQ<|b9 rows)=true/\PyData.depthAll (dQ<|b9 rows)<=1/\PySem.SeqAt.noMixAll (dQ<|b9 rows) (dQ<|b9 rows)=true/\PySem.Spec.sameAll (dQ<|b9 rows) (dQ<|b9 rows)=true:=by induction rows with|nil=>exact⟨rfl,Zj _,rfl,rfl⟩|cons q_ r rH=>obtain⟨a,b⟩:=q_;obtain⟨e,f,h,i⟩:=rH;refine⟨?_,?_,?_,?_⟩;show ((true&&(true&&true))&&PyData.canLayAll0 (dQ<|b9 r))=true;rw[e];rfl;show max (max 0 (max 0 0)+1) (PyData.depthAll<|dQ<|b9 r)<=1;exact U459 f;show ((true&&(true&&true))&&PySem.SeqAt.noMixAll (dQ<|b9 r) (dQ<|b9 r))=true;rw[h];rfl;show (((((a:Nat):Int)==(a:Nat))&&((((b:Nat):Int)==(b:Nat))&&true))&&PySem.Spec.sameAll (dQ<|b9 r) (dQ<|b9 r))=true;rw[i,beq_self_eq_true,beq_self_eq_true];rfl
inductive DueV:D->Bool->Prop
 |int (i:Int):DueV (.int i) false
 |str (x:Str):DueV (.str x) false
 |bool (b:Bool):DueV (.bool b) true
 |tup (r:List (Nat×Nat)):DueV (.tup (b9 r)) false
def z4 {v:D}{q:Bool}(h:DueV v q){K:Bool->Prop}(k:K false):gH c .NotEq (.d v) (.d v) K:=by cases h with|int i=>show K (!(i==i));rw[beq_self_eq_true];exact k|str x=>show K (!(x==x));rw[beq_self_eq_true];exact k|bool b=>show K (!(b==b));rw[beq_self_eq_true];exact k|tup rows=>obtain⟨e,f,j,l⟩:=z0 rows;refine⟨?_,?_,?_,?_⟩;show (PyData.canLayAll0 (dQ<|b9 rows)&&decide (PyData.depthAll (dQ<|b9 rows)+1<=64))=true;rw[e,decide_eq_true<|by exact {f}];rfl;show (PyData.canLayAll0 (dQ<|b9 rows)&&decide (PyData.depthAll (dQ<|b9 rows)+1<=64))=true;rw[e,decide_eq_true<|by exact {f}];rfl;exact j;show K (!(PySem.Spec.sameAll (dQ<|b9 rows)<|dQ<|b9 rows));rw[l];exact k
def wI {v:D}{q:Bool}(h:DueV v q){K:V->aa->Prop}(k:K (.d<|.bool q) c):zT c (.d v) (.bi .bool) K:=by cases h with|int i=>exact k|str x=>exact k|bool b=>exact k|tup r=>exact k
def Hb {a:Int}{d:List D}{g:L2}{p:Nat}(h:Due x a tab d g p)(i:way<=5):∃v q,d[way]?=Kf v/\DueV v q:=by rw[h.e];cases way with|zero=>exact⟨_,_,rfl,.int _⟩|succ way=>cases way with|zero=>exact⟨_,_,rfl,.int _⟩|succ way=>cases way with|zero=>exact⟨_,_,rfl,.tup _⟩|succ way=>cases way with|zero=>exact⟨_,_,rfl,.bool _⟩|succ way=>cases way with|zero=>exact⟨_,_,rfl,.bool _⟩|succ way=>obtain rfl:way=0:=Nat.le_zero.mp<|Nat.le_of_add_le_add_right (b:=5) i;by_cases f:ar (fin x)=4;exact⟨_,_,by rw[Wy f];rfl,.int _⟩;exact⟨_,_,by rw[Wg f];rfl,.str _⟩
noncomputable def DG (a:Int):Nat:=((a.fdiv 24).fmod 6).toNat
def tV (rest:List Int):List Nat:=(rest.take 6).map DG++[5,4,3,2,1,0]
def Bj (h:(tV rest)[i]?=Kf way):way<=5:=by
 have:=Qg h;rcases Qu.mp this with h|h
 obtain⟨a,_,rfl⟩:=List.mem_map.mp h;have:=iN (a.fdiv 24) (m:=6)<|{4}
 unfold DG;exact U739 this;have:∀w∈[5,4,3,2,1,0],w<=5:={4}
 exact this way h
noncomputable def BU:IE:=.bin .Add (.comp (.bin .Mod (.bin .FloorDiv (.v 0)<|.c<|.int 24)<|.c<|.int 6) (.slice (.v 3) (.c .none)<|.c<|.int 6) [] 376015)<|.lst [(.c<|.int 5),(.c<|.int 4),(.c<|.int 3),(.c<|.int 2),(.c<|.int 1),(.c<|.int 0)] Wq
noncomputable def ya:IS:=.if_ (.or (.cmp .NotEq (.v 10) (.item (.v 7) (.v 9))) (.cmp .NotEq (.call (.g (.bi .isinstance)) [(.v 10),(.g (.bi .bool))] Wq) (.call (.g (.bi .isinstance)) [(.item (.v 7) (.v 9)),(.g (.bi .bool))] Wq))) [.ret (Kf (.c (.bool false)))] []
def Ft:D->D
 | .int a=>.int (DG a:Nat)|d=>d
section
variable {fs:List (Str×V)}{K:F->Sg'->Prop}
def HJ (f:w8 fs)(j:av l 3=Kf (.obj 367011))(o:rest.length<=63):Ex P (n+20) l (pc rest fs) BU (.d<|.lst<|(tV rest).map λ w=>.int (w:Nat)):=by
 have b:(rest.map D.int).take 6=(rest.take 6).map D.int:=List.map_take.symm;have h:Ex P (n+19) l (pc rest fs) (.comp (.bin .Mod (.bin .FloorDiv (.v 0)<|.c<|.int 24)<|.c<|.int 6) (.slice (.v 3) (.c .none)<|.c<|.int 6) [] 376015) (.d<|.lst<|((rest.map D.int).take 6).map Ft):=by refine Cr (IJ f rest) (by simp[dom]) Ft (gP (xv j) xc xc λ K k=>⟨rfl,by show (rest.map D.int).length<=big;rw[Zu];exact ba (by exact U720 o),by show K (.lst<|nR (rest.map D.int) Wq<|some (6:Nat));rw[xN];exact k⟩) (by rw[List.length_take,Zu];exact ba<|by exact U738) λ d i q=>?_;rw[b] at i;obtain⟨a,_,rfl⟩:=List.mem_map.mp i;have p:=(iN (a.fdiv 24) (m:=6)<|{4}).1;refine iB (u:=.d<|.int<|a.fdiv 24) (v:=.d<|.int 6) (iB (u:=.d<|.int a) (v:=.d<|.int 24) (xv rfl) xc λ K k=>⟨rfl,k⟩) xc λ K k=>⟨{4},?_⟩;show K (.int<|(a.fdiv 24).fmod 6);rw[<-Int.toNat_of_nonneg p];exact k
 rw[b,List.map_map] at h;have e:(tV rest).map (λ w=>D.int (w:Nat))=(rest.take 6).map (Ft ∘ D.int)++[.int 5,.int 4,.int 3,.int 2,.int 1,.int 0]:=by unfold tV;rw[List.map_append,List.map_map];rfl
 rw[e];exact mT h (Av (n:=n+11) [.int 5,.int 4,.int 3,.int 2,.int 1,.int 0]<|{4})<|by rw[Zu,List.length_take];exact ba<|by show min 6 rest.length+6<=5000;exact U737
def En {v:D}{q:Bool}{d:List D}(o:av l 7=Kf (.d<|.lst d))(r:av l 9=Kf (nV way))(b:av l 10=Kf (.d v))(t:d[way]?=Kf v)(u:d.length<=big)(f:DueV v q)(h:K .next ⟨l,c⟩):aJ P pr (n+20) [ya] ⟨l,c⟩ K:=by have i:∀{n:Nat},Ex P (n+2) l c (.item (.v 7)<|.v 9) (.d v):=λ {n}=>lq (xv o) (xv r) λ K k=>jD t u k;have j:∀{n:Nat} {e:IE},Ex P (n+3) l c e (.d v)->Ex P (n+5) l c (.call (.g<|.bi .isinstance) [e,.g<|.bi .bool] Wq) (.d<|.bool q):=λ {n e} w=>kN xg (x1 w<|x1 xg x0) λ K k=>wI f k;refine cQ (q:=false) (JM (p:=false) (q:=false) (cM (xv b) i λ K k=>z4 f k) λ _=>cM (j<|xv b) (j i) λ K k=>?_) nofun λ _=>aS h;show K (!(q==q));rw[beq_self_eq_true];exact k
end
def y1 (s:Stmt):Wz×Wz×List Stmt×Pos:=if h:s.ctorIdx=9 then @Stmt.For.elim (λ _=>_) s h λ t i b _ p=>(t,i,b,p) else (zE,zE,[],zP)
def GB (s:Stmt):Wz:=(y1 s).1
def DF (s:Stmt):Wz:=(y1 s).2.1
def GY (s:Stmt):List Stmt:=(y1 s).2.2.1
def Iw (s:Stmt):Pos:=(y1 s).2.2.2
def EV (s:Stmt):List Wz×Wz×Pos:=if h:s.ctorIdx=5 then @Stmt.Assign.elim (λ _=>_) s h λ t v p=>(t,v,p) else ([],zE,zP)
def GA (s:Stmt):Wz:=(EV s).1.headD zE
def Bg (s:Stmt):Wz:=(EV s).2.1
def J9 (s:Stmt):Pos:=(EV s).2.2
def GU (e:Wz):List Wz:=(D1 e).2.1
abbrev FW (p:Params):List Stmt:=(aq (K1 p) 320).take 11
abbrev lS (p:Params):Stmt:=(aq (K1 p) 320).getD 11 uM
abbrev zh (p:Params):Stmt:=(aq (K1 p) 320).getD 12 uM
abbrev uu (p:Params):Stmt:=(GY<|lS p).getD 0 uM
abbrev IM (p:Params):Stmt:=(GY<|lS p).getD 1 uM
abbrev B1 (p:Params):Stmt:=.Assign [.Name (Qq "told")<|qz<|GA<|uu p] (.Call (.Name (Qq "_law_ask")<|qz<|uB<|Bg<|uu p) [.Name (Qq "parser")<|qz<|(GU<|Bg<|uu p).getD 0 zE,.Name (Qq "way")<|qz<|(GU<|Bg<|uu p).getD 1 zE] []<|FM<|Bg<|uu p)<|J9<|uu p
def vG (p:Params):aq (K1 p) 320=FW p++[.For (.Name (Qq "way")<|qz<|GB<|lS p) (DF<|lS p) [B1 p,IM p] []<|Iw<|lS p,zh p]:={2}
def yM (p:Params):aV 60 (T1 p 320) (FW p)=Kf uY:={2}
def Bb (p:Params):aH 60 (T1 p 320) (DF<|lS p)=Kf BU:={2}
def zM (p:Params):aV 60 (T1 p 320) [IM p]=Kf [ya]:={2}
def yz (p:Params):aV 60 (T1 p 320) [zh p]=Kf [.ret<|some<|.cmp .Eq (.attr (.v 8) cf)<|.v 6]:={2}
def yA:Spec:=λ vs c K=>∃l:List Int,vs=[.d<|.lst<|l.map .int]/\l.length<=63/\c=[]/\∀c',K (.d<|.bool true) c'
noncomputable abbrev l6:List (Ww×Spec):=[(161,je 255),(266,gq),(308,jA),(168,lA 255)]
def HE (prog:Program)(w:Wv)(hb:Wu)(d:Nat)(a:Ww)(spec:Spec):Prop:=
 ∀(A:Around),A.frames=Kf []->Room d A->∀(vs:List V) (ws:List Wx) (c:aa) (α:Al) (s:Wj) (K:V->aa->Prop) (R:Result->Wj->Prop),
  Cst hb [] c α s.heap->IsVs c α s.heap vs ws->spec vs c K->
  (∀v c' α' g h' tk,K v c'->Cst hb [] c' α' h'->Le c α s.heap c' α' h'->a7 c' α' h' v g->R (.ok<|.ret g) {s with heap:=h',toks:=tk})->
  codeAny (model prog w) A (.call (.ref a) ⟨ws,[]⟩) R s
section
variable {w:Wv}{p:Params}{mb:Str->Option Wx}(B:Base1 w p hb mg mb)
include B
def KO (a:Ww):Cx0 prog w hb (K1 p) (T1 p a) (PT w l6) 8:=Ff B a (de (mH B (qO B.x B.lim) (BW B)<|{4})<|de (mH B (rx B.x B.lim) (Hx B)<|{4})<|de (mH B (ro B.x B.lim) (HQ B)<|{4})<|de (mH B (yJ B.x B.lim) (Ja B)<|{4}) nofun)<|(BW B).more<|{4}
omit B in
theorem DP (X:(K1 p).In hb)(lim:hb.NoLimit):FnK hb 320 (T1 p 320) [Qq "script"] (bb (K1 p) 320) (cm (K1 p) 320) (aq (K1 p) 320):=
 pG X lim {2} (e7 λ _=>kK<|{2}) rfl {2} {2}
omit B in
theorem L3 (w:Wv):L3Ok (PT w l6):=⟨rfl,rfl,rfl,rfl,rfl,rfl,rfl,rfl⟩
omit B in
theorem eQ (p:Params):(T1 p 320).names=[Qq "script",Qq "heads",Qq "pieces",Qq "pool",Qq "step",Qq "tab",Qq "text",Qq "due",Qq "parser",Qq "way",Qq "told"]:={2}
def fG (l:List Int)(text:Str)(step:Int)(tab:Nat)(d:List D)(o9 o10:Option D):Sl:=[Kf<|.d<|.lst<|l.map .int,Kf<|.d<|.lst<|a5 headsL,Kf<|.d<|.lst<|a5 bN++a5 bM,Kf<|.obj 367011,Kf<|.d<|.int step,Kf<|nV tab,Kf<|sV text,Kf<|.d<|.lst d,Kf<|.obj 1,o9.map .d,o10.map .d]
omit B in
theorem Eo {l:List Int}{text:Str}{step:Int}{d:List D}{o9 o10:Option D}{s:L2}(W:Wf<|pc rest<|aw text step (tab:Nat) s i):Wk [] ⟨fG l text step tab d o9 o10,pc rest<|aw text step (tab:Nat) s i⟩ ⟨fG l text step tab d o9 o10,pc rest<|aw text step (tab:Nat) s i⟩:=by
 refine⟨?_,rfl,W.w,nofun⟩;refine⟨⟨_,rfl,vD _ _ _⟩,⟨_,rfl,vD _ _ _⟩,⟨_,rfl,vD _ _ _⟩,⟨_,rfl,.inl ⟨rfl,.head _⟩⟩,⟨_,rfl,vD _ _ _⟩,⟨_,rfl,vD _ _ _⟩,⟨_,rfl,vD _ _ _⟩,⟨_,rfl,vD _ _ _⟩,⟨_,rfl,.inl ⟨rfl,.tail _<|.tail _<|.head _⟩⟩,?_⟩
 cases o9 with
 |none=>cases o10 with|none=>trivial|some _=>exact⟨⟨_,rfl,vD _ _ _⟩,trivial⟩
 |some _=>cases o10 with|none=>exact⟨⟨_,rfl,vD _ _ _⟩,trivial⟩|some _=>exact⟨⟨_,rfl,vD _ _ _⟩,⟨_,rfl,vD _ _ _⟩,trivial⟩
def Bf {env:Env}(E:CxE env<|T1 p 320){A:Around}(R:Room 9 A)(J:A.frames=Kf [env])(L:env.frame=Kf env.locals){l:List Int}{text:Str}{step:Int}{d:List D}{g:L2}{p0:Nat}(hr:rest.length<=63)(ak:wp text step tab d g p0) :OkS (model prog w) A hb [] env ⟨ad (T1 p 320).names<|fG l text step tab d Wq Wq,pc rest<|aw text step (tab:Nat) (L0 0) 0⟩ (exec (.For (.Name (Qq "way")<|qz<|GB<|lS p) (DF<|lS p) [B1 p,IM p] []<|Iw<|lS p) env)
   λ f τ=>f=.next/\∃o9 o10 s i,τ=⟨ad (T1 p 320).names<|fG l text step tab d o9 o10,pc rest<|aw text step (tab:Nat) s i⟩/\Par 255 (pc rest<|aw text step (tab:Nat) s i) 1 2 text step (tab:Nat) s i:=by
 have X:=KO (prog:=prog) B 320;have ⟨O,t1,t8,M⟩:=ak;obtain⟨T,U⟩:=O.txt;have tx:TxOk text:=⟨T,U,M.two⟩;have Y:jE env (Qq "way"):=(fV E (T:=T1 p 320) (i:=9)<|{2}).1;refine uV E.eo R.handled Y (mE<|{2}) ?_;have W:=HJ (P:=PT w l6) (n:=0) (l:=fG l text step tab d Wq Wq) (rest:=rest) (lV text step (tab:Nat) (L0 0) 0) rfl hr;refine (snd (prog:=prog) (w:=w) (hb:=hb) (P:=PT w l6) (K₀:=K1 p) (dep:=8) 60 (T1 p 320) env A [] X E R _ _<|Bb p).1 20 _ _ _<|W _ ?_;refine⟨trivial,_,rfl,λ j τ=>∃o9 o10 s i,τ=⟨ad (T1 p 320).names<|fG l text step tab d o9 o10,pc rest<|aw text step (tab:Nat) s i⟩/\Par 255 (pc rest<|aw text step (tab:Nat) s i) 1 2 text step (tab:Nat) s i,?_,?_,?_⟩;exact⟨Wq,Wq,L0 0,0,rfl,IJ (lV ..) rest,rfl,rfl,tx,{4},nofun⟩
 ·intro j dd τ t e_;obtain⟨o9,o10,s,i,rfl,q⟩:=e_
  obtain⟨way,z,rfl⟩:∃way,(tV rest)[j]?=Kf way/\dd=.int (way:Nat):=by rw[Xy] at t;cases e:(tV rest)[j]? with|none=>rw[e] at t;cases t|some way=>rw[e] at t;exact⟨way,rfl,(Option.some.inj t).symm⟩
  have h5:=Bj z;obtain⟨v,qb,hv,hq⟩:=Hb M h5;have G:(fG l text step tab d o9 o10).length=(T1 p 320).names.length:=by rw[eQ p];rfl
  refine OkS.look (λ y=>i9 E.nd G (fV E (T:=T1 p 320) (x:=Qq "way") (i:=9)<|{2}).2 (.d<|.int (way:Nat)) y) ?_;intro α s0 Q hs F hQ;have e9:(fG l text step tab d o9 o10).set 9 (Kf<|nV way)=fG l text step tab d (Kf<|.int (way:Nat)) o10:=rfl;have F:Fst hb [] env (ad (T1 p 320).names<|fG l text step tab d (Kf<|.int (way:Nat)) o10) (pc rest<|aw text step (tab:Nat) s i) α s0.heap:=F;have h:∀o9 o10,(fG l text step tab d o9 o10).length=(T1 p 320).names.length:=λ o9 o10=>by rw[eQ p];rfl
  have hkp:∃k,Looks (model prog w) hb (keeperOf<|.ref 315) k:=let ⟨_,h1,h2⟩:=(yI B.x B.lim).N.at_;k9 B h1 h2
  refine wpAny_execs_cons (AH X E (R.less {4}) J L (J8 B) hkp (i:=10) (j1:=8) (j2:=9) {2} {2} {2} {2} (pr:=[]) (σ:=⟨fG l text step tab d (Kf (.int (way:Nat))) o10,pc rest (aw text step (tab:Nat) s i)⟩) (h _ _) (v1:=.obj 1) (v2:=nV way) rfl rfl
   (Kd:=λ v c'=>∃u o r,v=.d u/\c'=pc rest (aw text step (tab:Nat) o r)/\d[way]?=Kf u/\Par 255 c' 1 2 text step (tab:Nat) o r)
   ⟨1,2,text,step,tab,s,i,g,p0,d,way,rfl,h5,q,by simp[lm,dom],ak,λ v o r hv' I=>⟨v,o,r,rfl,rfl,hv',I⟩⟩ hs F λ v' c' α1 h1 tk1 ht1 k F1 L1=>?_)
  obtain⟨u,o,r,rfl,rfl,hu,I⟩:=k;have eu:u=v:=Option.some.inj<|hu.symm.trans hv;subst eu;have hd6:d.length<=big:=by rw[M.e];exact b6
  have S2:=(qV (prog:=prog) (w:=w) (hb:=hb) (P:=PT w l6) (K₀:=K1 p) (dep:=8) 60).2 (T1 p 320) env A [] X E R [IM p] [ya] (zM p) 20 ⟨fG l text step tab d (Kf<|.int (way:Nat))<|some u,pc rest<|aw text step (tab:Nat) o r⟩ (λ f τ=>f=.next/\τ=⟨fG l text step tab d (Kf<|.int (way:Nat))<|some u,pc rest<|aw text step (tab:Nat) o r⟩) (h _ _)
   (En (P:=PT w l6) (n:=0) (d:=d) (way:=way) (q:=qb) rfl rfl rfl hv hd6 hq ⟨rfl,rfl⟩)
  refine S2 α1 {s0 with heap:=h1,toks:=tk1} Q ht1 F1 λ f τ α2 g h2 tk2 ht2 k2 F2 L2 ig=>?_;obtain⟨σ,hlσ,rfl,rfl,rfl⟩:=k2;exact hQ .next _ α2 g h2 tk2 ht2 ⟨_,(Eo I.w).weak E.nd,Kf<|.int (way:Nat),Kf u,o,r,rfl,I⟩ F2 (L1.trans L2 λ b hf=>(F2.fr b hf).2) ig
 intro τ e_;obtain⟨o9,o10,s,i,rfl,q⟩:=e_;exact⟨rfl,o9,o10,s,i,rfl,q⟩
def JP:HE prog w hb 10 320 yA:=by
 intro A r R vs ws c α s K Q C Y sp hQ;obtain⟨l,rfl,hl,rfl,hK⟩:=sp;have N:=DP B.x B.lim;have hr:(bb (K1 p) 320).length=10:={2}
 rw[vG p] at N;refine fW N.N R (.inr ⟨_,_,rfl,{2}⟩) C Y rfl λ h₁ tk t u=>?_;have E:=N.cxE u.eo;have X:=KO (prog:=prog) B 320;have R1:Room 9 (A.deeper<|callEnvC (cm (K1 p) 320) s.heap.objs.size 320):=R.deeper _;have L:=u.F;rw[<-dw [Qq "script"] (bb (K1 p) 320) [.d<|.lst<|l.map .int] rfl,<-N.names,hr] at L
 refine kZ X E R1 (FW p) 60 uY (yM p) 80 ⟨start [.d<|.lst<|l.map .int] 10,[]⟩ (λ f τ=>f=.next/\∃rest text step tab d g o,rest.length<=63/\wp text step tab d g o/\τ=⟨DD l text step tab d,pc rest<|aw text step (tab:Nat) (L0 0) 0⟩) (by rw[eQ p];rfl)
  (y0 (n:=0) (L3 w) l hl λ rest text step tab d g o M T=>⟨rfl,rest,text,step,tab,d,g,o,M,T,rfl⟩) α _ t L λ f τ α1 g M tk1 y k F1 L1 e=>?_
 obtain⟨σ,hlσ,rfl,rfl,r_⟩:=k;obtain⟨rest,text,step,tab,r_⟩:=r_;obtain⟨d,g,o,z,r_⟩:=r_;obtain⟨ak,rfl⟩:=r_;subst e;refine wpAny_execs_cons<|Vq (Bf B E R1 (Around.frames_deeper r) rfl (l:=l) z ak α1 _ (λ f j=>match f with | .next=>wpAny (model prog w) _ (execs [zh p]<|callEnvC (cm (K1 p) 320) s.heap.objs.size 320) _ _ j|f=>_) y F1 λ f τ α2 g T tk2 G k2 U L2 e=>?_) (λ _ _ x=>x) λ _ _ x=>x.elim;obtain⟨rfl,o9,o10,j,r_⟩:=k2;obtain⟨i,rfl,q⟩:=r_;subst e;have hc:look (aw text step (tab:Nat) j i) cf=Kf (.d<|.str text):=i3 (p:=λ i=>look (aw text step (tab:Nat) j i) cf=Kf (.d<|.str text)) q.le {2} {2}<|{2}
 have S2:=(qV (prog:=prog) (w:=w) (hb:=hb) (P:=PT w l6) (K₀:=K1 p) (dep:=8) 60).2 (T1 p 320) _ _ [] X E R1 [zh p] _ (yz p) 20 ⟨fG l text step tab d o9 o10,pc rest<|aw text step (tab:Nat) j i⟩ (λ f τ=>f=.ret (.d<|.bool true)) (by rw[eQ p];rfl)
  (jB (n:=18) (v:=.d<|.bool true) (Er (λ K' h=>bt (n:=15) rfl q.k_ q.d_ (cy w _ _).co hc rfl K' h) (xv rfl) λ K k=>by show K (text==text);rw[beq_self_eq_true];exact k) rfl)
 refine Vq (S2 α2 _ (λ f j=>Q (.ok<|.ret<|match f with | .ret v=>v|_=>.none) j) G U λ f τ α3 g h3 I ht3 k3 W L3 e=>?_) (λ _ _ x=>x) λ _ _ x=>x.elim;obtain⟨σ,hlσ,rfl,rfl⟩:=k3;obtain⟨g',rfl,e⟩:=e;cases e;have LS:=(L1.trans L2 λ b J=>(U.fr b J).2).trans L3 λ b J=>(W.fr b J).2;obtain⟨C',L'⟩:=u.le (l':=ad (T1 p 320).names σ.l) W LS nofun;exact hQ (.d<|.bool true) σ.c α3 (.bool true) h3 I (hK _) C' L'<|.bool _
def enter3 {Q:Wx->Wj->Prop}{E:Wx->Wj->Prop}(j:s.heap=hb){l:List Int}(hl:l.length<=63)(q:Well w.params s.heap (.ref b)<|ofPy<|.list<|l.map .int)(t:∀h' h,(∀x o,s.heap.get? x=Kf o->h'.get? x=Kf o)->Q (.bool true) {s with heap:=h',toks:=h}):wpAny (model prog w) callerA (call (.ref 320) [.ref b]) Q E s:=by
 subst j;have C:Cst s.heap [] [] (λ _=>0) s.heap:=⟨λ _ _ e=>e,λ k o e=>(by contradiction),λ k f=>(by contradiction),λ k f=>(by contradiction),λ k f=>(by contradiction)⟩;refine wpAny_call<|JP B callerA rfl ⟨rfl,?_,?_⟩ [.d<|.lst<|l.map .int] [.ref b] [] (λ _=>0) s (λ v c=>v=.d (.bool true)) _ C ?_ ⟨l,rfl,hl,rfl,λ _=>rfl⟩ ?_;have:(1+claimMargin)+10<recursionLimit:={3}
 exact this;have:4+10*10+200<cLine:={3}
 exact this;refine .cons ?_ .nil;have hl:Well w.params s.heap (.ref b) (.list<|ofPys<|l.map .int):=q;cases hl with| @list _ vs _ g r=>refine IsD.lst (ws:=vs) (ep:=0) g ?_<|uO r;intro e_;obtain⟨k,f,_⟩:=e_;contradiction
 rintro v y z g h' h rfl G u i;cases i;exact t h' h λ x o e=>u.kept x o e<|by intro e_;obtain⟨k,f,_⟩:=e_;cases f
end
end Mine
open PySem PySem.W PyProof.Rows
set_option maxRecDepth 100000 in
set_option maxHeartbeats 8000000 in
set_option tactic.hygienic true in
theorem PySem.Challenge.cw_dm0168_03_holds : PySem.Challenge.rw_dm0168_03.Holds := by
 w_on
 refine holds_law Mine.H3.looked fun said=>?_
 refine holds_openN (q:=Mine.H3.view) (loose:=Mine.H3.loose) (Xt:=Mine.H3.Xt) (XP:=XL Mine.H3.view Mine.H3.lv) (Yf:=Hook.obs Mine.H3.H) (Ya:=Hook.val Mine.H3.H) (YP:=Hook.says Mine.H3.H) (N:=17576) Mine.H3.hl (Hook.of Mine.H3.H) (Hook.keeps Mine.H3.H)
  (fun s e=>xl_of s (Bool.and_eq_true_iff.mp e).1) XL.keeps (by rfl) (by rfl) (by rfl) (fun s e=>recFacts_of (Bool.and_eq_true_iff.mp e).2) (by rfl) (by first|assumption|decide +kernel) {3} ⟨rfl,rfl,rfl,rfl,rfl,{3}⟩ ?U ?hc
 case U=>w_witness2
 intro w s0 L M mb G Y P o pm cd doc dV kV W hd k hD p hg args vals as h i r t u;have R:(Mine.K1 w.params).In L.heap:=Y;refine Ground.open G ?_;intro T B D TE TW
 wrow_args h i r t u
 rename_i l hs f x y z as1 as2 a ws as3 hL ra w1 r0 hI hr I hcond1;clear B D TE TW hs f x y z ra r0 hr hD k hd W Y;have hB:Mine.Base1 w w.params L.heap M mb:=⟨R,T.nolimit,T.g,T.b,T.builtins⟩;have J:P=320:=by
  have e:M (Qq "law")=Kf (.ref P):=p;have e2:nsFind (Mine.nsOf (Mine.K1 w.params) mainGlobals) (Qq "law")=Kf (.ref 320):={2}
  rw[Mine.mg_of R T.g {2} (Qq "law"),e2] at e;cases e;rfl
 subst J;have j:l.length≤63:=by omega
 refine Mine.enter3 hB rfl j w1 fun h' tk hk=>?_;refine⟨.inl ⟨.bool true,.bool true,[],rfl,raisesW_false (by wrow_none_raised),.bool _,?_,fun _=>⟨List.nodup_nil,fun a ha=>(by cases ha)⟩⟩,hk,rfl,hg⟩
 wrow_post
