import PyProof.Rows.All
import Wide.All
import OpenK.AllK
import Wide.FinOn
import PyProof.AttrMissHeap
import Lean
import PySem.Challenge.RW_dm0168_06
set_option Elab.async false
set_option genSizeOf false
set_option genSizeOfSpec false
set_option genInjectivity false
section
set_option Elab.async false
set_option linter.unusedVariables false
set_option maxRecDepth 100000
set_option maxHeartbeats 8000000
namespace Mine.H6
open PySem PySem.W PySem.Calls PyProof.Rows
noncomputable abbrev pw : Program := PySem.Challenge.pw_dm0168_06
/- a statement of the text by its place -/
noncomputable def nthS : List Stmt → Nat → Stmt
  | [], _ => .Pass ⟨0, 0, 0, 0⟩
  | s :: _, 0 => s
  | _ :: r, n + 1 => nthS r n
noncomputable def bodyS : Stmt → List Stmt
  | .FunctionDef _ _ b _ _ _ _ _ _ _ => b
  | .ClassDef _ _ _ b _ _ _ _ _ _ _ => b
  | _ => []
noncomputable def argsS : Stmt → Arguments
  | .FunctionDef _ a _ _ _ _ _ _ _ _ => a
  | _ => default
noncomputable def scopeS : Stmt → Scope
  | .FunctionDef _ _ _ _ _ _ s _ _ _ => s
  | .ClassDef _ _ _ _ _ _ s _ _ _ _ => s
  | _ => default
noncomputable def o0 (P : Params) : Obj := ⟨(.type "tuple"), none, (.seq #[] 0), #[]⟩
noncomputable def o1 (P : Params) : Obj := ⟨.none, none, (.fields #[]), #[]⟩
noncomputable def o2 (P : Params) : Obj := ⟨(.type "code"), none, (.fields #[(.str (Str.ofString "<module>") 182), (.str (Str.ofString "<module>") 183), (.str (Str.ofString "/claim/cut.py") 184), (.int 1 0), (.int 0 0), (.int 0 0), (.int 0 0), (.int 0 0), (.ref 11), (.bool false), (.int 181 0), (.ref 12), .none, .none, .none, .none, (.int 185 0), (.int 1 0), (.str (Str.ofString "/claim/cut.py") 186)]), #[]⟩
noncomputable def o3 (P : Params) : Obj := ⟨(.type "frame"), none, .plain, #[(some (.ref 13)), (some (.ref 3)), (some (.ref 3)), none, (some (.str (Str.ofString "__main__") 164)), none, (some (.ref 0))]⟩
noncomputable def hSa (P : Params) : Heap := ⟨Array.mk [boot_o_0 P, boot_o_1 P, boot_o_2 P, boot_o_3 P, boot_o_4 P, boot_o_5 P, boot_o_6 P, boot_o_7 P, boot_o_8 P, boot_o_9 P, boot_o_10 P, o0 P, o1 P, o2 P, o3 P], { }⟩
noncomputable def Sa (w : World) (os : OsState) : Shared := ⟨hSa w.params, Array.mk [], ⟨0, 0, 0, 0⟩, 187, os⟩
noncomputable def tS0 (P : Params) : BT := (.node (boot_o_0 P) (.node (boot_o_1 P) (.node (boot_o_3 P) (.node (boot_o_7 P) .nil .nil) (.node (o0 P) .nil .nil)) (.node (boot_o_5 P) (.node (boot_o_9 P) .nil .nil) (.node (o2 P) .nil .nil))) (.node (boot_o_2 P) (.node (boot_o_4 P) (.node (boot_o_8 P) .nil .nil) (.node (o1 P) .nil .nil)) (.node (boot_o_6 P) (.node (boot_o_10 P) .nil .nil) (.node (o3 P) .nil .nil))))
noncomputable def S0 (w : World) (os : OsState) : SharedT := ⟨tS0 w.params, 15, { }, Array.mk [], ⟨0, 0, 0, 0⟩, 187, os⟩
noncomputable def o4 (P : Params) : Obj := ⟨(.type "dict"), none, (.dict #[⟨PyData.keyHash P (Str.ofString "__name__"), (.str (Str.ofString "__name__") 165), (.str (Str.ofString "cpy313.idlelib.pyparse") 194)⟩, ⟨PyData.keyHash P (Str.ofString "__doc__"), (.str (Str.ofString "__doc__") 166), .none⟩, ⟨PyData.keyHash P (Str.ofString "__package__"), (.str (Str.ofString "__package__") 167), .none⟩, ⟨PyData.keyHash P (Str.ofString "__loader__"), (.str (Str.ofString "__loader__") 168), (.builtin "__main__.__loader__#opaque")⟩, ⟨PyData.keyHash P (Str.ofString "__spec__"), (.str (Str.ofString "__spec__") 169), .none⟩, ⟨PyData.keyHash P (Str.ofString "__annotations__"), (.str (Str.ofString "__annotations__") 170), (.ref 6)⟩, ⟨PyData.keyHash P (Str.ofString "__builtins__"), (.str (Str.ofString "__builtins__") 171), (.ref 4)⟩, ⟨PyData.keyHash P (Str.ofString "__file__"), (.str (Str.ofString "__file__") 173), (.str (Str.ofString "/claim/cut.py") 172)⟩, ⟨PyData.keyHash P (Str.ofString "__cached__"), (.str (Str.ofString "__cached__") 174), .none⟩, ⟨PyData.keyHash P (Str.ofString "_wall"), (.str (Str.ofString "_wall") 193), (.ref 21)⟩, ⟨PyData.keyHash P (Str.ofString "C_NONE"), (.str (Str.ofString "C_NONE") 204), (.int 0 199)⟩, ⟨PyData.keyHash P (Str.ofString "C_BACKSLASH"), (.str (Str.ofString "C_BACKSLASH") 205), (.int 1 200)⟩, ⟨PyData.keyHash P (Str.ofString "C_STRING_FIRST_LINE"), (.str (Str.ofString "C_STRING_FIRST_LINE") 206), (.int 2 201)⟩, ⟨PyData.keyHash P (Str.ofString "C_STRING_NEXT_LINES"), (.str (Str.ofString "C_STRING_NEXT_LINES") 207), (.int 3 202)⟩, ⟨PyData.keyHash P (Str.ofString "C_BRACKET"), (.str (Str.ofString "C_BRACKET") 208), (.int 4 203)⟩] 15), #[]⟩
noncomputable def o5 (P : Params) : Obj := ⟨.none, none, (.fields #[(.int 1 0), (.int 0 0), (.ref 20)]), #[]⟩
noncomputable def o6 (P : Params) : Obj := ⟨(.type "tuple"), none, (.seq #[(.str (Str.ofString "k") 190)] 0), #[]⟩
noncomputable def o7 (P : Params) : Obj := ⟨.none, none, (.func ⟨(Str.ofString "_wall"), (Str.ofString "_wall"), (argsS (nthS pw.main.body 0)), (.stmts (bodyS (nthS pw.main.body 0))), (scopeS (nthS pw.main.body 0)), 0, [], .none, .none, .none, .none, none, .none, .none, 0⟩), #[]⟩
noncomputable def o8 (P : Params) : Obj := ⟨(.type "code"), none, (.fields #[(.str (Str.ofString "_wall") 187), (.str (Str.ofString "_wall") 188), (.str (Str.ofString "/claim/cut.py") 189), (.int 1 0), (.int 1 0), (.int 0 0), (.int 0 0), (.int 3 0), (.ref 15), (.bool true), (.int 181 0), (.ref 16), .none, (.ref 17), (.ref 18), (.ref 19), (.int 191 0), (.int 1 0), (.str (Str.ofString "/claim/cut.py") 192)]), #[]⟩
noncomputable def o9 (P : Params) : Obj := ⟨(.type "function"), none, (.func ⟨(Str.ofString "_wall"), (Str.ofString "_wall"), (argsS (nthS pw.main.body 0)), (.stmts (bodyS (nthS pw.main.body 0))), (scopeS (nthS pw.main.body 0)), 3, [], .none, .none, .none, (.str (Str.ofString "__main__") 164), none, (.ref 20), .none, 0⟩), #[]⟩
noncomputable def o10 (P : Params) : Obj := ⟨(.type "range"), none, (.fields #[(.int 0 197), (.int 5 196), (.int 1 198)]), #[]⟩
noncomputable def o11 (P : Params) : Obj := ⟨(.type "range_iterator"), none, (.fields #[(.int 5 0), (.int 0 0), (.int 1 0)]), #[]⟩
noncomputable def o12 (P : Params) : Obj := ⟨(.type "StopIteration"), none, (.fields #[(.ref 24), .none, .none, .none, (.bool false), .none]), #[]⟩
noncomputable def tS1 (P : Params) : BT := (.node (boot_o_0 P) (.node (boot_o_1 P) (.node (o4 P) (.node (boot_o_7 P) (.node (o0 P) .nil .nil) (.node (o11 P) .nil .nil)) (.node (o0 P) (.node (o7 P) .nil .nil) .nil)) (.node (boot_o_5 P) (.node (boot_o_9 P) (.node (o6 P) .nil .nil) (.node (o12 P) .nil .nil)) (.node (o2 P) (.node (o9 P) .nil .nil) .nil))) (.node (boot_o_2 P) (.node (boot_o_4 P) (.node (boot_o_8 P) (.node (o1 P) .nil .nil) (.node (o0 P) .nil .nil)) (.node (o5 P) (.node (o8 P) .nil .nil) .nil)) (.node (boot_o_6 P) (.node (boot_o_10 P) (.node (o0 P) .nil .nil) .nil) (.node (o3 P) (.node (o10 P) .nil .nil) .nil))))
noncomputable def S1 (w : World) (os : OsState) : SharedT := ⟨tS1 w.params, 26, { }, Array.mk [], ⟨0, 0, 0, 0⟩, 209, os⟩
noncomputable def o13 (P : Params) : Obj := ⟨(.type "dict"), none, (.dict #[⟨PyData.keyHash P (Str.ofString "__name__"), (.str (Str.ofString "__name__") 165), (.str (Str.ofString "cpy313.idlelib.pyparse") 194)⟩, ⟨PyData.keyHash P (Str.ofString "__doc__"), (.str (Str.ofString "__doc__") 166), .none⟩, ⟨PyData.keyHash P (Str.ofString "__package__"), (.str (Str.ofString "__package__") 167), .none⟩, ⟨PyData.keyHash P (Str.ofString "__loader__"), (.str (Str.ofString "__loader__") 168), (.builtin "__main__.__loader__#opaque")⟩, ⟨PyData.keyHash P (Str.ofString "__spec__"), (.str (Str.ofString "__spec__") 169), .none⟩, ⟨PyData.keyHash P (Str.ofString "__annotations__"), (.str (Str.ofString "__annotations__") 170), (.ref 6)⟩, ⟨PyData.keyHash P (Str.ofString "__builtins__"), (.str (Str.ofString "__builtins__") 171), (.ref 4)⟩, ⟨PyData.keyHash P (Str.ofString "__file__"), (.str (Str.ofString "__file__") 173), (.str (Str.ofString "/claim/cut.py") 172)⟩, ⟨PyData.keyHash P (Str.ofString "__cached__"), (.str (Str.ofString "__cached__") 174), .none⟩, ⟨PyData.keyHash P (Str.ofString "_wall"), (.str (Str.ofString "_wall") 193), (.ref 21)⟩, ⟨PyData.keyHash P (Str.ofString "C_NONE"), (.str (Str.ofString "C_NONE") 204), (.int 0 199)⟩, ⟨PyData.keyHash P (Str.ofString "C_BACKSLASH"), (.str (Str.ofString "C_BACKSLASH") 205), (.int 1 200)⟩, ⟨PyData.keyHash P (Str.ofString "C_STRING_FIRST_LINE"), (.str (Str.ofString "C_STRING_FIRST_LINE") 206), (.int 2 201)⟩, ⟨PyData.keyHash P (Str.ofString "C_STRING_NEXT_LINES"), (.str (Str.ofString "C_STRING_NEXT_LINES") 207), (.int 3 202)⟩, ⟨PyData.keyHash P (Str.ofString "C_BRACKET"), (.str (Str.ofString "C_BRACKET") 208), (.int 4 203)⟩, ⟨PyData.keyHash P (Str.ofString "ParseMap"), (.str (Str.ofString "ParseMap") 236), (.ref 42)⟩] 16), #[]⟩
noncomputable def o14 (P : Params) : Obj := ⟨.none, none, (.fields #[(.int 1 0), (.int 0 0), (.ref 20), (.int 6 0), (.int 0 0), (.ref 31)]), #[]⟩
noncomputable def o15 (P : Params) : Obj := ⟨(.type "tuple"), none, (.seq #[(.type "dict")] 0), #[]⟩
noncomputable def o16 (P : Params) : Obj := ⟨(.type "builtin_function_or_method"), none, (.fields #[(.builtin "type.__prepare__"), (.type "type")]), #[]⟩
noncomputable def o17 (P : Params) : Obj := ⟨(.type "dict"), none, (.dict #[⟨PyData.keyHash P (Str.ofString "__module__"), (.str (Str.ofString "__module__") 216), (.str (Str.ofString "cpy313.idlelib.pyparse") 194)⟩, ⟨PyData.keyHash P (Str.ofString "__qualname__"), (.str (Str.ofString "__qualname__") 218), (.str (Str.ofString "ParseMap") 217)⟩, ⟨PyData.keyHash P (Str.ofString "__firstlineno__"), (.str (Str.ofString "__firstlineno__") 220), (.int 6 219)⟩, ⟨PyData.keyHash P (Str.ofString "__missing__"), (.str (Str.ofString "__missing__") 228), (.ref 39)⟩, ⟨PyData.keyHash P (Str.ofString "__static_attributes__"), (.str (Str.ofString "__static_attributes__") 229), (.ref 40)⟩] 5), #[]⟩
noncomputable def o18 (P : Params) : Obj := ⟨.none, none, (.fields #[(.int 8 0), (.int 4 0), (.ref 38)]), #[]⟩
noncomputable def o19 (P : Params) : Obj := ⟨(.type "code"), none, (.fields #[(.str (Str.ofString "ParseMap") 211), (.str (Str.ofString "ParseMap") 212), (.str (Str.ofString "/claim/cut.py") 213), (.int 6 0), (.int 0 0), (.int 0 0), (.int 0 0), (.int 0 0), (.ref 29), (.bool false), (.int 181 0), (.ref 30), .none, .none, .none, .none, (.int 214 0), (.int 6 0), (.str (Str.ofString "/claim/cut.py") 215)]), #[]⟩
noncomputable def o20 (P : Params) : Obj := ⟨(.type "frame"), none, .plain, #[(some (.ref 31)), (some (.ref 3)), (some (.ref 28)), none, (some (.str (Str.ofString "cpy313.idlelib.pyparse") 194)), none, (some (.ref 0))]⟩
noncomputable def o21 (P : Params) : Obj := ⟨(.type "tuple"), none, (.seq #[(.str (Str.ofString "self") 224), (.str (Str.ofString "key") 225)] 0), #[]⟩
noncomputable def o22 (P : Params) : Obj := ⟨.none, none, (.func ⟨(Str.ofString "__missing__"), (Str.ofString "ParseMap.__missing__"), (argsS (nthS (bodyS (nthS pw.main.body 3)) 0)), (.stmts (bodyS (nthS (bodyS (nthS pw.main.body 3)) 0))), (scopeS (nthS (bodyS (nthS pw.main.body 3)) 0)), 0, [], .none, .none, .none, .none, none, .none, .none, 0⟩), #[]⟩
noncomputable def o23 (P : Params) : Obj := ⟨(.type "code"), none, (.fields #[(.str (Str.ofString "__missing__") 221), (.str (Str.ofString "ParseMap.__missing__") 222), (.str (Str.ofString "/claim/cut.py") 223), (.int 8 0), (.int 2 0), (.int 0 0), (.int 0 0), (.int 3 0), (.ref 33), (.bool true), (.int 181 0), (.ref 34), .none, (.ref 35), (.ref 36), (.ref 37), (.int 226 0), (.int 8 0), (.str (Str.ofString "/claim/cut.py") 227)]), #[]⟩
noncomputable def o24 (P : Params) : Obj := ⟨(.type "function"), none, (.func ⟨(Str.ofString "__missing__"), (Str.ofString "ParseMap.__missing__"), (argsS (nthS (bodyS (nthS pw.main.body 3)) 0)), (.stmts (bodyS (nthS (bodyS (nthS pw.main.body 3)) 0))), (scopeS (nthS (bodyS (nthS pw.main.body 3)) 0)), 3, [], .none, .none, .none, (.str (Str.ofString "cpy313.idlelib.pyparse") 194), none, (.ref 38), .none, 0⟩), #[]⟩
noncomputable def o25 (P : Params) : Obj := ⟨(.type "dict"), none, (.dict #[⟨PyData.keyHash P (Str.ofString "__module__"), (.str (Str.ofString "__module__") 216), (.str (Str.ofString "cpy313.idlelib.pyparse") 194)⟩, ⟨PyData.keyHash P (Str.ofString "__firstlineno__"), (.str (Str.ofString "__firstlineno__") 220), (.int 6 219)⟩, ⟨PyData.keyHash P (Str.ofString "__missing__"), (.str (Str.ofString "__missing__") 228), (.ref 39)⟩, ⟨PyData.keyHash P (Str.ofString "__static_attributes__"), (.str (Str.ofString "__static_attributes__") 229), (.ref 40)⟩, ⟨PyData.keyHash P (Str.ofString "__dict__"), (.str (Str.ofString "__dict__") 231), (.ref 43)⟩, ⟨PyData.keyHash P (Str.ofString "__weakref__"), (.str (Str.ofString "__weakref__") 233), (.ref 44)⟩, ⟨PyData.keyHash P (Str.ofString "__doc__"), (.str (Str.ofString "__doc__") 234), .none⟩] 4), #[]⟩
noncomputable def o26 (P : Params) : Obj := ⟨(.type "type"), none, (.cls ⟨(Str.ofString "ParseMap"), [(.type "dict")], [(.ref 42), (.type "dict"), (.type "object")], 41, (Str.ofString "ParseMap"), true, [], [], false, none, false⟩), #[(some (.ref 26)), none, (some (.str (Str.ofString "ParseMap") 209)), (some (.str (Str.ofString "ParseMap") 217)), (some (.builtin "dict.__new__")), (some (.bool true))]⟩
noncomputable def o27 (P : Params) : Obj := ⟨(.type "getset_descriptor"), none, (.fields #[(.str (Str.ofString "__dict__") 230), (.ref 42), (.builtin "function.__dict__"), (.builtin "function.__dict__#set")]), #[]⟩
noncomputable def o28 (P : Params) : Obj := ⟨(.type "getset_descriptor"), none, (.fields #[(.str (Str.ofString "__weakref__") 232), (.ref 42), (.builtin "ExceptionGroup.__weakref__"), .none]), #[]⟩
noncomputable def o29 (P : Params) : Obj := ⟨(.type "super"), none, (.fields #[(.ref 42), (.ref 42), (.ref 42)]), #[]⟩
noncomputable def o30 (P : Params) : Obj := ⟨(.type "builtin_function_or_method"), none, (.fields #[(.builtin "object.__init_subclass__"), (.ref 42)]), #[]⟩
noncomputable def tS2 (P : Params) : BT := (.node (boot_o_0 P) (.node (boot_o_1 P) (.node (o13 P) (.node (boot_o_7 P) (.node (o0 P) (.node (o19 P) .nil .nil) .nil) (.node (o11 P) (.node (o24 P) .nil .nil) .nil)) (.node (o0 P) (.node (o7 P) (.node (o21 P) .nil .nil) .nil) (.node (o16 P) (.node (o27 P) .nil .nil) .nil))) (.node (boot_o_5 P) (.node (boot_o_9 P) (.node (o6 P) (.node (o0 P) .nil .nil) .nil) (.node (o12 P) (.node (o25 P) .nil .nil) .nil)) (.node (o2 P) (.node (o9 P) (.node (o22 P) .nil .nil) .nil) (.node (o0 P) (.node (o29 P) .nil .nil) .nil)))) (.node (boot_o_2 P) (.node (boot_o_4 P) (.node (boot_o_8 P) (.node (o1 P) (.node (o20 P) .nil .nil) .nil) (.node (o0 P) (.node (o0 P) .nil .nil) .nil)) (.node (o14 P) (.node (o8 P) (.node (o0 P) .nil .nil) .nil) (.node (o17 P) (.node (o28 P) .nil .nil) .nil))) (.node (boot_o_6 P) (.node (boot_o_10 P) (.node (o0 P) (.node (o1 P) .nil .nil) .nil) (.node (o15 P) (.node (o26 P) .nil .nil) .nil)) (.node (o3 P) (.node (o10 P) (.node (o23 P) .nil .nil) .nil) (.node (o18 P) (.node (o30 P) .nil .nil) .nil)))))
noncomputable def S2 (w : World) (os : OsState) : SharedT := ⟨tS2 w.params, 47, { }, Array.mk [], ⟨0, 0, 0, 0⟩, 237, os⟩
noncomputable def o31 (P : Params) : Obj := ⟨(.type "dict"), none, (.dict #[⟨PyData.keyHash P (Str.ofString "__name__"), (.str (Str.ofString "__name__") 165), (.str (Str.ofString "cpy313.idlelib.pyparse") 194)⟩, ⟨PyData.keyHash P (Str.ofString "__doc__"), (.str (Str.ofString "__doc__") 166), .none⟩, ⟨PyData.keyHash P (Str.ofString "__package__"), (.str (Str.ofString "__package__") 167), .none⟩, ⟨PyData.keyHash P (Str.ofString "__loader__"), (.str (Str.ofString "__loader__") 168), (.builtin "__main__.__loader__#opaque")⟩, ⟨PyData.keyHash P (Str.ofString "__spec__"), (.str (Str.ofString "__spec__") 169), .none⟩, ⟨PyData.keyHash P (Str.ofString "__annotations__"), (.str (Str.ofString "__annotations__") 170), (.ref 6)⟩, ⟨PyData.keyHash P (Str.ofString "__builtins__"), (.str (Str.ofString "__builtins__") 171), (.ref 4)⟩, ⟨PyData.keyHash P (Str.ofString "__file__"), (.str (Str.ofString "__file__") 173), (.str (Str.ofString "/claim/cut.py") 172)⟩, ⟨PyData.keyHash P (Str.ofString "__cached__"), (.str (Str.ofString "__cached__") 174), .none⟩, ⟨PyData.keyHash P (Str.ofString "_wall"), (.str (Str.ofString "_wall") 193), (.ref 21)⟩, ⟨PyData.keyHash P (Str.ofString "C_NONE"), (.str (Str.ofString "C_NONE") 204), (.int 0 199)⟩, ⟨PyData.keyHash P (Str.ofString "C_BACKSLASH"), (.str (Str.ofString "C_BACKSLASH") 205), (.int 1 200)⟩, ⟨PyData.keyHash P (Str.ofString "C_STRING_FIRST_LINE"), (.str (Str.ofString "C_STRING_FIRST_LINE") 206), (.int 2 201)⟩, ⟨PyData.keyHash P (Str.ofString "C_STRING_NEXT_LINES"), (.str (Str.ofString "C_STRING_NEXT_LINES") 207), (.int 3 202)⟩, ⟨PyData.keyHash P (Str.ofString "C_BRACKET"), (.str (Str.ofString "C_BRACKET") 208), (.int 4 203)⟩, ⟨PyData.keyHash P (Str.ofString "ParseMap"), (.str (Str.ofString "ParseMap") 236), (.ref 42)⟩, ⟨PyData.keyHash P (Str.ofString "trans"), (.str (Str.ofString "trans") 498), (.ref 50)⟩] 17), #[]⟩
noncomputable def o32 (P : Params) : Obj := ⟨(.type "builtin_function_or_method"), none, (.fields #[(.builtin "dict.fromkeys"), (.ref 42)]), #[]⟩
noncomputable def o33 (P : Params) : Obj := ⟨(.type "range"), none, (.fields #[(.int 0 239), (.int 128 238), (.int 1 240)]), #[]⟩
noncomputable def o34 (P : Params) : Obj := ⟨(.type "dict"), none, (.dict #[] 0), #[]⟩
noncomputable def o35 (P : Params) : Obj := ⟨(.ref 42), (some 49), (.dict #[⟨0, (.int 0 242), (.int 120 241)⟩, ⟨1, (.int 1 244), (.int 120 241)⟩, ⟨2, (.int 2 246), (.int 120 241)⟩, ⟨3, (.int 3 248), (.int 120 241)⟩, ⟨4, (.int 4 250), (.int 120 241)⟩, ⟨5, (.int 5 252), (.int 120 241)⟩, ⟨6, (.int 6 254), (.int 120 241)⟩, ⟨7, (.int 7 256), (.int 120 241)⟩, ⟨8, (.int 8 258), (.int 120 241)⟩, ⟨9, (.int 9 260), (.int 120 241)⟩, ⟨10, (.int 10 262), (.int 120 241)⟩, ⟨11, (.int 11 264), (.int 120 241)⟩, ⟨12, (.int 12 266), (.int 120 241)⟩, ⟨13, (.int 13 268), (.int 120 241)⟩, ⟨14, (.int 14 270), (.int 120 241)⟩, ⟨15, (.int 15 272), (.int 120 241)⟩, ⟨16, (.int 16 274), (.int 120 241)⟩, ⟨17, (.int 17 276), (.int 120 241)⟩, ⟨18, (.int 18 278), (.int 120 241)⟩, ⟨19, (.int 19 280), (.int 120 241)⟩, ⟨20, (.int 20 282), (.int 120 241)⟩, ⟨21, (.int 21 284), (.int 120 241)⟩, ⟨22, (.int 22 286), (.int 120 241)⟩, ⟨23, (.int 23 288), (.int 120 241)⟩, ⟨24, (.int 24 290), (.int 120 241)⟩, ⟨25, (.int 25 292), (.int 120 241)⟩, ⟨26, (.int 26 294), (.int 120 241)⟩, ⟨27, (.int 27 296), (.int 120 241)⟩, ⟨28, (.int 28 298), (.int 120 241)⟩, ⟨29, (.int 29 300), (.int 120 241)⟩, ⟨30, (.int 30 302), (.int 120 241)⟩, ⟨31, (.int 31 304), (.int 120 241)⟩, ⟨32, (.int 32 306), (.int 120 241)⟩, ⟨33, (.int 33 308), (.int 120 241)⟩, ⟨34, (.int 34 310), (.int 120 241)⟩, ⟨35, (.int 35 312), (.int 120 241)⟩, ⟨36, (.int 36 314), (.int 120 241)⟩, ⟨37, (.int 37 316), (.int 120 241)⟩, ⟨38, (.int 38 318), (.int 120 241)⟩, ⟨39, (.int 39 320), (.int 120 241)⟩, ⟨40, (.int 40 322), (.int 120 241)⟩, ⟨41, (.int 41 324), (.int 120 241)⟩, ⟨42, (.int 42 326), (.int 120 241)⟩, ⟨43, (.int 43 328), (.int 120 241)⟩, ⟨44, (.int 44 330), (.int 120 241)⟩, ⟨45, (.int 45 332), (.int 120 241)⟩, ⟨46, (.int 46 334), (.int 120 241)⟩, ⟨47, (.int 47 336), (.int 120 241)⟩, ⟨48, (.int 48 338), (.int 120 241)⟩, ⟨49, (.int 49 340), (.int 120 241)⟩, ⟨50, (.int 50 342), (.int 120 241)⟩, ⟨51, (.int 51 344), (.int 120 241)⟩, ⟨52, (.int 52 346), (.int 120 241)⟩, ⟨53, (.int 53 348), (.int 120 241)⟩, ⟨54, (.int 54 350), (.int 120 241)⟩, ⟨55, (.int 55 352), (.int 120 241)⟩, ⟨56, (.int 56 354), (.int 120 241)⟩, ⟨57, (.int 57 356), (.int 120 241)⟩, ⟨58, (.int 58 358), (.int 120 241)⟩, ⟨59, (.int 59 360), (.int 120 241)⟩, ⟨60, (.int 60 362), (.int 120 241)⟩, ⟨61, (.int 61 364), (.int 120 241)⟩, ⟨62, (.int 62 366), (.int 120 241)⟩, ⟨63, (.int 63 368), (.int 120 241)⟩, ⟨64, (.int 64 370), (.int 120 241)⟩, ⟨65, (.int 65 372), (.int 120 241)⟩, ⟨66, (.int 66 374), (.int 120 241)⟩, ⟨67, (.int 67 376), (.int 120 241)⟩, ⟨68, (.int 68 378), (.int 120 241)⟩, ⟨69, (.int 69 380), (.int 120 241)⟩, ⟨70, (.int 70 382), (.int 120 241)⟩, ⟨71, (.int 71 384), (.int 120 241)⟩, ⟨72, (.int 72 386), (.int 120 241)⟩, ⟨73, (.int 73 388), (.int 120 241)⟩, ⟨74, (.int 74 390), (.int 120 241)⟩, ⟨75, (.int 75 392), (.int 120 241)⟩, ⟨76, (.int 76 394), (.int 120 241)⟩, ⟨77, (.int 77 396), (.int 120 241)⟩, ⟨78, (.int 78 398), (.int 120 241)⟩, ⟨79, (.int 79 400), (.int 120 241)⟩, ⟨80, (.int 80 402), (.int 120 241)⟩, ⟨81, (.int 81 404), (.int 120 241)⟩, ⟨82, (.int 82 406), (.int 120 241)⟩, ⟨83, (.int 83 408), (.int 120 241)⟩, ⟨84, (.int 84 410), (.int 120 241)⟩, ⟨85, (.int 85 412), (.int 120 241)⟩, ⟨86, (.int 86 414), (.int 120 241)⟩, ⟨87, (.int 87 416), (.int 120 241)⟩, ⟨88, (.int 88 418), (.int 120 241)⟩, ⟨89, (.int 89 420), (.int 120 241)⟩, ⟨90, (.int 90 422), (.int 120 241)⟩, ⟨91, (.int 91 424), (.int 120 241)⟩, ⟨92, (.int 92 426), (.int 120 241)⟩, ⟨93, (.int 93 428), (.int 120 241)⟩, ⟨94, (.int 94 430), (.int 120 241)⟩, ⟨95, (.int 95 432), (.int 120 241)⟩, ⟨96, (.int 96 434), (.int 120 241)⟩, ⟨97, (.int 97 436), (.int 120 241)⟩, ⟨98, (.int 98 438), (.int 120 241)⟩, ⟨99, (.int 99 440), (.int 120 241)⟩, ⟨100, (.int 100 442), (.int 120 241)⟩, ⟨101, (.int 101 444), (.int 120 241)⟩, ⟨102, (.int 102 446), (.int 120 241)⟩, ⟨103, (.int 103 448), (.int 120 241)⟩, ⟨104, (.int 104 450), (.int 120 241)⟩, ⟨105, (.int 105 452), (.int 120 241)⟩, ⟨106, (.int 106 454), (.int 120 241)⟩, ⟨107, (.int 107 456), (.int 120 241)⟩, ⟨108, (.int 108 458), (.int 120 241)⟩, ⟨109, (.int 109 460), (.int 120 241)⟩, ⟨110, (.int 110 462), (.int 120 241)⟩, ⟨111, (.int 111 464), (.int 120 241)⟩, ⟨112, (.int 112 466), (.int 120 241)⟩, ⟨113, (.int 113 468), (.int 120 241)⟩, ⟨114, (.int 114 470), (.int 120 241)⟩, ⟨115, (.int 115 472), (.int 120 241)⟩, ⟨116, (.int 116 474), (.int 120 241)⟩, ⟨117, (.int 117 476), (.int 120 241)⟩, ⟨118, (.int 118 478), (.int 120 241)⟩, ⟨119, (.int 119 480), (.int 120 241)⟩, ⟨120, (.int 120 482), (.int 120 241)⟩, ⟨121, (.int 121 484), (.int 120 241)⟩, ⟨122, (.int 122 486), (.int 120 241)⟩, ⟨123, (.int 123 488), (.int 120 241)⟩, ⟨124, (.int 124 490), (.int 120 241)⟩, ⟨125, (.int 125 492), (.int 120 241)⟩, ⟨126, (.int 126 494), (.int 120 241)⟩, ⟨127, (.int 127 496), (.int 120 241)⟩] 128), #[]⟩
noncomputable def o36 (P : Params) : Obj := ⟨(.type "range_iterator"), none, (.fields #[(.int 128 0), (.int 0 0), (.int 1 0)]), #[]⟩
noncomputable def o37 (P : Params) : Obj := ⟨(.type "StopIteration"), none, (.fields #[(.ref 52), .none, .none, .none, (.bool false), .none]), #[]⟩
noncomputable def tS3 (P : Params) : BT := (.node (boot_o_0 P) (.node (boot_o_1 P) (.node (o31 P) (.node (boot_o_7 P) (.node (o0 P) (.node (o19 P) .nil .nil) (.node (o32 P) .nil .nil)) (.node (o11 P) (.node (o24 P) .nil .nil) .nil)) (.node (o0 P) (.node (o7 P) (.node (o21 P) .nil .nil) (.node (o36 P) .nil .nil)) (.node (o16 P) (.node (o27 P) .nil .nil) .nil))) (.node (boot_o_5 P) (.node (boot_o_9 P) (.node (o6 P) (.node (o0 P) .nil .nil) (.node (o34 P) .nil .nil)) (.node (o12 P) (.node (o25 P) .nil .nil) .nil)) (.node (o2 P) (.node (o9 P) (.node (o22 P) .nil .nil) (.node (o37 P) .nil .nil)) (.node (o0 P) (.node (o29 P) .nil .nil) .nil)))) (.node (boot_o_2 P) (.node (boot_o_4 P) (.node (boot_o_8 P) (.node (o1 P) (.node (o20 P) .nil .nil) (.node (o33 P) .nil .nil)) (.node (o0 P) (.node (o0 P) .nil .nil) .nil)) (.node (o14 P) (.node (o8 P) (.node (o0 P) .nil .nil) (.node (o0 P) .nil .nil)) (.node (o17 P) (.node (o28 P) .nil .nil) .nil))) (.node (boot_o_6 P) (.node (boot_o_10 P) (.node (o0 P) (.node (o1 P) .nil .nil) (.node (o35 P) .nil .nil)) (.node (o15 P) (.node (o26 P) .nil .nil) .nil)) (.node (o3 P) (.node (o10 P) (.node (o23 P) .nil .nil) .nil) (.node (o18 P) (.node (o30 P) .nil .nil) .nil)))))
noncomputable def S3 (w : World) (os : OsState) : SharedT := ⟨tS3 w.params, 54, { }, Array.mk [], ⟨0, 0, 0, 0⟩, 499, os⟩
noncomputable def o38 (P : Params) : Obj := ⟨.none, none, (.fields #[(.int 1 0), (.int 0 0), (.ref 20), (.int 6 0), (.int 0 0), (.ref 31), (.int 11 0), (.int 13 0), (.ref 57)]), #[]⟩
noncomputable def o39 (P : Params) : Obj := ⟨(.ref 42), (some 49), (.dict #[⟨0, (.int 0 242), (.int 120 241)⟩, ⟨1, (.int 1 244), (.int 120 241)⟩, ⟨2, (.int 2 246), (.int 120 241)⟩, ⟨3, (.int 3 248), (.int 120 241)⟩, ⟨4, (.int 4 250), (.int 120 241)⟩, ⟨5, (.int 5 252), (.int 120 241)⟩, ⟨6, (.int 6 254), (.int 120 241)⟩, ⟨7, (.int 7 256), (.int 120 241)⟩, ⟨8, (.int 8 258), (.int 120 241)⟩, ⟨9, (.int 9 260), (.int 120 241)⟩, ⟨10, (.int 10 262), (.int 120 241)⟩, ⟨11, (.int 11 264), (.int 120 241)⟩, ⟨12, (.int 12 266), (.int 120 241)⟩, ⟨13, (.int 13 268), (.int 120 241)⟩, ⟨14, (.int 14 270), (.int 120 241)⟩, ⟨15, (.int 15 272), (.int 120 241)⟩, ⟨16, (.int 16 274), (.int 120 241)⟩, ⟨17, (.int 17 276), (.int 120 241)⟩, ⟨18, (.int 18 278), (.int 120 241)⟩, ⟨19, (.int 19 280), (.int 120 241)⟩, ⟨20, (.int 20 282), (.int 120 241)⟩, ⟨21, (.int 21 284), (.int 120 241)⟩, ⟨22, (.int 22 286), (.int 120 241)⟩, ⟨23, (.int 23 288), (.int 120 241)⟩, ⟨24, (.int 24 290), (.int 120 241)⟩, ⟨25, (.int 25 292), (.int 120 241)⟩, ⟨26, (.int 26 294), (.int 120 241)⟩, ⟨27, (.int 27 296), (.int 120 241)⟩, ⟨28, (.int 28 298), (.int 120 241)⟩, ⟨29, (.int 29 300), (.int 120 241)⟩, ⟨30, (.int 30 302), (.int 120 241)⟩, ⟨31, (.int 31 304), (.int 120 241)⟩, ⟨32, (.int 32 306), (.int 120 241)⟩, ⟨33, (.int 33 308), (.int 120 241)⟩, ⟨34, (.int 34 310), (.int 120 241)⟩, ⟨35, (.int 35 312), (.int 120 241)⟩, ⟨36, (.int 36 314), (.int 120 241)⟩, ⟨37, (.int 37 316), (.int 120 241)⟩, ⟨38, (.int 38 318), (.int 120 241)⟩, ⟨39, (.int 39 320), (.int 120 241)⟩, ⟨40, (.int 40 322), (.int 40 515)⟩, ⟨41, (.int 41 324), (.int 120 241)⟩, ⟨42, (.int 42 326), (.int 120 241)⟩, ⟨43, (.int 43 328), (.int 120 241)⟩, ⟨44, (.int 44 330), (.int 120 241)⟩, ⟨45, (.int 45 332), (.int 120 241)⟩, ⟨46, (.int 46 334), (.int 120 241)⟩, ⟨47, (.int 47 336), (.int 120 241)⟩, ⟨48, (.int 48 338), (.int 120 241)⟩, ⟨49, (.int 49 340), (.int 120 241)⟩, ⟨50, (.int 50 342), (.int 120 241)⟩, ⟨51, (.int 51 344), (.int 120 241)⟩, ⟨52, (.int 52 346), (.int 120 241)⟩, ⟨53, (.int 53 348), (.int 120 241)⟩, ⟨54, (.int 54 350), (.int 120 241)⟩, ⟨55, (.int 55 352), (.int 120 241)⟩, ⟨56, (.int 56 354), (.int 120 241)⟩, ⟨57, (.int 57 356), (.int 120 241)⟩, ⟨58, (.int 58 358), (.int 120 241)⟩, ⟨59, (.int 59 360), (.int 120 241)⟩, ⟨60, (.int 60 362), (.int 120 241)⟩, ⟨61, (.int 61 364), (.int 120 241)⟩, ⟨62, (.int 62 366), (.int 120 241)⟩, ⟨63, (.int 63 368), (.int 120 241)⟩, ⟨64, (.int 64 370), (.int 120 241)⟩, ⟨65, (.int 65 372), (.int 120 241)⟩, ⟨66, (.int 66 374), (.int 120 241)⟩, ⟨67, (.int 67 376), (.int 120 241)⟩, ⟨68, (.int 68 378), (.int 120 241)⟩, ⟨69, (.int 69 380), (.int 120 241)⟩, ⟨70, (.int 70 382), (.int 120 241)⟩, ⟨71, (.int 71 384), (.int 120 241)⟩, ⟨72, (.int 72 386), (.int 120 241)⟩, ⟨73, (.int 73 388), (.int 120 241)⟩, ⟨74, (.int 74 390), (.int 120 241)⟩, ⟨75, (.int 75 392), (.int 120 241)⟩, ⟨76, (.int 76 394), (.int 120 241)⟩, ⟨77, (.int 77 396), (.int 120 241)⟩, ⟨78, (.int 78 398), (.int 120 241)⟩, ⟨79, (.int 79 400), (.int 120 241)⟩, ⟨80, (.int 80 402), (.int 120 241)⟩, ⟨81, (.int 81 404), (.int 120 241)⟩, ⟨82, (.int 82 406), (.int 120 241)⟩, ⟨83, (.int 83 408), (.int 120 241)⟩, ⟨84, (.int 84 410), (.int 120 241)⟩, ⟨85, (.int 85 412), (.int 120 241)⟩, ⟨86, (.int 86 414), (.int 120 241)⟩, ⟨87, (.int 87 416), (.int 120 241)⟩, ⟨88, (.int 88 418), (.int 120 241)⟩, ⟨89, (.int 89 420), (.int 120 241)⟩, ⟨90, (.int 90 422), (.int 120 241)⟩, ⟨91, (.int 91 424), (.int 40 527)⟩, ⟨92, (.int 92 426), (.int 120 241)⟩, ⟨93, (.int 93 428), (.int 120 241)⟩, ⟨94, (.int 94 430), (.int 120 241)⟩, ⟨95, (.int 95 432), (.int 120 241)⟩, ⟨96, (.int 96 434), (.int 120 241)⟩, ⟨97, (.int 97 436), (.int 120 241)⟩, ⟨98, (.int 98 438), (.int 120 241)⟩, ⟨99, (.int 99 440), (.int 120 241)⟩, ⟨100, (.int 100 442), (.int 120 241)⟩, ⟨101, (.int 101 444), (.int 120 241)⟩, ⟨102, (.int 102 446), (.int 120 241)⟩, ⟨103, (.int 103 448), (.int 120 241)⟩, ⟨104, (.int 104 450), (.int 120 241)⟩, ⟨105, (.int 105 452), (.int 120 241)⟩, ⟨106, (.int 106 454), (.int 120 241)⟩, ⟨107, (.int 107 456), (.int 120 241)⟩, ⟨108, (.int 108 458), (.int 120 241)⟩, ⟨109, (.int 109 460), (.int 120 241)⟩, ⟨110, (.int 110 462), (.int 120 241)⟩, ⟨111, (.int 111 464), (.int 120 241)⟩, ⟨112, (.int 112 466), (.int 120 241)⟩, ⟨113, (.int 113 468), (.int 120 241)⟩, ⟨114, (.int 114 470), (.int 120 241)⟩, ⟨115, (.int 115 472), (.int 120 241)⟩, ⟨116, (.int 116 474), (.int 120 241)⟩, ⟨117, (.int 117 476), (.int 120 241)⟩, ⟨118, (.int 118 478), (.int 120 241)⟩, ⟨119, (.int 119 480), (.int 120 241)⟩, ⟨120, (.int 120 482), (.int 120 241)⟩, ⟨121, (.int 121 484), (.int 120 241)⟩, ⟨122, (.int 122 486), (.int 120 241)⟩, ⟨123, (.int 123 488), (.int 40 521)⟩, ⟨124, (.int 124 490), (.int 120 241)⟩, ⟨125, (.int 125 492), (.int 120 241)⟩, ⟨126, (.int 126 494), (.int 120 241)⟩, ⟨127, (.int 127 496), (.int 120 241)⟩] 128), #[]⟩
noncomputable def o40 (P : Params) : Obj := ⟨(.type "str_ascii_iterator"), none, (.fields #[.none, (.int 3 0)]), #[]⟩
noncomputable def o41 (P : Params) : Obj := ⟨(.type "code"), none, (.fields #[(.str (Str.ofString "<genexpr>") 500), (.str (Str.ofString "<genexpr>") 501), (.str (Str.ofString "/claim/cut.py") 502), (.int 11 0), (.int 1 0), (.int 0 0), (.int 0 0), (.int 35 0), (.ref 55), (.bool true), (.int 181 0), (.ref 56), .none, .none, .none, .none, (.int 503 0), (.int 11 0), (.str (Str.ofString "/claim/cut.py") 504)]), #[]⟩
noncomputable def o42 (P : Params) : Obj := ⟨(.type "frame"), none, (.dict #[⟨PyData.keyHash P (Str.ofString ".0"), (.str (Str.ofString ".0") 505), (.ref 54)⟩, ⟨PyData.keyHash P (Str.ofString "c"), (.str (Str.ofString "c") 512), (.str (Str.ofString "[") 523)⟩] 2), #[]⟩
noncomputable def o43 (P : Params) : Obj := ⟨(.type "generator"), none, (.fields #[(.int 0 0), (.str (Str.ofString "<genexpr>") 506), (.str (Str.ofString "<genexpr>") 507)]), #[]⟩
noncomputable def o44 (P : Params) : Obj := ⟨(.type "tuple"), none, (.seq #[(.str (Str.ofString "'generator' object has no attribute 'keys'") 509)] 0), #[]⟩
noncomputable def o45 (P : Params) : Obj := ⟨(.type "AttributeError"), none, (.fields #[(.ref 60), .none, .none, .none, (.bool false), .none, (.str (Str.ofString "keys") 510), (.ref 59)]), #[]⟩
noncomputable def o46 (P : Params) : Obj := ⟨(.type "tuple"), none, (.seq #[(.int 40 513), (.int 40 515)] 0), #[]⟩
noncomputable def o47 (P : Params) : Obj := ⟨(.type "tuple"), none, (.seq #[(.int 123 519), (.int 40 521)] 0), #[]⟩
noncomputable def o48 (P : Params) : Obj := ⟨(.type "tuple"), none, (.seq #[(.int 91 525), (.int 40 527)] 0), #[]⟩
noncomputable def o49 (P : Params) : Obj := ⟨(.type "StopIteration"), none, (.fields #[(.ref 65), .none, .none, .none, (.bool false), .none]), #[]⟩
noncomputable def o50 (P : Params) : Obj := ⟨(.type "StopIteration"), none, (.fields #[(.ref 67), .none, .none, .none, (.bool false), .none]), #[]⟩
noncomputable def tS4 (P : Params) : BT := (.node (boot_o_0 P) (.node (boot_o_1 P) (.node (o31 P) (.node (boot_o_7 P) (.node (o0 P) (.node (o19 P) (.node (o47 P) .nil .nil) .nil) (.node (o32 P) .nil .nil)) (.node (o11 P) (.node (o24 P) .nil .nil) (.node (o0 P) .nil .nil))) (.node (o0 P) (.node (o7 P) (.node (o21 P) (.node (o0 P) .nil .nil) .nil) (.node (o36 P) .nil .nil)) (.node (o16 P) (.node (o27 P) .nil .nil) (.node (o43 P) .nil .nil)))) (.node (boot_o_5 P) (.node (boot_o_9 P) (.node (o6 P) (.node (o0 P) (.node (o0 P) .nil .nil) .nil) (.node (o34 P) .nil .nil)) (.node (o12 P) (.node (o25 P) .nil .nil) (.node (o41 P) .nil .nil))) (.node (o2 P) (.node (o9 P) (.node (o22 P) .nil .nil) (.node (o37 P) .nil .nil)) (.node (o0 P) (.node (o29 P) .nil .nil) (.node (o45 P) .nil .nil))))) (.node (boot_o_2 P) (.node (boot_o_4 P) (.node (boot_o_8 P) (.node (o1 P) (.node (o20 P) (.node (o48 P) .nil .nil) .nil) (.node (o33 P) .nil .nil)) (.node (o0 P) (.node (o0 P) .nil .nil) (.node (o1 P) .nil .nil))) (.node (o38 P) (.node (o8 P) (.node (o0 P) (.node (o50 P) .nil .nil) .nil) (.node (o0 P) .nil .nil)) (.node (o17 P) (.node (o28 P) .nil .nil) (.node (o44 P) .nil .nil)))) (.node (boot_o_6 P) (.node (boot_o_10 P) (.node (o0 P) (.node (o1 P) (.node (o49 P) .nil .nil) .nil) (.node (o39 P) .nil .nil)) (.node (o15 P) (.node (o26 P) .nil .nil) (.node (o42 P) .nil .nil))) (.node (o3 P) (.node (o10 P) (.node (o23 P) .nil .nil) (.node (o40 P) .nil .nil)) (.node (o18 P) (.node (o30 P) .nil .nil) (.node (o46 P) .nil .nil))))))
noncomputable def S4 (w : World) (os : OsState) : SharedT := ⟨tS4 w.params, 69, { }, Array.mk [.finished], ⟨0, 0, 0, 0⟩, 529, os⟩
noncomputable def o51 (P : Params) : Obj := ⟨.none, none, (.fields #[(.int 1 0), (.int 0 0), (.ref 20), (.int 6 0), (.int 0 0), (.ref 31), (.int 11 0), (.int 13 0), (.ref 57), (.int 12 0), (.int 13 0), (.ref 72)]), #[]⟩
noncomputable def o52 (P : Params) : Obj := ⟨(.ref 42), (some 49), (.dict #[⟨0, (.int 0 242), (.int 120 241)⟩, ⟨1, (.int 1 244), (.int 120 241)⟩, ⟨2, (.int 2 246), (.int 120 241)⟩, ⟨3, (.int 3 248), (.int 120 241)⟩, ⟨4, (.int 4 250), (.int 120 241)⟩, ⟨5, (.int 5 252), (.int 120 241)⟩, ⟨6, (.int 6 254), (.int 120 241)⟩, ⟨7, (.int 7 256), (.int 120 241)⟩, ⟨8, (.int 8 258), (.int 120 241)⟩, ⟨9, (.int 9 260), (.int 120 241)⟩, ⟨10, (.int 10 262), (.int 120 241)⟩, ⟨11, (.int 11 264), (.int 120 241)⟩, ⟨12, (.int 12 266), (.int 120 241)⟩, ⟨13, (.int 13 268), (.int 120 241)⟩, ⟨14, (.int 14 270), (.int 120 241)⟩, ⟨15, (.int 15 272), (.int 120 241)⟩, ⟨16, (.int 16 274), (.int 120 241)⟩, ⟨17, (.int 17 276), (.int 120 241)⟩, ⟨18, (.int 18 278), (.int 120 241)⟩, ⟨19, (.int 19 280), (.int 120 241)⟩, ⟨20, (.int 20 282), (.int 120 241)⟩, ⟨21, (.int 21 284), (.int 120 241)⟩, ⟨22, (.int 22 286), (.int 120 241)⟩, ⟨23, (.int 23 288), (.int 120 241)⟩, ⟨24, (.int 24 290), (.int 120 241)⟩, ⟨25, (.int 25 292), (.int 120 241)⟩, ⟨26, (.int 26 294), (.int 120 241)⟩, ⟨27, (.int 27 296), (.int 120 241)⟩, ⟨28, (.int 28 298), (.int 120 241)⟩, ⟨29, (.int 29 300), (.int 120 241)⟩, ⟨30, (.int 30 302), (.int 120 241)⟩, ⟨31, (.int 31 304), (.int 120 241)⟩, ⟨32, (.int 32 306), (.int 120 241)⟩, ⟨33, (.int 33 308), (.int 120 241)⟩, ⟨34, (.int 34 310), (.int 120 241)⟩, ⟨35, (.int 35 312), (.int 120 241)⟩, ⟨36, (.int 36 314), (.int 120 241)⟩, ⟨37, (.int 37 316), (.int 120 241)⟩, ⟨38, (.int 38 318), (.int 120 241)⟩, ⟨39, (.int 39 320), (.int 120 241)⟩, ⟨40, (.int 40 322), (.int 40 515)⟩, ⟨41, (.int 41 324), (.int 41 545)⟩, ⟨42, (.int 42 326), (.int 120 241)⟩, ⟨43, (.int 43 328), (.int 120 241)⟩, ⟨44, (.int 44 330), (.int 120 241)⟩, ⟨45, (.int 45 332), (.int 120 241)⟩, ⟨46, (.int 46 334), (.int 120 241)⟩, ⟨47, (.int 47 336), (.int 120 241)⟩, ⟨48, (.int 48 338), (.int 120 241)⟩, ⟨49, (.int 49 340), (.int 120 241)⟩, ⟨50, (.int 50 342), (.int 120 241)⟩, ⟨51, (.int 51 344), (.int 120 241)⟩, ⟨52, (.int 52 346), (.int 120 241)⟩, ⟨53, (.int 53 348), (.int 120 241)⟩, ⟨54, (.int 54 350), (.int 120 241)⟩, ⟨55, (.int 55 352), (.int 120 241)⟩, ⟨56, (.int 56 354), (.int 120 241)⟩, ⟨57, (.int 57 356), (.int 120 241)⟩, ⟨58, (.int 58 358), (.int 120 241)⟩, ⟨59, (.int 59 360), (.int 120 241)⟩, ⟨60, (.int 60 362), (.int 120 241)⟩, ⟨61, (.int 61 364), (.int 120 241)⟩, ⟨62, (.int 62 366), (.int 120 241)⟩, ⟨63, (.int 63 368), (.int 120 241)⟩, ⟨64, (.int 64 370), (.int 120 241)⟩, ⟨65, (.int 65 372), (.int 120 241)⟩, ⟨66, (.int 66 374), (.int 120 241)⟩, ⟨67, (.int 67 376), (.int 120 241)⟩, ⟨68, (.int 68 378), (.int 120 241)⟩, ⟨69, (.int 69 380), (.int 120 241)⟩, ⟨70, (.int 70 382), (.int 120 241)⟩, ⟨71, (.int 71 384), (.int 120 241)⟩, ⟨72, (.int 72 386), (.int 120 241)⟩, ⟨73, (.int 73 388), (.int 120 241)⟩, ⟨74, (.int 74 390), (.int 120 241)⟩, ⟨75, (.int 75 392), (.int 120 241)⟩, ⟨76, (.int 76 394), (.int 120 241)⟩, ⟨77, (.int 77 396), (.int 120 241)⟩, ⟨78, (.int 78 398), (.int 120 241)⟩, ⟨79, (.int 79 400), (.int 120 241)⟩, ⟨80, (.int 80 402), (.int 120 241)⟩, ⟨81, (.int 81 404), (.int 120 241)⟩, ⟨82, (.int 82 406), (.int 120 241)⟩, ⟨83, (.int 83 408), (.int 120 241)⟩, ⟨84, (.int 84 410), (.int 120 241)⟩, ⟨85, (.int 85 412), (.int 120 241)⟩, ⟨86, (.int 86 414), (.int 120 241)⟩, ⟨87, (.int 87 416), (.int 120 241)⟩, ⟨88, (.int 88 418), (.int 120 241)⟩, ⟨89, (.int 89 420), (.int 120 241)⟩, ⟨90, (.int 90 422), (.int 120 241)⟩, ⟨91, (.int 91 424), (.int 40 527)⟩, ⟨92, (.int 92 426), (.int 120 241)⟩, ⟨93, (.int 93 428), (.int 41 557)⟩, ⟨94, (.int 94 430), (.int 120 241)⟩, ⟨95, (.int 95 432), (.int 120 241)⟩, ⟨96, (.int 96 434), (.int 120 241)⟩, ⟨97, (.int 97 436), (.int 120 241)⟩, ⟨98, (.int 98 438), (.int 120 241)⟩, ⟨99, (.int 99 440), (.int 120 241)⟩, ⟨100, (.int 100 442), (.int 120 241)⟩, ⟨101, (.int 101 444), (.int 120 241)⟩, ⟨102, (.int 102 446), (.int 120 241)⟩, ⟨103, (.int 103 448), (.int 120 241)⟩, ⟨104, (.int 104 450), (.int 120 241)⟩, ⟨105, (.int 105 452), (.int 120 241)⟩, ⟨106, (.int 106 454), (.int 120 241)⟩, ⟨107, (.int 107 456), (.int 120 241)⟩, ⟨108, (.int 108 458), (.int 120 241)⟩, ⟨109, (.int 109 460), (.int 120 241)⟩, ⟨110, (.int 110 462), (.int 120 241)⟩, ⟨111, (.int 111 464), (.int 120 241)⟩, ⟨112, (.int 112 466), (.int 120 241)⟩, ⟨113, (.int 113 468), (.int 120 241)⟩, ⟨114, (.int 114 470), (.int 120 241)⟩, ⟨115, (.int 115 472), (.int 120 241)⟩, ⟨116, (.int 116 474), (.int 120 241)⟩, ⟨117, (.int 117 476), (.int 120 241)⟩, ⟨118, (.int 118 478), (.int 120 241)⟩, ⟨119, (.int 119 480), (.int 120 241)⟩, ⟨120, (.int 120 482), (.int 120 241)⟩, ⟨121, (.int 121 484), (.int 120 241)⟩, ⟨122, (.int 122 486), (.int 120 241)⟩, ⟨123, (.int 123 488), (.int 40 521)⟩, ⟨124, (.int 124 490), (.int 120 241)⟩, ⟨125, (.int 125 492), (.int 41 551)⟩, ⟨126, (.int 126 494), (.int 120 241)⟩, ⟨127, (.int 127 496), (.int 120 241)⟩] 128), #[]⟩
noncomputable def o53 (P : Params) : Obj := ⟨(.type "code"), none, (.fields #[(.str (Str.ofString "<genexpr>") 530), (.str (Str.ofString "<genexpr>") 531), (.str (Str.ofString "/claim/cut.py") 532), (.int 12 0), (.int 1 0), (.int 0 0), (.int 0 0), (.int 35 0), (.ref 70), (.bool true), (.int 181 0), (.ref 71), .none, .none, .none, .none, (.int 533 0), (.int 12 0), (.str (Str.ofString "/claim/cut.py") 534)]), #[]⟩
noncomputable def o54 (P : Params) : Obj := ⟨(.type "frame"), none, (.dict #[⟨PyData.keyHash P (Str.ofString ".0"), (.str (Str.ofString ".0") 535), (.ref 69)⟩, ⟨PyData.keyHash P (Str.ofString "c"), (.str (Str.ofString "c") 542), (.str (Str.ofString "]") 553)⟩] 2), #[]⟩
noncomputable def o55 (P : Params) : Obj := ⟨(.type "generator"), none, (.fields #[(.int 1 0), (.str (Str.ofString "<genexpr>") 536), (.str (Str.ofString "<genexpr>") 537)]), #[]⟩
noncomputable def o56 (P : Params) : Obj := ⟨(.type "tuple"), none, (.seq #[(.str (Str.ofString "'generator' object has no attribute 'keys'") 539)] 0), #[]⟩
noncomputable def o57 (P : Params) : Obj := ⟨(.type "AttributeError"), none, (.fields #[(.ref 75), .none, .none, .none, (.bool false), .none, (.str (Str.ofString "keys") 540), (.ref 74)]), #[]⟩
noncomputable def o58 (P : Params) : Obj := ⟨(.type "tuple"), none, (.seq #[(.int 41 543), (.int 41 545)] 0), #[]⟩
noncomputable def o59 (P : Params) : Obj := ⟨(.type "tuple"), none, (.seq #[(.int 125 549), (.int 41 551)] 0), #[]⟩
noncomputable def o60 (P : Params) : Obj := ⟨(.type "tuple"), none, (.seq #[(.int 93 555), (.int 41 557)] 0), #[]⟩
noncomputable def o61 (P : Params) : Obj := ⟨(.type "StopIteration"), none, (.fields #[(.ref 80), .none, .none, .none, (.bool false), .none]), #[]⟩
noncomputable def o62 (P : Params) : Obj := ⟨(.type "StopIteration"), none, (.fields #[(.ref 82), .none, .none, .none, (.bool false), .none]), #[]⟩
noncomputable def tS5 (P : Params) : BT := (.node (boot_o_0 P) (.node (boot_o_1 P) (.node (o31 P) (.node (boot_o_7 P) (.node (o0 P) (.node (o19 P) (.node (o47 P) .nil .nil) .nil) (.node (o32 P) (.node (o60 P) .nil .nil) .nil)) (.node (o11 P) (.node (o24 P) (.node (o1 P) .nil .nil) .nil) (.node (o0 P) .nil .nil))) (.node (o0 P) (.node (o7 P) (.node (o21 P) (.node (o0 P) .nil .nil) .nil) (.node (o36 P) (.node (o62 P) .nil .nil) .nil)) (.node (o16 P) (.node (o27 P) (.node (o56 P) .nil .nil) .nil) (.node (o43 P) .nil .nil)))) (.node (boot_o_5 P) (.node (boot_o_9 P) (.node (o6 P) (.node (o0 P) (.node (o0 P) .nil .nil) .nil) (.node (o34 P) (.node (o61 P) .nil .nil) .nil)) (.node (o12 P) (.node (o25 P) (.node (o54 P) .nil .nil) .nil) (.node (o41 P) .nil .nil))) (.node (o2 P) (.node (o9 P) (.node (o22 P) (.node (o40 P) .nil .nil) .nil) (.node (o37 P) .nil .nil)) (.node (o0 P) (.node (o29 P) (.node (o58 P) .nil .nil) .nil) (.node (o45 P) .nil .nil))))) (.node (boot_o_2 P) (.node (boot_o_4 P) (.node (boot_o_8 P) (.node (o1 P) (.node (o20 P) (.node (o48 P) .nil .nil) .nil) (.node (o33 P) (.node (o0 P) .nil .nil) .nil)) (.node (o0 P) (.node (o0 P) (.node (o53 P) .nil .nil) .nil) (.node (o1 P) .nil .nil))) (.node (o51 P) (.node (o8 P) (.node (o0 P) (.node (o50 P) .nil .nil) .nil) (.node (o0 P) .nil .nil)) (.node (o17 P) (.node (o28 P) (.node (o57 P) .nil .nil) .nil) (.node (o44 P) .nil .nil)))) (.node (boot_o_6 P) (.node (boot_o_10 P) (.node (o0 P) (.node (o1 P) (.node (o49 P) .nil .nil) .nil) (.node (o52 P) (.node (o0 P) .nil .nil) .nil)) (.node (o15 P) (.node (o26 P) (.node (o55 P) .nil .nil) .nil) (.node (o42 P) .nil .nil))) (.node (o3 P) (.node (o10 P) (.node (o23 P) (.node (o0 P) .nil .nil) .nil) (.node (o40 P) .nil .nil)) (.node (o18 P) (.node (o30 P) (.node (o59 P) .nil .nil) .nil) (.node (o46 P) .nil .nil))))))
noncomputable def S5 (w : World) (os : OsState) : SharedT := ⟨tS5 w.params, 84, { }, Array.mk [.finished, .finished], ⟨0, 0, 0, 0⟩, 559, os⟩
noncomputable def o63 (P : Params) : Obj := ⟨.none, none, (.fields #[(.int 1 0), (.int 0 0), (.ref 20), (.int 6 0), (.int 0 0), (.ref 31), (.int 11 0), (.int 13 0), (.ref 57), (.int 12 0), (.int 13 0), (.ref 72), (.int 13 0), (.int 13 0), (.ref 87)]), #[]⟩
noncomputable def o64 (P : Params) : Obj := ⟨(.ref 42), (some 49), (.dict #[⟨0, (.int 0 242), (.int 120 241)⟩, ⟨1, (.int 1 244), (.int 120 241)⟩, ⟨2, (.int 2 246), (.int 120 241)⟩, ⟨3, (.int 3 248), (.int 120 241)⟩, ⟨4, (.int 4 250), (.int 120 241)⟩, ⟨5, (.int 5 252), (.int 120 241)⟩, ⟨6, (.int 6 254), (.int 120 241)⟩, ⟨7, (.int 7 256), (.int 120 241)⟩, ⟨8, (.int 8 258), (.int 120 241)⟩, ⟨9, (.int 9 260), (.int 120 241)⟩, ⟨10, (.int 10 262), (.int 10 589)⟩, ⟨11, (.int 11 264), (.int 120 241)⟩, ⟨12, (.int 12 266), (.int 120 241)⟩, ⟨13, (.int 13 268), (.int 120 241)⟩, ⟨14, (.int 14 270), (.int 120 241)⟩, ⟨15, (.int 15 272), (.int 120 241)⟩, ⟨16, (.int 16 274), (.int 120 241)⟩, ⟨17, (.int 17 276), (.int 120 241)⟩, ⟨18, (.int 18 278), (.int 120 241)⟩, ⟨19, (.int 19 280), (.int 120 241)⟩, ⟨20, (.int 20 282), (.int 120 241)⟩, ⟨21, (.int 21 284), (.int 120 241)⟩, ⟨22, (.int 22 286), (.int 120 241)⟩, ⟨23, (.int 23 288), (.int 120 241)⟩, ⟨24, (.int 24 290), (.int 120 241)⟩, ⟨25, (.int 25 292), (.int 120 241)⟩, ⟨26, (.int 26 294), (.int 120 241)⟩, ⟨27, (.int 27 296), (.int 120 241)⟩, ⟨28, (.int 28 298), (.int 120 241)⟩, ⟨29, (.int 29 300), (.int 120 241)⟩, ⟨30, (.int 30 302), (.int 120 241)⟩, ⟨31, (.int 31 304), (.int 120 241)⟩, ⟨32, (.int 32 306), (.int 120 241)⟩, ⟨33, (.int 33 308), (.int 120 241)⟩, ⟨34, (.int 34 310), (.int 34 574)⟩, ⟨35, (.int 35 312), (.int 35 594)⟩, ⟨36, (.int 36 314), (.int 120 241)⟩, ⟨37, (.int 37 316), (.int 120 241)⟩, ⟨38, (.int 38 318), (.int 120 241)⟩, ⟨39, (.int 39 320), (.int 39 579)⟩, ⟨40, (.int 40 322), (.int 40 515)⟩, ⟨41, (.int 41 324), (.int 41 545)⟩, ⟨42, (.int 42 326), (.int 120 241)⟩, ⟨43, (.int 43 328), (.int 120 241)⟩, ⟨44, (.int 44 330), (.int 120 241)⟩, ⟨45, (.int 45 332), (.int 120 241)⟩, ⟨46, (.int 46 334), (.int 120 241)⟩, ⟨47, (.int 47 336), (.int 120 241)⟩, ⟨48, (.int 48 338), (.int 120 241)⟩, ⟨49, (.int 49 340), (.int 120 241)⟩, ⟨50, (.int 50 342), (.int 120 241)⟩, ⟨51, (.int 51 344), (.int 120 241)⟩, ⟨52, (.int 52 346), (.int 120 241)⟩, ⟨53, (.int 53 348), (.int 120 241)⟩, ⟨54, (.int 54 350), (.int 120 241)⟩, ⟨55, (.int 55 352), (.int 120 241)⟩, ⟨56, (.int 56 354), (.int 120 241)⟩, ⟨57, (.int 57 356), (.int 120 241)⟩, ⟨58, (.int 58 358), (.int 120 241)⟩, ⟨59, (.int 59 360), (.int 120 241)⟩, ⟨60, (.int 60 362), (.int 120 241)⟩, ⟨61, (.int 61 364), (.int 120 241)⟩, ⟨62, (.int 62 366), (.int 120 241)⟩, ⟨63, (.int 63 368), (.int 120 241)⟩, ⟨64, (.int 64 370), (.int 120 241)⟩, ⟨65, (.int 65 372), (.int 120 241)⟩, ⟨66, (.int 66 374), (.int 120 241)⟩, ⟨67, (.int 67 376), (.int 120 241)⟩, ⟨68, (.int 68 378), (.int 120 241)⟩, ⟨69, (.int 69 380), (.int 120 241)⟩, ⟨70, (.int 70 382), (.int 120 241)⟩, ⟨71, (.int 71 384), (.int 120 241)⟩, ⟨72, (.int 72 386), (.int 120 241)⟩, ⟨73, (.int 73 388), (.int 120 241)⟩, ⟨74, (.int 74 390), (.int 120 241)⟩, ⟨75, (.int 75 392), (.int 120 241)⟩, ⟨76, (.int 76 394), (.int 120 241)⟩, ⟨77, (.int 77 396), (.int 120 241)⟩, ⟨78, (.int 78 398), (.int 120 241)⟩, ⟨79, (.int 79 400), (.int 120 241)⟩, ⟨80, (.int 80 402), (.int 120 241)⟩, ⟨81, (.int 81 404), (.int 120 241)⟩, ⟨82, (.int 82 406), (.int 120 241)⟩, ⟨83, (.int 83 408), (.int 120 241)⟩, ⟨84, (.int 84 410), (.int 120 241)⟩, ⟨85, (.int 85 412), (.int 120 241)⟩, ⟨86, (.int 86 414), (.int 120 241)⟩, ⟨87, (.int 87 416), (.int 120 241)⟩, ⟨88, (.int 88 418), (.int 120 241)⟩, ⟨89, (.int 89 420), (.int 120 241)⟩, ⟨90, (.int 90 422), (.int 120 241)⟩, ⟨91, (.int 91 424), (.int 40 527)⟩, ⟨92, (.int 92 426), (.int 92 584)⟩, ⟨93, (.int 93 428), (.int 41 557)⟩, ⟨94, (.int 94 430), (.int 120 241)⟩, ⟨95, (.int 95 432), (.int 120 241)⟩, ⟨96, (.int 96 434), (.int 120 241)⟩, ⟨97, (.int 97 436), (.int 120 241)⟩, ⟨98, (.int 98 438), (.int 120 241)⟩, ⟨99, (.int 99 440), (.int 120 241)⟩, ⟨100, (.int 100 442), (.int 120 241)⟩, ⟨101, (.int 101 444), (.int 120 241)⟩, ⟨102, (.int 102 446), (.int 120 241)⟩, ⟨103, (.int 103 448), (.int 120 241)⟩, ⟨104, (.int 104 450), (.int 120 241)⟩, ⟨105, (.int 105 452), (.int 120 241)⟩, ⟨106, (.int 106 454), (.int 120 241)⟩, ⟨107, (.int 107 456), (.int 120 241)⟩, ⟨108, (.int 108 458), (.int 120 241)⟩, ⟨109, (.int 109 460), (.int 120 241)⟩, ⟨110, (.int 110 462), (.int 120 241)⟩, ⟨111, (.int 111 464), (.int 120 241)⟩, ⟨112, (.int 112 466), (.int 120 241)⟩, ⟨113, (.int 113 468), (.int 120 241)⟩, ⟨114, (.int 114 470), (.int 120 241)⟩, ⟨115, (.int 115 472), (.int 120 241)⟩, ⟨116, (.int 116 474), (.int 120 241)⟩, ⟨117, (.int 117 476), (.int 120 241)⟩, ⟨118, (.int 118 478), (.int 120 241)⟩, ⟨119, (.int 119 480), (.int 120 241)⟩, ⟨120, (.int 120 482), (.int 120 241)⟩, ⟨121, (.int 121 484), (.int 120 241)⟩, ⟨122, (.int 122 486), (.int 120 241)⟩, ⟨123, (.int 123 488), (.int 40 521)⟩, ⟨124, (.int 124 490), (.int 120 241)⟩, ⟨125, (.int 125 492), (.int 41 551)⟩, ⟨126, (.int 126 494), (.int 120 241)⟩, ⟨127, (.int 127 496), (.int 120 241)⟩] 128), #[]⟩
noncomputable def o65 (P : Params) : Obj := ⟨(.type "str_ascii_iterator"), none, (.fields #[.none, (.int 5 0)]), #[]⟩
noncomputable def o66 (P : Params) : Obj := ⟨(.type "code"), none, (.fields #[(.str (Str.ofString "<genexpr>") 560), (.str (Str.ofString "<genexpr>") 561), (.str (Str.ofString "/claim/cut.py") 562), (.int 13 0), (.int 1 0), (.int 0 0), (.int 0 0), (.int 35 0), (.ref 85), (.bool true), (.int 181 0), (.ref 86), .none, .none, .none, .none, (.int 563 0), (.int 13 0), (.str (Str.ofString "/claim/cut.py") 564)]), #[]⟩
noncomputable def o67 (P : Params) : Obj := ⟨(.type "frame"), none, (.dict #[⟨PyData.keyHash P (Str.ofString ".0"), (.str (Str.ofString ".0") 565), (.ref 84)⟩, ⟨PyData.keyHash P (Str.ofString "c"), (.str (Str.ofString "c") 572), (.str (Str.ofString "#") 591)⟩] 2), #[]⟩
noncomputable def o68 (P : Params) : Obj := ⟨(.type "generator"), none, (.fields #[(.int 2 0), (.str (Str.ofString "<genexpr>") 566), (.str (Str.ofString "<genexpr>") 567)]), #[]⟩
noncomputable def o69 (P : Params) : Obj := ⟨(.type "tuple"), none, (.seq #[(.str (Str.ofString "'generator' object has no attribute 'keys'") 569)] 0), #[]⟩
noncomputable def o70 (P : Params) : Obj := ⟨(.type "AttributeError"), none, (.fields #[(.ref 90), .none, .none, .none, (.bool false), .none, (.str (Str.ofString "keys") 570), (.ref 89)]), #[]⟩
noncomputable def o71 (P : Params) : Obj := ⟨(.type "tuple"), none, (.seq #[(.int 34 573), (.int 34 574)] 0), #[]⟩
noncomputable def o72 (P : Params) : Obj := ⟨(.type "tuple"), none, (.seq #[(.int 39 578), (.int 39 579)] 0), #[]⟩
noncomputable def o73 (P : Params) : Obj := ⟨(.type "tuple"), none, (.seq #[(.int 92 583), (.int 92 584)] 0), #[]⟩
noncomputable def o74 (P : Params) : Obj := ⟨(.type "tuple"), none, (.seq #[(.int 10 588), (.int 10 589)] 0), #[]⟩
noncomputable def o75 (P : Params) : Obj := ⟨(.type "tuple"), none, (.seq #[(.int 35 593), (.int 35 594)] 0), #[]⟩
noncomputable def o76 (P : Params) : Obj := ⟨(.type "StopIteration"), none, (.fields #[(.ref 97), .none, .none, .none, (.bool false), .none]), #[]⟩
noncomputable def o77 (P : Params) : Obj := ⟨(.type "StopIteration"), none, (.fields #[(.ref 99), .none, .none, .none, (.bool false), .none]), #[]⟩
noncomputable def tS6 (P : Params) : BT := (.node (boot_o_0 P) (.node (boot_o_1 P) (.node (o31 P) (.node (boot_o_7 P) (.node (o0 P) (.node (o19 P) (.node (o47 P) .nil .nil) (.node (o74 P) .nil .nil)) (.node (o32 P) (.node (o60 P) .nil .nil) .nil)) (.node (o11 P) (.node (o24 P) (.node (o1 P) .nil .nil) .nil) (.node (o0 P) (.node (o66 P) .nil .nil) .nil))) (.node (o0 P) (.node (o7 P) (.node (o21 P) (.node (o0 P) .nil .nil) (.node (o0 P) .nil .nil)) (.node (o36 P) (.node (o62 P) .nil .nil) .nil)) (.node (o16 P) (.node (o27 P) (.node (o56 P) .nil .nil) .nil) (.node (o43 P) (.node (o70 P) .nil .nil) .nil)))) (.node (boot_o_5 P) (.node (boot_o_9 P) (.node (o6 P) (.node (o0 P) (.node (o0 P) .nil .nil) (.node (o0 P) .nil .nil)) (.node (o34 P) (.node (o61 P) .nil .nil) .nil)) (.node (o12 P) (.node (o25 P) (.node (o54 P) .nil .nil) .nil) (.node (o41 P) (.node (o68 P) .nil .nil) .nil))) (.node (o2 P) (.node (o9 P) (.node (o22 P) (.node (o40 P) .nil .nil) .nil) (.node (o37 P) (.node (o0 P) .nil .nil) .nil)) (.node (o0 P) (.node (o29 P) (.node (o58 P) .nil .nil) .nil) (.node (o45 P) (.node (o72 P) .nil .nil) .nil))))) (.node (boot_o_2 P) (.node (boot_o_4 P) (.node (boot_o_8 P) (.node (o1 P) (.node (o20 P) (.node (o48 P) .nil .nil) (.node (o75 P) .nil .nil)) (.node (o33 P) (.node (o0 P) .nil .nil) .nil)) (.node (o0 P) (.node (o0 P) (.node (o53 P) .nil .nil) .nil) (.node (o1 P) (.node (o67 P) .nil .nil) .nil))) (.node (o63 P) (.node (o8 P) (.node (o0 P) (.node (o50 P) .nil .nil) (.node (o77 P) .nil .nil)) (.node (o0 P) (.node (o65 P) .nil .nil) .nil)) (.node (o17 P) (.node (o28 P) (.node (o57 P) .nil .nil) .nil) (.node (o44 P) (.node (o71 P) .nil .nil) .nil)))) (.node (boot_o_6 P) (.node (boot_o_10 P) (.node (o0 P) (.node (o1 P) (.node (o49 P) .nil .nil) (.node (o76 P) .nil .nil)) (.node (o64 P) (.node (o0 P) .nil .nil) .nil)) (.node (o15 P) (.node (o26 P) (.node (o55 P) .nil .nil) .nil) (.node (o42 P) (.node (o69 P) .nil .nil) .nil))) (.node (o3 P) (.node (o10 P) (.node (o23 P) (.node (o0 P) .nil .nil) .nil) (.node (o40 P) (.node (o1 P) .nil .nil) .nil)) (.node (o18 P) (.node (o30 P) (.node (o59 P) .nil .nil) .nil) (.node (o46 P) (.node (o73 P) .nil .nil) .nil))))))
noncomputable def S6 (w : World) (os : OsState) : SharedT := ⟨tS6 w.params, 101, { }, Array.mk [.finished, .finished, .finished], ⟨0, 0, 0, 0⟩, 596, os⟩
noncomputable def o78 (P : Params) : Obj := ⟨(.type "dict"), none, (.dict #[⟨PyData.keyHash P (Str.ofString "__name__"), (.str (Str.ofString "__name__") 165), (.str (Str.ofString "cpy313.idlelib.pyparse") 194)⟩, ⟨PyData.keyHash P (Str.ofString "__doc__"), (.str (Str.ofString "__doc__") 166), .none⟩, ⟨PyData.keyHash P (Str.ofString "__package__"), (.str (Str.ofString "__package__") 167), .none⟩, ⟨PyData.keyHash P (Str.ofString "__loader__"), (.str (Str.ofString "__loader__") 168), (.builtin "__main__.__loader__#opaque")⟩, ⟨PyData.keyHash P (Str.ofString "__spec__"), (.str (Str.ofString "__spec__") 169), .none⟩, ⟨PyData.keyHash P (Str.ofString "__annotations__"), (.str (Str.ofString "__annotations__") 170), (.ref 6)⟩, ⟨PyData.keyHash P (Str.ofString "__builtins__"), (.str (Str.ofString "__builtins__") 171), (.ref 4)⟩, ⟨PyData.keyHash P (Str.ofString "__file__"), (.str (Str.ofString "__file__") 173), (.str (Str.ofString "/claim/cut.py") 172)⟩, ⟨PyData.keyHash P (Str.ofString "__cached__"), (.str (Str.ofString "__cached__") 174), .none⟩, ⟨PyData.keyHash P (Str.ofString "_wall"), (.str (Str.ofString "_wall") 193), (.ref 21)⟩, ⟨PyData.keyHash P (Str.ofString "C_NONE"), (.str (Str.ofString "C_NONE") 204), (.int 0 199)⟩, ⟨PyData.keyHash P (Str.ofString "C_BACKSLASH"), (.str (Str.ofString "C_BACKSLASH") 205), (.int 1 200)⟩, ⟨PyData.keyHash P (Str.ofString "C_STRING_FIRST_LINE"), (.str (Str.ofString "C_STRING_FIRST_LINE") 206), (.int 2 201)⟩, ⟨PyData.keyHash P (Str.ofString "C_STRING_NEXT_LINES"), (.str (Str.ofString "C_STRING_NEXT_LINES") 207), (.int 3 202)⟩, ⟨PyData.keyHash P (Str.ofString "C_BRACKET"), (.str (Str.ofString "C_BRACKET") 208), (.int 4 203)⟩, ⟨PyData.keyHash P (Str.ofString "ParseMap"), (.str (Str.ofString "ParseMap") 236), (.ref 42)⟩, ⟨PyData.keyHash P (Str.ofString "trans"), (.str (Str.ofString "trans") 498), (.ref 50)⟩, ⟨PyData.keyHash P (Str.ofString "Parser"), (.str (Str.ofString "Parser") 736), (.ref 208)⟩] 18), #[]⟩
noncomputable def o79 (P : Params) : Obj := ⟨.none, none, (.fields #[(.int 1 0), (.int 0 0), (.ref 20), (.int 6 0), (.int 0 0), (.ref 31), (.int 11 0), (.int 13 0), (.ref 57), (.int 12 0), (.int 13 0), (.ref 72), (.int 13 0), (.int 13 0), (.ref 87), (.int 14 0), (.int 0 0), (.ref 106)]), #[]⟩
noncomputable def o80 (P : Params) : Obj := ⟨(.type "dict"), none, (.dict #[⟨PyData.keyHash P (Str.ofString "__module__"), (.str (Str.ofString "__module__") 603), (.str (Str.ofString "cpy313.idlelib.pyparse") 194)⟩, ⟨PyData.keyHash P (Str.ofString "__qualname__"), (.str (Str.ofString "__qualname__") 605), (.str (Str.ofString "Parser") 604)⟩, ⟨PyData.keyHash P (Str.ofString "__firstlineno__"), (.str (Str.ofString "__firstlineno__") 607), (.int 14 606)⟩, ⟨PyData.keyHash P (Str.ofString "__init__"), (.str (Str.ofString "__init__") 616), (.ref 114)⟩, ⟨PyData.keyHash P (Str.ofString "set_code"), (.str (Str.ofString "set_code") 624), (.ref 121)⟩, ⟨PyData.keyHash P (Str.ofString "find_good_parse_start"), (.str (Str.ofString "find_good_parse_start") 632), (.ref 128)⟩, ⟨PyData.keyHash P (Str.ofString "set_lo"), (.str (Str.ofString "set_lo") 640), (.ref 135)⟩, ⟨PyData.keyHash P (Str.ofString "_study1"), (.str (Str.ofString "_study1") 659), (.ref 142)⟩, ⟨PyData.keyHash P (Str.ofString "get_continuation_type"), (.str (Str.ofString "get_continuation_type") 666), (.ref 149)⟩, ⟨PyData.keyHash P (Str.ofString "_study2"), (.str (Str.ofString "_study2") 673), (.ref 156)⟩, ⟨PyData.keyHash P (Str.ofString "compute_bracket_indent"), (.str (Str.ofString "compute_bracket_indent") 680), (.ref 163)⟩, ⟨PyData.keyHash P (Str.ofString "get_num_lines_in_stmt"), (.str (Str.ofString "get_num_lines_in_stmt") 687), (.ref 170)⟩, ⟨PyData.keyHash P (Str.ofString "compute_backslash_indent"), (.str (Str.ofString "compute_backslash_indent") 694), (.ref 177)⟩, ⟨PyData.keyHash P (Str.ofString "get_base_indent_string"), (.str (Str.ofString "get_base_indent_string") 701), (.ref 184)⟩, ⟨PyData.keyHash P (Str.ofString "is_block_opener"), (.str (Str.ofString "is_block_opener") 708), (.ref 191)⟩, ⟨PyData.keyHash P (Str.ofString "is_block_closer"), (.str (Str.ofString "is_block_closer") 715), (.ref 198)⟩, ⟨PyData.keyHash P (Str.ofString "get_last_stmt_bracketing"), (.str (Str.ofString "get_last_stmt_bracketing") 722), (.ref 205)⟩, ⟨PyData.keyHash P (Str.ofString "__static_attributes__"), (.str (Str.ofString "__static_attributes__") 729), (.ref 206)⟩] 18), #[]⟩
noncomputable def o81 (P : Params) : Obj := ⟨.none, none, (.fields #[(.int 16 0), (.int 4 0), (.ref 113), (.int 20 0), (.int 4 0), (.ref 120), (.int 25 0), (.int 4 0), (.ref 127), (.int 28 0), (.int 4 0), (.ref 134), (.int 31 0), (.int 4 0), (.ref 141), (.int 116 0), (.int 4 0), (.ref 148), (.int 120 0), (.int 4 0), (.ref 155), (.int 123 0), (.int 4 0), (.ref 162), (.int 126 0), (.int 4 0), (.ref 169), (.int 129 0), (.int 4 0), (.ref 176), (.int 132 0), (.int 4 0), (.ref 183), (.int 135 0), (.int 4 0), (.ref 190), (.int 138 0), (.int 4 0), (.ref 197), (.int 141 0), (.int 4 0), (.ref 204)]), #[]⟩
noncomputable def o82 (P : Params) : Obj := ⟨(.type "code"), none, (.fields #[(.str (Str.ofString "Parser") 598), (.str (Str.ofString "Parser") 599), (.str (Str.ofString "/claim/cut.py") 600), (.int 14 0), (.int 0 0), (.int 0 0), (.int 0 0), (.int 0 0), (.ref 104), (.bool false), (.int 181 0), (.ref 105), .none, .none, .none, .none, (.int 601 0), (.int 14 0), (.str (Str.ofString "/claim/cut.py") 602)]), #[]⟩
noncomputable def o83 (P : Params) : Obj := ⟨(.type "frame"), none, .plain, #[(some (.ref 106)), (some (.ref 3)), (some (.ref 103)), none, (some (.str (Str.ofString "cpy313.idlelib.pyparse") 194)), none, (some (.ref 0))]⟩
noncomputable def o84 (P : Params) : Obj := ⟨(.type "tuple"), none, (.seq #[(.str (Str.ofString "self") 611), (.str (Str.ofString "indentwidth") 612), (.str (Str.ofString "tabwidth") 613)] 0), #[]⟩
noncomputable def o85 (P : Params) : Obj := ⟨.none, none, (.func ⟨(Str.ofString "__init__"), (Str.ofString "Parser.__init__"), (argsS (nthS (bodyS (nthS pw.main.body 8)) 0)), (.stmts (bodyS (nthS (bodyS (nthS pw.main.body 8)) 0))), (scopeS (nthS (bodyS (nthS pw.main.body 8)) 0)), 0, [], .none, .none, .none, .none, none, .none, .none, 0⟩), #[]⟩
noncomputable def o86 (P : Params) : Obj := ⟨(.type "code"), none, (.fields #[(.str (Str.ofString "__init__") 608), (.str (Str.ofString "Parser.__init__") 609), (.str (Str.ofString "/claim/cut.py") 610), (.int 16 0), (.int 3 0), (.int 0 0), (.int 0 0), (.int 3 0), (.ref 108), (.bool true), (.int 181 0), (.ref 109), .none, (.ref 110), (.ref 111), (.ref 112), (.int 614 0), (.int 16 0), (.str (Str.ofString "/claim/cut.py") 615)]), #[]⟩
noncomputable def o87 (P : Params) : Obj := ⟨(.type "function"), none, (.func ⟨(Str.ofString "__init__"), (Str.ofString "Parser.__init__"), (argsS (nthS (bodyS (nthS pw.main.body 8)) 0)), (.stmts (bodyS (nthS (bodyS (nthS pw.main.body 8)) 0))), (scopeS (nthS (bodyS (nthS pw.main.body 8)) 0)), 3, [], .none, .none, .none, (.str (Str.ofString "cpy313.idlelib.pyparse") 194), none, (.ref 113), .none, 0⟩), #[]⟩
noncomputable def o88 (P : Params) : Obj := ⟨(.type "tuple"), none, (.seq #[(.str (Str.ofString "self") 620), (.str (Str.ofString "s") 621)] 0), #[]⟩
noncomputable def o89 (P : Params) : Obj := ⟨.none, none, (.func ⟨(Str.ofString "set_code"), (Str.ofString "Parser.set_code"), (argsS (nthS (bodyS (nthS pw.main.body 8)) 1)), (.stmts (bodyS (nthS (bodyS (nthS pw.main.body 8)) 1))), (scopeS (nthS (bodyS (nthS pw.main.body 8)) 1)), 0, [], .none, .none, .none, .none, none, .none, .none, 0⟩), #[]⟩
noncomputable def o90 (P : Params) : Obj := ⟨(.type "code"), none, (.fields #[(.str (Str.ofString "set_code") 617), (.str (Str.ofString "Parser.set_code") 618), (.str (Str.ofString "/claim/cut.py") 619), (.int 20 0), (.int 2 0), (.int 0 0), (.int 0 0), (.int 3 0), (.ref 115), (.bool true), (.int 181 0), (.ref 116), .none, (.ref 117), (.ref 118), (.ref 119), (.int 622 0), (.int 20 0), (.str (Str.ofString "/claim/cut.py") 623)]), #[]⟩
noncomputable def o91 (P : Params) : Obj := ⟨(.type "function"), none, (.func ⟨(Str.ofString "set_code"), (Str.ofString "Parser.set_code"), (argsS (nthS (bodyS (nthS pw.main.body 8)) 1)), (.stmts (bodyS (nthS (bodyS (nthS pw.main.body 8)) 1))), (scopeS (nthS (bodyS (nthS pw.main.body 8)) 1)), 3, [], .none, .none, .none, (.str (Str.ofString "cpy313.idlelib.pyparse") 194), none, (.ref 120), .none, 0⟩), #[]⟩
noncomputable def o92 (P : Params) : Obj := ⟨(.type "tuple"), none, (.seq #[(.str (Str.ofString "self") 628), (.str (Str.ofString "is_char_in_string") 629)] 0), #[]⟩
noncomputable def o93 (P : Params) : Obj := ⟨.none, none, (.func ⟨(Str.ofString "find_good_parse_start"), (Str.ofString "Parser.find_good_parse_start"), (argsS (nthS (bodyS (nthS pw.main.body 8)) 2)), (.stmts (bodyS (nthS (bodyS (nthS pw.main.body 8)) 2))), (scopeS (nthS (bodyS (nthS pw.main.body 8)) 2)), 0, [], .none, .none, .none, .none, none, .none, .none, 0⟩), #[]⟩
noncomputable def o94 (P : Params) : Obj := ⟨(.type "code"), none, (.fields #[(.str (Str.ofString "find_good_parse_start") 625), (.str (Str.ofString "Parser.find_good_parse_start") 626), (.str (Str.ofString "/claim/cut.py") 627), (.int 25 0), (.int 2 0), (.int 0 0), (.int 0 0), (.int 3 0), (.ref 122), (.bool true), (.int 181 0), (.ref 123), .none, (.ref 124), (.ref 125), (.ref 126), (.int 630 0), (.int 25 0), (.str (Str.ofString "/claim/cut.py") 631)]), #[]⟩
noncomputable def o95 (P : Params) : Obj := ⟨(.type "function"), none, (.func ⟨(Str.ofString "find_good_parse_start"), (Str.ofString "Parser.find_good_parse_start"), (argsS (nthS (bodyS (nthS pw.main.body 8)) 2)), (.stmts (bodyS (nthS (bodyS (nthS pw.main.body 8)) 2))), (scopeS (nthS (bodyS (nthS pw.main.body 8)) 2)), 3, [], .none, .none, .none, (.str (Str.ofString "cpy313.idlelib.pyparse") 194), none, (.ref 127), .none, 0⟩), #[]⟩
noncomputable def o96 (P : Params) : Obj := ⟨(.type "tuple"), none, (.seq #[(.str (Str.ofString "self") 636), (.str (Str.ofString "lo") 637)] 0), #[]⟩
noncomputable def o97 (P : Params) : Obj := ⟨.none, none, (.func ⟨(Str.ofString "set_lo"), (Str.ofString "Parser.set_lo"), (argsS (nthS (bodyS (nthS pw.main.body 8)) 3)), (.stmts (bodyS (nthS (bodyS (nthS pw.main.body 8)) 3))), (scopeS (nthS (bodyS (nthS pw.main.body 8)) 3)), 0, [], .none, .none, .none, .none, none, .none, .none, 0⟩), #[]⟩
noncomputable def o98 (P : Params) : Obj := ⟨(.type "code"), none, (.fields #[(.str (Str.ofString "set_lo") 633), (.str (Str.ofString "Parser.set_lo") 634), (.str (Str.ofString "/claim/cut.py") 635), (.int 28 0), (.int 2 0), (.int 0 0), (.int 0 0), (.int 3 0), (.ref 129), (.bool true), (.int 181 0), (.ref 130), .none, (.ref 131), (.ref 132), (.ref 133), (.int 638 0), (.int 28 0), (.str (Str.ofString "/claim/cut.py") 639)]), #[]⟩
noncomputable def o99 (P : Params) : Obj := ⟨(.type "function"), none, (.func ⟨(Str.ofString "set_lo"), (Str.ofString "Parser.set_lo"), (argsS (nthS (bodyS (nthS pw.main.body 8)) 3)), (.stmts (bodyS (nthS (bodyS (nthS pw.main.body 8)) 3))), (scopeS (nthS (bodyS (nthS pw.main.body 8)) 3)), 3, [], .none, .none, .none, (.str (Str.ofString "cpy313.idlelib.pyparse") 194), none, (.ref 134), .none, 0⟩), #[]⟩
noncomputable def o100 (P : Params) : Obj := ⟨(.type "tuple"), none, (.seq #[(.str (Str.ofString "self") 644), (.str (Str.ofString "code") 645), (.str (Str.ofString "continuation") 646), (.str (Str.ofString "level") 647), (.str (Str.ofString "lno") 648), (.str (Str.ofString "goodlines") 649), (.str (Str.ofString "push_good") 650), (.str (Str.ofString "i") 651), (.str (Str.ofString "n") 652), (.str (Str.ofString "ch") 653), (.str (Str.ofString "quote") 654), (.str (Str.ofString "firstlno") 655), (.str (Str.ofString "w") 656)] 0), #[]⟩
noncomputable def o101 (P : Params) : Obj := ⟨.none, none, (.func ⟨(Str.ofString "_study1"), (Str.ofString "Parser._study1"), (argsS (nthS (bodyS (nthS pw.main.body 8)) 4)), (.stmts (bodyS (nthS (bodyS (nthS pw.main.body 8)) 4))), (scopeS (nthS (bodyS (nthS pw.main.body 8)) 4)), 0, [], .none, .none, .none, .none, none, .none, .none, 0⟩), #[]⟩
noncomputable def o102 (P : Params) : Obj := ⟨(.type "code"), none, (.fields #[(.str (Str.ofString "_study1") 641), (.str (Str.ofString "Parser._study1") 642), (.str (Str.ofString "/claim/cut.py") 643), (.int 31 0), (.int 1 0), (.int 0 0), (.int 0 0), (.int 3 0), (.ref 136), (.bool true), (.int 181 0), (.ref 137), .none, (.ref 138), (.ref 139), (.ref 140), (.int 657 0), (.int 31 0), (.str (Str.ofString "/claim/cut.py") 658)]), #[]⟩
noncomputable def o103 (P : Params) : Obj := ⟨(.type "function"), none, (.func ⟨(Str.ofString "_study1"), (Str.ofString "Parser._study1"), (argsS (nthS (bodyS (nthS pw.main.body 8)) 4)), (.stmts (bodyS (nthS (bodyS (nthS pw.main.body 8)) 4))), (scopeS (nthS (bodyS (nthS pw.main.body 8)) 4)), 3, [], .none, .none, .none, (.str (Str.ofString "cpy313.idlelib.pyparse") 194), none, (.ref 141), .none, 0⟩), #[]⟩
noncomputable def o104 (P : Params) : Obj := ⟨(.type "tuple"), none, (.seq #[(.str (Str.ofString "self") 663)] 0), #[]⟩
noncomputable def o105 (P : Params) : Obj := ⟨.none, none, (.func ⟨(Str.ofString "get_continuation_type"), (Str.ofString "Parser.get_continuation_type"), (argsS (nthS (bodyS (nthS pw.main.body 8)) 5)), (.stmts (bodyS (nthS (bodyS (nthS pw.main.body 8)) 5))), (scopeS (nthS (bodyS (nthS pw.main.body 8)) 5)), 0, [], .none, .none, .none, .none, none, .none, .none, 0⟩), #[]⟩
noncomputable def o106 (P : Params) : Obj := ⟨(.type "code"), none, (.fields #[(.str (Str.ofString "get_continuation_type") 660), (.str (Str.ofString "Parser.get_continuation_type") 661), (.str (Str.ofString "/claim/cut.py") 662), (.int 116 0), (.int 1 0), (.int 0 0), (.int 0 0), (.int 3 0), (.ref 143), (.bool true), (.int 181 0), (.ref 144), .none, (.ref 145), (.ref 146), (.ref 147), (.int 664 0), (.int 116 0), (.str (Str.ofString "/claim/cut.py") 665)]), #[]⟩
noncomputable def o107 (P : Params) : Obj := ⟨(.type "function"), none, (.func ⟨(Str.ofString "get_continuation_type"), (Str.ofString "Parser.get_continuation_type"), (argsS (nthS (bodyS (nthS pw.main.body 8)) 5)), (.stmts (bodyS (nthS (bodyS (nthS pw.main.body 8)) 5))), (scopeS (nthS (bodyS (nthS pw.main.body 8)) 5)), 3, [], .none, .none, .none, (.str (Str.ofString "cpy313.idlelib.pyparse") 194), none, (.ref 148), .none, 0⟩), #[]⟩
noncomputable def o108 (P : Params) : Obj := ⟨(.type "tuple"), none, (.seq #[(.str (Str.ofString "self") 670)] 0), #[]⟩
noncomputable def o109 (P : Params) : Obj := ⟨.none, none, (.func ⟨(Str.ofString "_study2"), (Str.ofString "Parser._study2"), (argsS (nthS (bodyS (nthS pw.main.body 8)) 6)), (.stmts (bodyS (nthS (bodyS (nthS pw.main.body 8)) 6))), (scopeS (nthS (bodyS (nthS pw.main.body 8)) 6)), 0, [], .none, .none, .none, .none, none, .none, .none, 0⟩), #[]⟩
noncomputable def o110 (P : Params) : Obj := ⟨(.type "code"), none, (.fields #[(.str (Str.ofString "_study2") 667), (.str (Str.ofString "Parser._study2") 668), (.str (Str.ofString "/claim/cut.py") 669), (.int 120 0), (.int 1 0), (.int 0 0), (.int 0 0), (.int 3 0), (.ref 150), (.bool true), (.int 181 0), (.ref 151), .none, (.ref 152), (.ref 153), (.ref 154), (.int 671 0), (.int 120 0), (.str (Str.ofString "/claim/cut.py") 672)]), #[]⟩
noncomputable def o111 (P : Params) : Obj := ⟨(.type "function"), none, (.func ⟨(Str.ofString "_study2"), (Str.ofString "Parser._study2"), (argsS (nthS (bodyS (nthS pw.main.body 8)) 6)), (.stmts (bodyS (nthS (bodyS (nthS pw.main.body 8)) 6))), (scopeS (nthS (bodyS (nthS pw.main.body 8)) 6)), 3, [], .none, .none, .none, (.str (Str.ofString "cpy313.idlelib.pyparse") 194), none, (.ref 155), .none, 0⟩), #[]⟩
noncomputable def o112 (P : Params) : Obj := ⟨(.type "tuple"), none, (.seq #[(.str (Str.ofString "self") 677)] 0), #[]⟩
noncomputable def o113 (P : Params) : Obj := ⟨.none, none, (.func ⟨(Str.ofString "compute_bracket_indent"), (Str.ofString "Parser.compute_bracket_indent"), (argsS (nthS (bodyS (nthS pw.main.body 8)) 7)), (.stmts (bodyS (nthS (bodyS (nthS pw.main.body 8)) 7))), (scopeS (nthS (bodyS (nthS pw.main.body 8)) 6)), 0, [], .none, .none, .none, .none, none, .none, .none, 0⟩), #[]⟩
noncomputable def o114 (P : Params) : Obj := ⟨(.type "code"), none, (.fields #[(.str (Str.ofString "compute_bracket_indent") 674), (.str (Str.ofString "Parser.compute_bracket_indent") 675), (.str (Str.ofString "/claim/cut.py") 676), (.int 123 0), (.int 1 0), (.int 0 0), (.int 0 0), (.int 3 0), (.ref 157), (.bool true), (.int 181 0), (.ref 158), .none, (.ref 159), (.ref 160), (.ref 161), (.int 678 0), (.int 123 0), (.str (Str.ofString "/claim/cut.py") 679)]), #[]⟩
noncomputable def o115 (P : Params) : Obj := ⟨(.type "function"), none, (.func ⟨(Str.ofString "compute_bracket_indent"), (Str.ofString "Parser.compute_bracket_indent"), (argsS (nthS (bodyS (nthS pw.main.body 8)) 7)), (.stmts (bodyS (nthS (bodyS (nthS pw.main.body 8)) 7))), (scopeS (nthS (bodyS (nthS pw.main.body 8)) 6)), 3, [], .none, .none, .none, (.str (Str.ofString "cpy313.idlelib.pyparse") 194), none, (.ref 162), .none, 0⟩), #[]⟩
noncomputable def o116 (P : Params) : Obj := ⟨(.type "tuple"), none, (.seq #[(.str (Str.ofString "self") 684)] 0), #[]⟩
noncomputable def o117 (P : Params) : Obj := ⟨.none, none, (.func ⟨(Str.ofString "get_num_lines_in_stmt"), (Str.ofString "Parser.get_num_lines_in_stmt"), (argsS (nthS (bodyS (nthS pw.main.body 8)) 8)), (.stmts (bodyS (nthS (bodyS (nthS pw.main.body 8)) 8))), (scopeS (nthS (bodyS (nthS pw.main.body 8)) 6)), 0, [], .none, .none, .none, .none, none, .none, .none, 0⟩), #[]⟩
noncomputable def o118 (P : Params) : Obj := ⟨(.type "code"), none, (.fields #[(.str (Str.ofString "get_num_lines_in_stmt") 681), (.str (Str.ofString "Parser.get_num_lines_in_stmt") 682), (.str (Str.ofString "/claim/cut.py") 683), (.int 126 0), (.int 1 0), (.int 0 0), (.int 0 0), (.int 3 0), (.ref 164), (.bool true), (.int 181 0), (.ref 165), .none, (.ref 166), (.ref 167), (.ref 168), (.int 685 0), (.int 126 0), (.str (Str.ofString "/claim/cut.py") 686)]), #[]⟩
noncomputable def o119 (P : Params) : Obj := ⟨(.type "function"), none, (.func ⟨(Str.ofString "get_num_lines_in_stmt"), (Str.ofString "Parser.get_num_lines_in_stmt"), (argsS (nthS (bodyS (nthS pw.main.body 8)) 8)), (.stmts (bodyS (nthS (bodyS (nthS pw.main.body 8)) 8))), (scopeS (nthS (bodyS (nthS pw.main.body 8)) 6)), 3, [], .none, .none, .none, (.str (Str.ofString "cpy313.idlelib.pyparse") 194), none, (.ref 169), .none, 0⟩), #[]⟩
noncomputable def o120 (P : Params) : Obj := ⟨(.type "tuple"), none, (.seq #[(.str (Str.ofString "self") 691)] 0), #[]⟩
noncomputable def o121 (P : Params) : Obj := ⟨.none, none, (.func ⟨(Str.ofString "compute_backslash_indent"), (Str.ofString "Parser.compute_backslash_indent"), (argsS (nthS (bodyS (nthS pw.main.body 8)) 9)), (.stmts (bodyS (nthS (bodyS (nthS pw.main.body 8)) 9))), (scopeS (nthS (bodyS (nthS pw.main.body 8)) 6)), 0, [], .none, .none, .none, .none, none, .none, .none, 0⟩), #[]⟩
noncomputable def o122 (P : Params) : Obj := ⟨(.type "code"), none, (.fields #[(.str (Str.ofString "compute_backslash_indent") 688), (.str (Str.ofString "Parser.compute_backslash_indent") 689), (.str (Str.ofString "/claim/cut.py") 690), (.int 129 0), (.int 1 0), (.int 0 0), (.int 0 0), (.int 3 0), (.ref 171), (.bool true), (.int 181 0), (.ref 172), .none, (.ref 173), (.ref 174), (.ref 175), (.int 692 0), (.int 129 0), (.str (Str.ofString "/claim/cut.py") 693)]), #[]⟩
noncomputable def o123 (P : Params) : Obj := ⟨(.type "function"), none, (.func ⟨(Str.ofString "compute_backslash_indent"), (Str.ofString "Parser.compute_backslash_indent"), (argsS (nthS (bodyS (nthS pw.main.body 8)) 9)), (.stmts (bodyS (nthS (bodyS (nthS pw.main.body 8)) 9))), (scopeS (nthS (bodyS (nthS pw.main.body 8)) 6)), 3, [], .none, .none, .none, (.str (Str.ofString "cpy313.idlelib.pyparse") 194), none, (.ref 176), .none, 0⟩), #[]⟩
noncomputable def o124 (P : Params) : Obj := ⟨(.type "tuple"), none, (.seq #[(.str (Str.ofString "self") 698)] 0), #[]⟩
noncomputable def o125 (P : Params) : Obj := ⟨.none, none, (.func ⟨(Str.ofString "get_base_indent_string"), (Str.ofString "Parser.get_base_indent_string"), (argsS (nthS (bodyS (nthS pw.main.body 8)) 10)), (.stmts (bodyS (nthS (bodyS (nthS pw.main.body 8)) 10))), (scopeS (nthS (bodyS (nthS pw.main.body 8)) 6)), 0, [], .none, .none, .none, .none, none, .none, .none, 0⟩), #[]⟩
noncomputable def o126 (P : Params) : Obj := ⟨(.type "code"), none, (.fields #[(.str (Str.ofString "get_base_indent_string") 695), (.str (Str.ofString "Parser.get_base_indent_string") 696), (.str (Str.ofString "/claim/cut.py") 697), (.int 132 0), (.int 1 0), (.int 0 0), (.int 0 0), (.int 3 0), (.ref 178), (.bool true), (.int 181 0), (.ref 179), .none, (.ref 180), (.ref 181), (.ref 182), (.int 699 0), (.int 132 0), (.str (Str.ofString "/claim/cut.py") 700)]), #[]⟩
noncomputable def o127 (P : Params) : Obj := ⟨(.type "function"), none, (.func ⟨(Str.ofString "get_base_indent_string"), (Str.ofString "Parser.get_base_indent_string"), (argsS (nthS (bodyS (nthS pw.main.body 8)) 10)), (.stmts (bodyS (nthS (bodyS (nthS pw.main.body 8)) 10))), (scopeS (nthS (bodyS (nthS pw.main.body 8)) 6)), 3, [], .none, .none, .none, (.str (Str.ofString "cpy313.idlelib.pyparse") 194), none, (.ref 183), .none, 0⟩), #[]⟩
noncomputable def o128 (P : Params) : Obj := ⟨(.type "tuple"), none, (.seq #[(.str (Str.ofString "self") 705)] 0), #[]⟩
noncomputable def o129 (P : Params) : Obj := ⟨.none, none, (.func ⟨(Str.ofString "is_block_opener"), (Str.ofString "Parser.is_block_opener"), (argsS (nthS (bodyS (nthS pw.main.body 8)) 11)), (.stmts (bodyS (nthS (bodyS (nthS pw.main.body 8)) 11))), (scopeS (nthS (bodyS (nthS pw.main.body 8)) 6)), 0, [], .none, .none, .none, .none, none, .none, .none, 0⟩), #[]⟩
noncomputable def o130 (P : Params) : Obj := ⟨(.type "code"), none, (.fields #[(.str (Str.ofString "is_block_opener") 702), (.str (Str.ofString "Parser.is_block_opener") 703), (.str (Str.ofString "/claim/cut.py") 704), (.int 135 0), (.int 1 0), (.int 0 0), (.int 0 0), (.int 3 0), (.ref 185), (.bool true), (.int 181 0), (.ref 186), .none, (.ref 187), (.ref 188), (.ref 189), (.int 706 0), (.int 135 0), (.str (Str.ofString "/claim/cut.py") 707)]), #[]⟩
noncomputable def o131 (P : Params) : Obj := ⟨(.type "function"), none, (.func ⟨(Str.ofString "is_block_opener"), (Str.ofString "Parser.is_block_opener"), (argsS (nthS (bodyS (nthS pw.main.body 8)) 11)), (.stmts (bodyS (nthS (bodyS (nthS pw.main.body 8)) 11))), (scopeS (nthS (bodyS (nthS pw.main.body 8)) 6)), 3, [], .none, .none, .none, (.str (Str.ofString "cpy313.idlelib.pyparse") 194), none, (.ref 190), .none, 0⟩), #[]⟩
noncomputable def o132 (P : Params) : Obj := ⟨(.type "tuple"), none, (.seq #[(.str (Str.ofString "self") 712)] 0), #[]⟩
noncomputable def o133 (P : Params) : Obj := ⟨.none, none, (.func ⟨(Str.ofString "is_block_closer"), (Str.ofString "Parser.is_block_closer"), (argsS (nthS (bodyS (nthS pw.main.body 8)) 12)), (.stmts (bodyS (nthS (bodyS (nthS pw.main.body 8)) 12))), (scopeS (nthS (bodyS (nthS pw.main.body 8)) 6)), 0, [], .none, .none, .none, .none, none, .none, .none, 0⟩), #[]⟩
noncomputable def o134 (P : Params) : Obj := ⟨(.type "code"), none, (.fields #[(.str (Str.ofString "is_block_closer") 709), (.str (Str.ofString "Parser.is_block_closer") 710), (.str (Str.ofString "/claim/cut.py") 711), (.int 138 0), (.int 1 0), (.int 0 0), (.int 0 0), (.int 3 0), (.ref 192), (.bool true), (.int 181 0), (.ref 193), .none, (.ref 194), (.ref 195), (.ref 196), (.int 713 0), (.int 138 0), (.str (Str.ofString "/claim/cut.py") 714)]), #[]⟩
noncomputable def o135 (P : Params) : Obj := ⟨(.type "function"), none, (.func ⟨(Str.ofString "is_block_closer"), (Str.ofString "Parser.is_block_closer"), (argsS (nthS (bodyS (nthS pw.main.body 8)) 12)), (.stmts (bodyS (nthS (bodyS (nthS pw.main.body 8)) 12))), (scopeS (nthS (bodyS (nthS pw.main.body 8)) 6)), 3, [], .none, .none, .none, (.str (Str.ofString "cpy313.idlelib.pyparse") 194), none, (.ref 197), .none, 0⟩), #[]⟩
noncomputable def o136 (P : Params) : Obj := ⟨(.type "tuple"), none, (.seq #[(.str (Str.ofString "self") 719)] 0), #[]⟩
noncomputable def o137 (P : Params) : Obj := ⟨.none, none, (.func ⟨(Str.ofString "get_last_stmt_bracketing"), (Str.ofString "Parser.get_last_stmt_bracketing"), (argsS (nthS (bodyS (nthS pw.main.body 8)) 13)), (.stmts (bodyS (nthS (bodyS (nthS pw.main.body 8)) 13))), (scopeS (nthS (bodyS (nthS pw.main.body 8)) 6)), 0, [], .none, .none, .none, .none, none, .none, .none, 0⟩), #[]⟩
noncomputable def o138 (P : Params) : Obj := ⟨(.type "code"), none, (.fields #[(.str (Str.ofString "get_last_stmt_bracketing") 716), (.str (Str.ofString "Parser.get_last_stmt_bracketing") 717), (.str (Str.ofString "/claim/cut.py") 718), (.int 141 0), (.int 1 0), (.int 0 0), (.int 0 0), (.int 3 0), (.ref 199), (.bool true), (.int 181 0), (.ref 200), .none, (.ref 201), (.ref 202), (.ref 203), (.int 720 0), (.int 141 0), (.str (Str.ofString "/claim/cut.py") 721)]), #[]⟩
noncomputable def o139 (P : Params) : Obj := ⟨(.type "function"), none, (.func ⟨(Str.ofString "get_last_stmt_bracketing"), (Str.ofString "Parser.get_last_stmt_bracketing"), (argsS (nthS (bodyS (nthS pw.main.body 8)) 13)), (.stmts (bodyS (nthS (bodyS (nthS pw.main.body 8)) 13))), (scopeS (nthS (bodyS (nthS pw.main.body 8)) 6)), 3, [], .none, .none, .none, (.str (Str.ofString "cpy313.idlelib.pyparse") 194), none, (.ref 204), .none, 0⟩), #[]⟩
noncomputable def o140 (P : Params) : Obj := ⟨(.type "tuple"), none, (.seq #[(.str (Str.ofString "code") 723), (.str (Str.ofString "continuation") 724), (.str (Str.ofString "goodlines") 725), (.str (Str.ofString "indentwidth") 726), (.str (Str.ofString "study_level") 727), (.str (Str.ofString "tabwidth") 728)] 0), #[]⟩
noncomputable def o141 (P : Params) : Obj := ⟨(.type "dict"), none, (.dict #[⟨PyData.keyHash P (Str.ofString "__module__"), (.str (Str.ofString "__module__") 603), (.str (Str.ofString "cpy313.idlelib.pyparse") 194)⟩, ⟨PyData.keyHash P (Str.ofString "__firstlineno__"), (.str (Str.ofString "__firstlineno__") 607), (.int 14 606)⟩, ⟨PyData.keyHash P (Str.ofString "__init__"), (.str (Str.ofString "__init__") 616), (.ref 114)⟩, ⟨PyData.keyHash P (Str.ofString "set_code"), (.str (Str.ofString "set_code") 624), (.ref 121)⟩, ⟨PyData.keyHash P (Str.ofString "find_good_parse_start"), (.str (Str.ofString "find_good_parse_start") 632), (.ref 128)⟩, ⟨PyData.keyHash P (Str.ofString "set_lo"), (.str (Str.ofString "set_lo") 640), (.ref 135)⟩, ⟨PyData.keyHash P (Str.ofString "_study1"), (.str (Str.ofString "_study1") 659), (.ref 142)⟩, ⟨PyData.keyHash P (Str.ofString "get_continuation_type"), (.str (Str.ofString "get_continuation_type") 666), (.ref 149)⟩, ⟨PyData.keyHash P (Str.ofString "_study2"), (.str (Str.ofString "_study2") 673), (.ref 156)⟩, ⟨PyData.keyHash P (Str.ofString "compute_bracket_indent"), (.str (Str.ofString "compute_bracket_indent") 680), (.ref 163)⟩, ⟨PyData.keyHash P (Str.ofString "get_num_lines_in_stmt"), (.str (Str.ofString "get_num_lines_in_stmt") 687), (.ref 170)⟩, ⟨PyData.keyHash P (Str.ofString "compute_backslash_indent"), (.str (Str.ofString "compute_backslash_indent") 694), (.ref 177)⟩, ⟨PyData.keyHash P (Str.ofString "get_base_indent_string"), (.str (Str.ofString "get_base_indent_string") 701), (.ref 184)⟩, ⟨PyData.keyHash P (Str.ofString "is_block_opener"), (.str (Str.ofString "is_block_opener") 708), (.ref 191)⟩, ⟨PyData.keyHash P (Str.ofString "is_block_closer"), (.str (Str.ofString "is_block_closer") 715), (.ref 198)⟩, ⟨PyData.keyHash P (Str.ofString "get_last_stmt_bracketing"), (.str (Str.ofString "get_last_stmt_bracketing") 722), (.ref 205)⟩, ⟨PyData.keyHash P (Str.ofString "__static_attributes__"), (.str (Str.ofString "__static_attributes__") 729), (.ref 206)⟩, ⟨PyData.keyHash P (Str.ofString "__dict__"), (.str (Str.ofString "__dict__") 731), (.ref 209)⟩, ⟨PyData.keyHash P (Str.ofString "__weakref__"), (.str (Str.ofString "__weakref__") 733), (.ref 210)⟩, ⟨PyData.keyHash P (Str.ofString "__doc__"), (.str (Str.ofString "__doc__") 734), .none⟩] 4), #[]⟩
noncomputable def o142 (P : Params) : Obj := ⟨(.type "type"), none, (.cls ⟨(Str.ofString "Parser"), [(.type "object")], [(.ref 208), (.type "object")], 207, (Str.ofString "Parser"), true, [], [], false, none, false⟩), #[none, none, (some (.str (Str.ofString "Parser") 596)), (some (.str (Str.ofString "Parser") 604)), (some (.builtin "object.__new__")), (some (.bool true))]⟩
noncomputable def o143 (P : Params) : Obj := ⟨(.type "getset_descriptor"), none, (.fields #[(.str (Str.ofString "__dict__") 730), (.ref 208), (.builtin "function.__dict__"), (.builtin "function.__dict__#set")]), #[]⟩
noncomputable def o144 (P : Params) : Obj := ⟨(.type "getset_descriptor"), none, (.fields #[(.str (Str.ofString "__weakref__") 732), (.ref 208), (.builtin "ExceptionGroup.__weakref__"), .none]), #[]⟩
noncomputable def o145 (P : Params) : Obj := ⟨(.type "super"), none, (.fields #[(.ref 208), (.ref 208), (.ref 208)]), #[]⟩
noncomputable def o146 (P : Params) : Obj := ⟨(.type "builtin_function_or_method"), none, (.fields #[(.builtin "object.__init_subclass__"), (.ref 208)]), #[]⟩
noncomputable def tS7 (P : Params) : BT := (.node (boot_o_0 P) (.node (boot_o_1 P) (.node (o78 P) (.node (boot_o_7 P) (.node (o0 P) (.node (o19 P) (.node (o47 P) (.node (o94 P) .nil .nil) (.node (o131 P) .nil .nil)) (.node (o74 P) (.node (o112 P) .nil .nil) .nil)) (.node (o32 P) (.node (o60 P) (.node (o0 P) .nil .nil) (.node (o141 P) .nil .nil)) (.node (o0 P) (.node (o121 P) .nil .nil) .nil))) (.node (o11 P) (.node (o24 P) (.node (o1 P) (.node (o99 P) .nil .nil) (.node (o0 P) .nil .nil)) (.node (o80 P) (.node (o0 P) .nil .nil) .nil)) (.node (o0 P) (.node (o66 P) (.node (o1 P) .nil .nil) .nil) (.node (o89 P) (.node (o126 P) .nil .nil) .nil)))) (.node (o0 P) (.node (o7 P) (.node (o21 P) (.node (o0 P) (.node (o96 P) .nil .nil) (.node (o0 P) .nil .nil)) (.node (o0 P) (.node (o115 P) .nil .nil) .nil)) (.node (o36 P) (.node (o62 P) (.node (o105 P) .nil .nil) (.node (o145 P) .nil .nil)) (.node (o0 P) (.node (o1 P) .nil .nil) .nil))) (.node (o16 P) (.node (o27 P) (.node (o56 P) (.node (o0 P) .nil .nil) (.node (o137 P) .nil .nil)) (.node (o83 P) (.node (o0 P) .nil .nil) .nil)) (.node (o43 P) (.node (o70 P) (.node (o110 P) .nil .nil) .nil) (.node (o1 P) (.node (o128 P) .nil .nil) .nil))))) (.node (boot_o_5 P) (.node (boot_o_9 P) (.node (o6 P) (.node (o0 P) (.node (o0 P) (.node (o0 P) .nil .nil) (.node (o1 P) .nil .nil)) (.node (o0 P) (.node (o113 P) .nil .nil) .nil)) (.node (o34 P) (.node (o61 P) (.node (o104 P) .nil .nil) (.node (o143 P) .nil .nil)) (.node (o86 P) (.node (o123 P) .nil .nil) .nil))) (.node (o12 P) (.node (o25 P) (.node (o54 P) (.node (o1 P) .nil .nil) (.node (o136 P) .nil .nil)) (.node (o81 P) (.node (o118 P) .nil .nil) .nil)) (.node (o41 P) (.node (o68 P) (.node (o0 P) .nil .nil) .nil) (.node (o91 P) (.node (o0 P) .nil .nil) .nil)))) (.node (o2 P) (.node (o9 P) (.node (o22 P) (.node (o40 P) (.node (o97 P) .nil .nil) (.node (o134 P) .nil .nil)) (.node (o0 P) (.node (o1 P) .nil .nil) .nil)) (.node (o37 P) (.node (o0 P) (.node (o107 P) .nil .nil) .nil) (.node (o88 P) (.node (o0 P) .nil .nil) .nil))) (.node (o0 P) (.node (o29 P) (.node (o58 P) (.node (o102 P) .nil .nil) (.node (o139 P) .nil .nil)) (.node (o1 P) (.node (o120 P) .nil .nil) .nil)) (.node (o45 P) (.node (o72 P) (.node (o0 P) .nil .nil) .nil) (.node (o0 P) (.node (o129 P) .nil .nil) .nil)))))) (.node (boot_o_2 P) (.node (boot_o_4 P) (.node (boot_o_8 P) (.node (o1 P) (.node (o20 P) (.node (o48 P) (.node (o95 P) .nil .nil) (.node (o0 P) .nil .nil)) (.node (o75 P) (.node (o0 P) .nil .nil) .nil)) (.node (o33 P) (.node (o0 P) (.node (o1 P) .nil .nil) (.node (o142 P) .nil .nil)) (.node (o85 P) (.node (o122 P) .nil .nil) .nil))) (.node (o0 P) (.node (o0 P) (.node (o53 P) (.node (o0 P) .nil .nil) (.node (o1 P) .nil .nil)) (.node (o0 P) (.node (o117 P) .nil .nil) .nil)) (.node (o1 P) (.node (o67 P) (.node (o108 P) .nil .nil) .nil) (.node (o90 P) (.node (o127 P) .nil .nil) .nil)))) (.node (o79 P) (.node (o8 P) (.node (o0 P) (.node (o50 P) (.node (o0 P) .nil .nil) (.node (o133 P) .nil .nil)) (.node (o77 P) (.node (o0 P) .nil .nil) .nil)) (.node (o0 P) (.node (o65 P) (.node (o106 P) .nil .nil) (.node (o146 P) .nil .nil)) (.node (o1 P) (.node (o124 P) .nil .nil) .nil))) (.node (o17 P) (.node (o28 P) (.node (o57 P) (.node (o101 P) .nil .nil) (.node (o138 P) .nil .nil)) (.node (o0 P) (.node (o1 P) .nil .nil) .nil)) (.node (o44 P) (.node (o71 P) (.node (o111 P) .nil .nil) .nil) (.node (o92 P) (.node (o0 P) .nil .nil) .nil))))) (.node (boot_o_6 P) (.node (boot_o_10 P) (.node (o0 P) (.node (o1 P) (.node (o49 P) (.node (o1 P) .nil .nil) (.node (o132 P) .nil .nil)) (.node (o76 P) (.node (o114 P) .nil .nil) .nil)) (.node (o64 P) (.node (o0 P) (.node (o0 P) .nil .nil) (.node (o144 P) .nil .nil)) (.node (o87 P) (.node (o0 P) .nil .nil) .nil))) (.node (o15 P) (.node (o26 P) (.node (o55 P) (.node (o100 P) .nil .nil) (.node (o0 P) .nil .nil)) (.node (o82 P) (.node (o119 P) .nil .nil) .nil)) (.node (o42 P) (.node (o69 P) (.node (o109 P) .nil .nil) .nil) (.node (o0 P) (.node (o1 P) .nil .nil) .nil)))) (.node (o3 P) (.node (o10 P) (.node (o23 P) (.node (o0 P) (.node (o98 P) .nil .nil) (.node (o135 P) .nil .nil)) (.node (o16 P) (.node (o116 P) .nil .nil) .nil)) (.node (o40 P) (.node (o1 P) (.node (o0 P) .nil .nil) .nil) (.node (o0 P) (.node (o125 P) .nil .nil) .nil))) (.node (o18 P) (.node (o30 P) (.node (o59 P) (.node (o103 P) .nil .nil) (.node (o140 P) .nil .nil)) (.node (o84 P) (.node (o0 P) .nil .nil) .nil)) (.node (o46 P) (.node (o73 P) (.node (o1 P) .nil .nil) .nil) (.node (o93 P) (.node (o130 P) .nil .nil) .nil)))))))
noncomputable def S7 (w : World) (os : OsState) : SharedT := ⟨tS7 w.params, 213, { }, Array.mk [.finished, .finished, .finished], ⟨0, 0, 0, 0⟩, 737, os⟩
noncomputable def o147 (P : Params) : Obj := ⟨(.type "dict"), none, (.dict #[⟨PyData.keyHash P (Str.ofString "__name__"), (.str (Str.ofString "__name__") 165), (.str (Str.ofString "law_dm0168_06") 737)⟩, ⟨PyData.keyHash P (Str.ofString "__doc__"), (.str (Str.ofString "__doc__") 166), .none⟩, ⟨PyData.keyHash P (Str.ofString "__package__"), (.str (Str.ofString "__package__") 167), .none⟩, ⟨PyData.keyHash P (Str.ofString "__loader__"), (.str (Str.ofString "__loader__") 168), (.builtin "__main__.__loader__#opaque")⟩, ⟨PyData.keyHash P (Str.ofString "__spec__"), (.str (Str.ofString "__spec__") 169), .none⟩, ⟨PyData.keyHash P (Str.ofString "__annotations__"), (.str (Str.ofString "__annotations__") 170), (.ref 6)⟩, ⟨PyData.keyHash P (Str.ofString "__builtins__"), (.str (Str.ofString "__builtins__") 171), (.ref 4)⟩, ⟨PyData.keyHash P (Str.ofString "__file__"), (.str (Str.ofString "__file__") 173), (.str (Str.ofString "/claim/cut.py") 172)⟩, ⟨PyData.keyHash P (Str.ofString "__cached__"), (.str (Str.ofString "__cached__") 174), .none⟩, ⟨PyData.keyHash P (Str.ofString "_wall"), (.str (Str.ofString "_wall") 193), (.ref 21)⟩, ⟨PyData.keyHash P (Str.ofString "C_NONE"), (.str (Str.ofString "C_NONE") 204), (.int 0 199)⟩, ⟨PyData.keyHash P (Str.ofString "C_BACKSLASH"), (.str (Str.ofString "C_BACKSLASH") 205), (.int 1 200)⟩, ⟨PyData.keyHash P (Str.ofString "C_STRING_FIRST_LINE"), (.str (Str.ofString "C_STRING_FIRST_LINE") 206), (.int 2 201)⟩, ⟨PyData.keyHash P (Str.ofString "C_STRING_NEXT_LINES"), (.str (Str.ofString "C_STRING_NEXT_LINES") 207), (.int 3 202)⟩, ⟨PyData.keyHash P (Str.ofString "C_BRACKET"), (.str (Str.ofString "C_BRACKET") 208), (.int 4 203)⟩, ⟨PyData.keyHash P (Str.ofString "ParseMap"), (.str (Str.ofString "ParseMap") 236), (.ref 42)⟩, ⟨PyData.keyHash P (Str.ofString "trans"), (.str (Str.ofString "trans") 498), (.ref 50)⟩, ⟨PyData.keyHash P (Str.ofString "Parser"), (.str (Str.ofString "Parser") 736), (.ref 208)⟩, ⟨PyData.keyHash P (Str.ofString "_law_draw"), (.str (Str.ofString "_law_draw") 746), (.ref 219)⟩, ⟨PyData.keyHash P (Str.ofString "_law_lines"), (.str (Str.ofString "_law_lines") 753), (.ref 226)⟩, ⟨PyData.keyHash P (Str.ofString "law"), (.str (Str.ofString "law") 759), (.ref 231)⟩] 21), #[]⟩
noncomputable def o148 (P : Params) : Obj := ⟨.none, none, (.fields #[(.int 1 0), (.int 0 0), (.ref 20), (.int 6 0), (.int 0 0), (.ref 31), (.int 11 0), (.int 13 0), (.ref 57), (.int 12 0), (.int 13 0), (.ref 72), (.int 13 0), (.int 13 0), (.ref 87), (.int 14 0), (.int 0 0), (.ref 106), (.int 144 0), (.int 0 0), (.ref 218), (.int 148 0), (.int 0 0), (.ref 225), (.int 154 0), (.int 0 0), (.ref 230)]), #[]⟩
noncomputable def o149 (P : Params) : Obj := ⟨(.type "tuple"), none, (.seq #[(.str (Str.ofString "pool") 742), (.str (Str.ofString "bound") 743)] 0), #[]⟩
noncomputable def o150 (P : Params) : Obj := ⟨.none, none, (.func ⟨(Str.ofString "_law_draw"), (Str.ofString "_law_draw"), (argsS (nthS pw.main.body 10)), (.stmts (bodyS (nthS pw.main.body 10))), (scopeS (nthS pw.main.body 10)), 0, [], .none, .none, .none, .none, none, .none, .none, 0⟩), #[]⟩
noncomputable def o151 (P : Params) : Obj := ⟨(.type "code"), none, (.fields #[(.str (Str.ofString "_law_draw") 739), (.str (Str.ofString "_law_draw") 740), (.str (Str.ofString "/claim/cut.py") 741), (.int 144 0), (.int 2 0), (.int 0 0), (.int 0 0), (.int 3 0), (.ref 213), (.bool true), (.int 181 0), (.ref 214), .none, (.ref 215), (.ref 216), (.ref 217), (.int 744 0), (.int 144 0), (.str (Str.ofString "/claim/cut.py") 745)]), #[]⟩
noncomputable def o152 (P : Params) : Obj := ⟨(.type "function"), none, (.func ⟨(Str.ofString "_law_draw"), (Str.ofString "_law_draw"), (argsS (nthS pw.main.body 10)), (.stmts (bodyS (nthS pw.main.body 10))), (scopeS (nthS pw.main.body 10)), 3, [], .none, .none, .none, (.str (Str.ofString "law_dm0168_06") 737), none, (.ref 218), .none, 0⟩), #[]⟩
noncomputable def o153 (P : Params) : Obj := ⟨(.type "tuple"), none, (.seq #[(.str (Str.ofString "lines") 750)] 0), #[]⟩
noncomputable def o154 (P : Params) : Obj := ⟨.none, none, (.func ⟨(Str.ofString "_law_lines"), (Str.ofString "_law_lines"), (argsS (nthS pw.main.body 11)), (.stmts (bodyS (nthS pw.main.body 11))), (scopeS (nthS pw.main.body 11)), 0, [], .none, .none, .none, .none, none, .none, .none, 0⟩), #[]⟩
noncomputable def o155 (P : Params) : Obj := ⟨(.type "code"), none, (.fields #[(.str (Str.ofString "_law_lines") 747), (.str (Str.ofString "_law_lines") 748), (.str (Str.ofString "/claim/cut.py") 749), (.int 148 0), (.int 0 0), (.int 0 0), (.int 0 0), (.int 3 0), (.ref 220), (.bool true), (.int 181 0), (.ref 221), .none, (.ref 222), (.ref 223), (.ref 224), (.int 751 0), (.int 148 0), (.str (Str.ofString "/claim/cut.py") 752)]), #[]⟩
noncomputable def o156 (P : Params) : Obj := ⟨(.type "function"), none, (.func ⟨(Str.ofString "_law_lines"), (Str.ofString "_law_lines"), (argsS (nthS pw.main.body 11)), (.stmts (bodyS (nthS pw.main.body 11))), (scopeS (nthS pw.main.body 11)), 3, [], .none, .none, .none, (.str (Str.ofString "law_dm0168_06") 737), none, (.ref 225), .none, 0⟩), #[]⟩
noncomputable def o157 (P : Params) : Obj := ⟨.none, none, (.func ⟨(Str.ofString "law"), (Str.ofString "law"), (argsS (nthS pw.main.body 12)), (.stmts (bodyS (nthS pw.main.body 12))), (scopeS (nthS pw.main.body 12)), 0, [], .none, .none, .none, .none, none, .none, .none, 0⟩), #[]⟩
noncomputable def o158 (P : Params) : Obj := ⟨(.type "code"), none, (.fields #[(.str (Str.ofString "law") 754), (.str (Str.ofString "law") 755), (.str (Str.ofString "/claim/cut.py") 756), (.int 154 0), (.int 1 0), (.int 0 0), (.int 0 0), (.int 3 0), (.ref 227), (.bool true), (.int 181 0), (.ref 228), .none, .none, .none, (.ref 229), (.int 757 0), (.int 154 0), (.str (Str.ofString "/claim/cut.py") 758)]), #[]⟩
noncomputable def o159 (P : Params) : Obj := ⟨(.type "function"), none, (.func ⟨(Str.ofString "law"), (Str.ofString "law"), (argsS (nthS pw.main.body 12)), (.stmts (bodyS (nthS pw.main.body 12))), (scopeS (nthS pw.main.body 12)), 3, [], .none, .none, .none, (.str (Str.ofString "law_dm0168_06") 737), none, (.ref 230), .none, 0⟩), #[]⟩
noncomputable def tS8 (P : Params) : BT := (.node (boot_o_0 P) (.node (boot_o_1 P) (.node (o147 P) (.node (boot_o_7 P) (.node (o0 P) (.node (o19 P) (.node (o47 P) (.node (o94 P) .nil .nil) (.node (o131 P) .nil .nil)) (.node (o74 P) (.node (o112 P) .nil .nil) (.node (o0 P) .nil .nil))) (.node (o32 P) (.node (o60 P) (.node (o0 P) .nil .nil) (.node (o141 P) .nil .nil)) (.node (o0 P) (.node (o121 P) .nil .nil) .nil))) (.node (o11 P) (.node (o24 P) (.node (o1 P) (.node (o99 P) .nil .nil) (.node (o0 P) .nil .nil)) (.node (o80 P) (.node (o0 P) .nil .nil) (.node (o159 P) .nil .nil))) (.node (o0 P) (.node (o66 P) (.node (o1 P) .nil .nil) (.node (o149 P) .nil .nil)) (.node (o89 P) (.node (o126 P) .nil .nil) .nil)))) (.node (o0 P) (.node (o7 P) (.node (o21 P) (.node (o0 P) (.node (o96 P) .nil .nil) (.node (o0 P) .nil .nil)) (.node (o0 P) (.node (o115 P) .nil .nil) (.node (o0 P) .nil .nil))) (.node (o36 P) (.node (o62 P) (.node (o105 P) .nil .nil) (.node (o145 P) .nil .nil)) (.node (o0 P) (.node (o1 P) .nil .nil) .nil))) (.node (o16 P) (.node (o27 P) (.node (o56 P) (.node (o0 P) .nil .nil) (.node (o137 P) .nil .nil)) (.node (o83 P) (.node (o0 P) .nil .nil) .nil)) (.node (o43 P) (.node (o70 P) (.node (o110 P) .nil .nil) (.node (o152 P) .nil .nil)) (.node (o1 P) (.node (o128 P) .nil .nil) .nil))))) (.node (boot_o_5 P) (.node (boot_o_9 P) (.node (o6 P) (.node (o0 P) (.node (o0 P) (.node (o0 P) .nil .nil) (.node (o1 P) .nil .nil)) (.node (o0 P) (.node (o113 P) .nil .nil) (.node (o155 P) .nil .nil))) (.node (o34 P) (.node (o61 P) (.node (o104 P) .nil .nil) (.node (o143 P) .nil .nil)) (.node (o86 P) (.node (o123 P) .nil .nil) .nil))) (.node (o12 P) (.node (o25 P) (.node (o54 P) (.node (o1 P) .nil .nil) (.node (o136 P) .nil .nil)) (.node (o81 P) (.node (o118 P) .nil .nil) .nil)) (.node (o41 P) (.node (o68 P) (.node (o0 P) .nil .nil) (.node (o150 P) .nil .nil)) (.node (o91 P) (.node (o0 P) .nil .nil) .nil)))) (.node (o2 P) (.node (o9 P) (.node (o22 P) (.node (o40 P) (.node (o97 P) .nil .nil) (.node (o134 P) .nil .nil)) (.node (o0 P) (.node (o1 P) .nil .nil) (.node (o157 P) .nil .nil))) (.node (o37 P) (.node (o0 P) (.node (o107 P) .nil .nil) (.node (o0 P) .nil .nil)) (.node (o88 P) (.node (o0 P) .nil .nil) .nil))) (.node (o0 P) (.node (o29 P) (.node (o58 P) (.node (o102 P) .nil .nil) (.node (o139 P) .nil .nil)) (.node (o1 P) (.node (o120 P) .nil .nil) .nil)) (.node (o45 P) (.node (o72 P) (.node (o0 P) .nil .nil) (.node (o1 P) .nil .nil)) (.node (o0 P) (.node (o129 P) .nil .nil) .nil)))))) (.node (boot_o_2 P) (.node (boot_o_4 P) (.node (boot_o_8 P) (.node (o1 P) (.node (o20 P) (.node (o48 P) (.node (o95 P) .nil .nil) (.node (o0 P) .nil .nil)) (.node (o75 P) (.node (o0 P) .nil .nil) (.node (o154 P) .nil .nil))) (.node (o33 P) (.node (o0 P) (.node (o1 P) .nil .nil) (.node (o142 P) .nil .nil)) (.node (o85 P) (.node (o122 P) .nil .nil) .nil))) (.node (o0 P) (.node (o0 P) (.node (o53 P) (.node (o0 P) .nil .nil) (.node (o1 P) .nil .nil)) (.node (o0 P) (.node (o117 P) .nil .nil) .nil)) (.node (o1 P) (.node (o67 P) (.node (o108 P) .nil .nil) (.node (o0 P) .nil .nil)) (.node (o90 P) (.node (o127 P) .nil .nil) .nil)))) (.node (o148 P) (.node (o8 P) (.node (o0 P) (.node (o50 P) (.node (o0 P) .nil .nil) (.node (o133 P) .nil .nil)) (.node (o77 P) (.node (o0 P) .nil .nil) (.node (o1 P) .nil .nil))) (.node (o0 P) (.node (o65 P) (.node (o106 P) .nil .nil) (.node (o146 P) .nil .nil)) (.node (o1 P) (.node (o124 P) .nil .nil) .nil))) (.node (o17 P) (.node (o28 P) (.node (o57 P) (.node (o101 P) .nil .nil) (.node (o138 P) .nil .nil)) (.node (o0 P) (.node (o1 P) .nil .nil) .nil)) (.node (o44 P) (.node (o71 P) (.node (o111 P) .nil .nil) (.node (o0 P) .nil .nil)) (.node (o92 P) (.node (o0 P) .nil .nil) .nil))))) (.node (boot_o_6 P) (.node (boot_o_10 P) (.node (o0 P) (.node (o1 P) (.node (o49 P) (.node (o1 P) .nil .nil) (.node (o132 P) .nil .nil)) (.node (o76 P) (.node (o114 P) .nil .nil) (.node (o156 P) .nil .nil))) (.node (o64 P) (.node (o0 P) (.node (o0 P) .nil .nil) (.node (o144 P) .nil .nil)) (.node (o87 P) (.node (o0 P) .nil .nil) .nil))) (.node (o15 P) (.node (o26 P) (.node (o55 P) (.node (o100 P) .nil .nil) (.node (o0 P) .nil .nil)) (.node (o82 P) (.node (o119 P) .nil .nil) .nil)) (.node (o42 P) (.node (o69 P) (.node (o109 P) .nil .nil) (.node (o151 P) .nil .nil)) (.node (o0 P) (.node (o1 P) .nil .nil) .nil)))) (.node (o3 P) (.node (o10 P) (.node (o23 P) (.node (o0 P) (.node (o98 P) .nil .nil) (.node (o135 P) .nil .nil)) (.node (o16 P) (.node (o116 P) .nil .nil) (.node (o158 P) .nil .nil))) (.node (o40 P) (.node (o1 P) (.node (o0 P) .nil .nil) (.node (o1 P) .nil .nil)) (.node (o0 P) (.node (o125 P) .nil .nil) .nil))) (.node (o18 P) (.node (o30 P) (.node (o59 P) (.node (o103 P) .nil .nil) (.node (o140 P) .nil .nil)) (.node (o84 P) (.node (o0 P) .nil .nil) .nil)) (.node (o46 P) (.node (o73 P) (.node (o1 P) .nil .nil) (.node (o153 P) .nil .nil)) (.node (o93 P) (.node (o130 P) .nil .nil) .nil)))))))
noncomputable def S8 (w : World) (os : OsState) : SharedT := ⟨tS8 w.params, 232, { }, Array.mk [.finished, .finished, .finished], ⟨0, 0, 0, 0⟩, 760, os⟩
noncomputable def o160 (P : Params) : Obj := ⟨(.ref 42), (some 49), (.dict #[] 0), #[]⟩
noncomputable def o161 (P : Params) : Obj := ⟨(.type "range_iterator"), none, (.fields #[(.int 0 0), (.int 128 0), (.int 1 0)]), #[]⟩
noncomputable def tS3m0 (P : Params) : BT := (.node (boot_o_0 P) (.node (boot_o_1 P) (.node (o13 P) (.node (boot_o_7 P) (.node (o0 P) (.node (o19 P) .nil .nil) (.node (o32 P) .nil .nil)) (.node (o11 P) (.node (o24 P) .nil .nil) .nil)) (.node (o0 P) (.node (o7 P) (.node (o21 P) .nil .nil) (.node (o161 P) .nil .nil)) (.node (o16 P) (.node (o27 P) .nil .nil) .nil))) (.node (boot_o_5 P) (.node (boot_o_9 P) (.node (o6 P) (.node (o0 P) .nil .nil) (.node (o34 P) .nil .nil)) (.node (o12 P) (.node (o25 P) .nil .nil) .nil)) (.node (o2 P) (.node (o9 P) (.node (o22 P) .nil .nil) .nil) (.node (o0 P) (.node (o29 P) .nil .nil) .nil)))) (.node (boot_o_2 P) (.node (boot_o_4 P) (.node (boot_o_8 P) (.node (o1 P) (.node (o20 P) .nil .nil) (.node (o33 P) .nil .nil)) (.node (o0 P) (.node (o0 P) .nil .nil) .nil)) (.node (o14 P) (.node (o8 P) (.node (o0 P) .nil .nil) .nil) (.node (o17 P) (.node (o28 P) .nil .nil) .nil))) (.node (boot_o_6 P) (.node (boot_o_10 P) (.node (o0 P) (.node (o1 P) .nil .nil) (.node (o160 P) .nil .nil)) (.node (o15 P) (.node (o26 P) .nil .nil) .nil)) (.node (o3 P) (.node (o10 P) (.node (o23 P) .nil .nil) .nil) (.node (o18 P) (.node (o30 P) .nil .nil) .nil)))))
noncomputable def S3m0 (w : World) (os : OsState) : SharedT := ⟨tS3m0 w.params, 52, { }, Array.mk [], ⟨0, 0, 0, 0⟩, 242, os⟩
noncomputable def o162 (P : Params) : Obj := ⟨(.ref 42), (some 49), (.dict #[⟨0, (.int 0 242), (.int 120 241)⟩, ⟨1, (.int 1 244), (.int 120 241)⟩, ⟨2, (.int 2 246), (.int 120 241)⟩, ⟨3, (.int 3 248), (.int 120 241)⟩, ⟨4, (.int 4 250), (.int 120 241)⟩, ⟨5, (.int 5 252), (.int 120 241)⟩, ⟨6, (.int 6 254), (.int 120 241)⟩, ⟨7, (.int 7 256), (.int 120 241)⟩, ⟨8, (.int 8 258), (.int 120 241)⟩, ⟨9, (.int 9 260), (.int 120 241)⟩, ⟨10, (.int 10 262), (.int 120 241)⟩, ⟨11, (.int 11 264), (.int 120 241)⟩, ⟨12, (.int 12 266), (.int 120 241)⟩, ⟨13, (.int 13 268), (.int 120 241)⟩, ⟨14, (.int 14 270), (.int 120 241)⟩, ⟨15, (.int 15 272), (.int 120 241)⟩, ⟨16, (.int 16 274), (.int 120 241)⟩, ⟨17, (.int 17 276), (.int 120 241)⟩, ⟨18, (.int 18 278), (.int 120 241)⟩, ⟨19, (.int 19 280), (.int 120 241)⟩, ⟨20, (.int 20 282), (.int 120 241)⟩, ⟨21, (.int 21 284), (.int 120 241)⟩, ⟨22, (.int 22 286), (.int 120 241)⟩, ⟨23, (.int 23 288), (.int 120 241)⟩, ⟨24, (.int 24 290), (.int 120 241)⟩] 25), #[]⟩
noncomputable def o163 (P : Params) : Obj := ⟨(.type "range_iterator"), none, (.fields #[(.int 25 0), (.int 103 0), (.int 1 0)]), #[]⟩
noncomputable def tS3m1 (P : Params) : BT := (.node (boot_o_0 P) (.node (boot_o_1 P) (.node (o13 P) (.node (boot_o_7 P) (.node (o0 P) (.node (o19 P) .nil .nil) (.node (o32 P) .nil .nil)) (.node (o11 P) (.node (o24 P) .nil .nil) .nil)) (.node (o0 P) (.node (o7 P) (.node (o21 P) .nil .nil) (.node (o163 P) .nil .nil)) (.node (o16 P) (.node (o27 P) .nil .nil) .nil))) (.node (boot_o_5 P) (.node (boot_o_9 P) (.node (o6 P) (.node (o0 P) .nil .nil) (.node (o34 P) .nil .nil)) (.node (o12 P) (.node (o25 P) .nil .nil) .nil)) (.node (o2 P) (.node (o9 P) (.node (o22 P) .nil .nil) .nil) (.node (o0 P) (.node (o29 P) .nil .nil) .nil)))) (.node (boot_o_2 P) (.node (boot_o_4 P) (.node (boot_o_8 P) (.node (o1 P) (.node (o20 P) .nil .nil) (.node (o33 P) .nil .nil)) (.node (o0 P) (.node (o0 P) .nil .nil) .nil)) (.node (o14 P) (.node (o8 P) (.node (o0 P) .nil .nil) .nil) (.node (o17 P) (.node (o28 P) .nil .nil) .nil))) (.node (boot_o_6 P) (.node (boot_o_10 P) (.node (o0 P) (.node (o1 P) .nil .nil) (.node (o162 P) .nil .nil)) (.node (o15 P) (.node (o26 P) .nil .nil) .nil)) (.node (o3 P) (.node (o10 P) (.node (o23 P) .nil .nil) .nil) (.node (o18 P) (.node (o30 P) .nil .nil) .nil)))))
noncomputable def S3m1 (w : World) (os : OsState) : SharedT := ⟨tS3m1 w.params, 52, { }, Array.mk [], ⟨0, 0, 0, 0⟩, 292, os⟩
noncomputable def o164 (P : Params) : Obj := ⟨(.ref 42), (some 49), (.dict #[⟨0, (.int 0 242), (.int 120 241)⟩, ⟨1, (.int 1 244), (.int 120 241)⟩, ⟨2, (.int 2 246), (.int 120 241)⟩, ⟨3, (.int 3 248), (.int 120 241)⟩, ⟨4, (.int 4 250), (.int 120 241)⟩, ⟨5, (.int 5 252), (.int 120 241)⟩, ⟨6, (.int 6 254), (.int 120 241)⟩, ⟨7, (.int 7 256), (.int 120 241)⟩, ⟨8, (.int 8 258), (.int 120 241)⟩, ⟨9, (.int 9 260), (.int 120 241)⟩, ⟨10, (.int 10 262), (.int 120 241)⟩, ⟨11, (.int 11 264), (.int 120 241)⟩, ⟨12, (.int 12 266), (.int 120 241)⟩, ⟨13, (.int 13 268), (.int 120 241)⟩, ⟨14, (.int 14 270), (.int 120 241)⟩, ⟨15, (.int 15 272), (.int 120 241)⟩, ⟨16, (.int 16 274), (.int 120 241)⟩, ⟨17, (.int 17 276), (.int 120 241)⟩, ⟨18, (.int 18 278), (.int 120 241)⟩, ⟨19, (.int 19 280), (.int 120 241)⟩, ⟨20, (.int 20 282), (.int 120 241)⟩, ⟨21, (.int 21 284), (.int 120 241)⟩, ⟨22, (.int 22 286), (.int 120 241)⟩, ⟨23, (.int 23 288), (.int 120 241)⟩, ⟨24, (.int 24 290), (.int 120 241)⟩, ⟨25, (.int 25 292), (.int 120 241)⟩, ⟨26, (.int 26 294), (.int 120 241)⟩, ⟨27, (.int 27 296), (.int 120 241)⟩, ⟨28, (.int 28 298), (.int 120 241)⟩, ⟨29, (.int 29 300), (.int 120 241)⟩, ⟨30, (.int 30 302), (.int 120 241)⟩, ⟨31, (.int 31 304), (.int 120 241)⟩, ⟨32, (.int 32 306), (.int 120 241)⟩, ⟨33, (.int 33 308), (.int 120 241)⟩, ⟨34, (.int 34 310), (.int 120 241)⟩, ⟨35, (.int 35 312), (.int 120 241)⟩, ⟨36, (.int 36 314), (.int 120 241)⟩, ⟨37, (.int 37 316), (.int 120 241)⟩, ⟨38, (.int 38 318), (.int 120 241)⟩, ⟨39, (.int 39 320), (.int 120 241)⟩, ⟨40, (.int 40 322), (.int 120 241)⟩, ⟨41, (.int 41 324), (.int 120 241)⟩, ⟨42, (.int 42 326), (.int 120 241)⟩, ⟨43, (.int 43 328), (.int 120 241)⟩, ⟨44, (.int 44 330), (.int 120 241)⟩, ⟨45, (.int 45 332), (.int 120 241)⟩, ⟨46, (.int 46 334), (.int 120 241)⟩, ⟨47, (.int 47 336), (.int 120 241)⟩, ⟨48, (.int 48 338), (.int 120 241)⟩, ⟨49, (.int 49 340), (.int 120 241)⟩] 50), #[]⟩
noncomputable def o165 (P : Params) : Obj := ⟨(.type "range_iterator"), none, (.fields #[(.int 50 0), (.int 78 0), (.int 1 0)]), #[]⟩
noncomputable def tS3m2 (P : Params) : BT := (.node (boot_o_0 P) (.node (boot_o_1 P) (.node (o13 P) (.node (boot_o_7 P) (.node (o0 P) (.node (o19 P) .nil .nil) (.node (o32 P) .nil .nil)) (.node (o11 P) (.node (o24 P) .nil .nil) .nil)) (.node (o0 P) (.node (o7 P) (.node (o21 P) .nil .nil) (.node (o165 P) .nil .nil)) (.node (o16 P) (.node (o27 P) .nil .nil) .nil))) (.node (boot_o_5 P) (.node (boot_o_9 P) (.node (o6 P) (.node (o0 P) .nil .nil) (.node (o34 P) .nil .nil)) (.node (o12 P) (.node (o25 P) .nil .nil) .nil)) (.node (o2 P) (.node (o9 P) (.node (o22 P) .nil .nil) .nil) (.node (o0 P) (.node (o29 P) .nil .nil) .nil)))) (.node (boot_o_2 P) (.node (boot_o_4 P) (.node (boot_o_8 P) (.node (o1 P) (.node (o20 P) .nil .nil) (.node (o33 P) .nil .nil)) (.node (o0 P) (.node (o0 P) .nil .nil) .nil)) (.node (o14 P) (.node (o8 P) (.node (o0 P) .nil .nil) .nil) (.node (o17 P) (.node (o28 P) .nil .nil) .nil))) (.node (boot_o_6 P) (.node (boot_o_10 P) (.node (o0 P) (.node (o1 P) .nil .nil) (.node (o164 P) .nil .nil)) (.node (o15 P) (.node (o26 P) .nil .nil) .nil)) (.node (o3 P) (.node (o10 P) (.node (o23 P) .nil .nil) .nil) (.node (o18 P) (.node (o30 P) .nil .nil) .nil)))))
noncomputable def S3m2 (w : World) (os : OsState) : SharedT := ⟨tS3m2 w.params, 52, { }, Array.mk [], ⟨0, 0, 0, 0⟩, 342, os⟩
noncomputable def o166 (P : Params) : Obj := ⟨(.ref 42), (some 49), (.dict #[⟨0, (.int 0 242), (.int 120 241)⟩, ⟨1, (.int 1 244), (.int 120 241)⟩, ⟨2, (.int 2 246), (.int 120 241)⟩, ⟨3, (.int 3 248), (.int 120 241)⟩, ⟨4, (.int 4 250), (.int 120 241)⟩, ⟨5, (.int 5 252), (.int 120 241)⟩, ⟨6, (.int 6 254), (.int 120 241)⟩, ⟨7, (.int 7 256), (.int 120 241)⟩, ⟨8, (.int 8 258), (.int 120 241)⟩, ⟨9, (.int 9 260), (.int 120 241)⟩, ⟨10, (.int 10 262), (.int 120 241)⟩, ⟨11, (.int 11 264), (.int 120 241)⟩, ⟨12, (.int 12 266), (.int 120 241)⟩, ⟨13, (.int 13 268), (.int 120 241)⟩, ⟨14, (.int 14 270), (.int 120 241)⟩, ⟨15, (.int 15 272), (.int 120 241)⟩, ⟨16, (.int 16 274), (.int 120 241)⟩, ⟨17, (.int 17 276), (.int 120 241)⟩, ⟨18, (.int 18 278), (.int 120 241)⟩, ⟨19, (.int 19 280), (.int 120 241)⟩, ⟨20, (.int 20 282), (.int 120 241)⟩, ⟨21, (.int 21 284), (.int 120 241)⟩, ⟨22, (.int 22 286), (.int 120 241)⟩, ⟨23, (.int 23 288), (.int 120 241)⟩, ⟨24, (.int 24 290), (.int 120 241)⟩, ⟨25, (.int 25 292), (.int 120 241)⟩, ⟨26, (.int 26 294), (.int 120 241)⟩, ⟨27, (.int 27 296), (.int 120 241)⟩, ⟨28, (.int 28 298), (.int 120 241)⟩, ⟨29, (.int 29 300), (.int 120 241)⟩, ⟨30, (.int 30 302), (.int 120 241)⟩, ⟨31, (.int 31 304), (.int 120 241)⟩, ⟨32, (.int 32 306), (.int 120 241)⟩, ⟨33, (.int 33 308), (.int 120 241)⟩, ⟨34, (.int 34 310), (.int 120 241)⟩, ⟨35, (.int 35 312), (.int 120 241)⟩, ⟨36, (.int 36 314), (.int 120 241)⟩, ⟨37, (.int 37 316), (.int 120 241)⟩, ⟨38, (.int 38 318), (.int 120 241)⟩, ⟨39, (.int 39 320), (.int 120 241)⟩, ⟨40, (.int 40 322), (.int 120 241)⟩, ⟨41, (.int 41 324), (.int 120 241)⟩, ⟨42, (.int 42 326), (.int 120 241)⟩, ⟨43, (.int 43 328), (.int 120 241)⟩, ⟨44, (.int 44 330), (.int 120 241)⟩, ⟨45, (.int 45 332), (.int 120 241)⟩, ⟨46, (.int 46 334), (.int 120 241)⟩, ⟨47, (.int 47 336), (.int 120 241)⟩, ⟨48, (.int 48 338), (.int 120 241)⟩, ⟨49, (.int 49 340), (.int 120 241)⟩, ⟨50, (.int 50 342), (.int 120 241)⟩, ⟨51, (.int 51 344), (.int 120 241)⟩, ⟨52, (.int 52 346), (.int 120 241)⟩, ⟨53, (.int 53 348), (.int 120 241)⟩, ⟨54, (.int 54 350), (.int 120 241)⟩, ⟨55, (.int 55 352), (.int 120 241)⟩, ⟨56, (.int 56 354), (.int 120 241)⟩, ⟨57, (.int 57 356), (.int 120 241)⟩, ⟨58, (.int 58 358), (.int 120 241)⟩, ⟨59, (.int 59 360), (.int 120 241)⟩, ⟨60, (.int 60 362), (.int 120 241)⟩, ⟨61, (.int 61 364), (.int 120 241)⟩, ⟨62, (.int 62 366), (.int 120 241)⟩, ⟨63, (.int 63 368), (.int 120 241)⟩, ⟨64, (.int 64 370), (.int 120 241)⟩, ⟨65, (.int 65 372), (.int 120 241)⟩, ⟨66, (.int 66 374), (.int 120 241)⟩, ⟨67, (.int 67 376), (.int 120 241)⟩, ⟨68, (.int 68 378), (.int 120 241)⟩, ⟨69, (.int 69 380), (.int 120 241)⟩, ⟨70, (.int 70 382), (.int 120 241)⟩, ⟨71, (.int 71 384), (.int 120 241)⟩, ⟨72, (.int 72 386), (.int 120 241)⟩, ⟨73, (.int 73 388), (.int 120 241)⟩, ⟨74, (.int 74 390), (.int 120 241)⟩] 75), #[]⟩
noncomputable def o167 (P : Params) : Obj := ⟨(.type "range_iterator"), none, (.fields #[(.int 75 0), (.int 53 0), (.int 1 0)]), #[]⟩
noncomputable def tS3m3 (P : Params) : BT := (.node (boot_o_0 P) (.node (boot_o_1 P) (.node (o13 P) (.node (boot_o_7 P) (.node (o0 P) (.node (o19 P) .nil .nil) (.node (o32 P) .nil .nil)) (.node (o11 P) (.node (o24 P) .nil .nil) .nil)) (.node (o0 P) (.node (o7 P) (.node (o21 P) .nil .nil) (.node (o167 P) .nil .nil)) (.node (o16 P) (.node (o27 P) .nil .nil) .nil))) (.node (boot_o_5 P) (.node (boot_o_9 P) (.node (o6 P) (.node (o0 P) .nil .nil) (.node (o34 P) .nil .nil)) (.node (o12 P) (.node (o25 P) .nil .nil) .nil)) (.node (o2 P) (.node (o9 P) (.node (o22 P) .nil .nil) .nil) (.node (o0 P) (.node (o29 P) .nil .nil) .nil)))) (.node (boot_o_2 P) (.node (boot_o_4 P) (.node (boot_o_8 P) (.node (o1 P) (.node (o20 P) .nil .nil) (.node (o33 P) .nil .nil)) (.node (o0 P) (.node (o0 P) .nil .nil) .nil)) (.node (o14 P) (.node (o8 P) (.node (o0 P) .nil .nil) .nil) (.node (o17 P) (.node (o28 P) .nil .nil) .nil))) (.node (boot_o_6 P) (.node (boot_o_10 P) (.node (o0 P) (.node (o1 P) .nil .nil) (.node (o166 P) .nil .nil)) (.node (o15 P) (.node (o26 P) .nil .nil) .nil)) (.node (o3 P) (.node (o10 P) (.node (o23 P) .nil .nil) .nil) (.node (o18 P) (.node (o30 P) .nil .nil) .nil)))))
noncomputable def S3m3 (w : World) (os : OsState) : SharedT := ⟨tS3m3 w.params, 52, { }, Array.mk [], ⟨0, 0, 0, 0⟩, 392, os⟩
noncomputable def o168 (P : Params) : Obj := ⟨(.ref 42), (some 49), (.dict #[⟨0, (.int 0 242), (.int 120 241)⟩, ⟨1, (.int 1 244), (.int 120 241)⟩, ⟨2, (.int 2 246), (.int 120 241)⟩, ⟨3, (.int 3 248), (.int 120 241)⟩, ⟨4, (.int 4 250), (.int 120 241)⟩, ⟨5, (.int 5 252), (.int 120 241)⟩, ⟨6, (.int 6 254), (.int 120 241)⟩, ⟨7, (.int 7 256), (.int 120 241)⟩, ⟨8, (.int 8 258), (.int 120 241)⟩, ⟨9, (.int 9 260), (.int 120 241)⟩, ⟨10, (.int 10 262), (.int 120 241)⟩, ⟨11, (.int 11 264), (.int 120 241)⟩, ⟨12, (.int 12 266), (.int 120 241)⟩, ⟨13, (.int 13 268), (.int 120 241)⟩, ⟨14, (.int 14 270), (.int 120 241)⟩, ⟨15, (.int 15 272), (.int 120 241)⟩, ⟨16, (.int 16 274), (.int 120 241)⟩, ⟨17, (.int 17 276), (.int 120 241)⟩, ⟨18, (.int 18 278), (.int 120 241)⟩, ⟨19, (.int 19 280), (.int 120 241)⟩, ⟨20, (.int 20 282), (.int 120 241)⟩, ⟨21, (.int 21 284), (.int 120 241)⟩, ⟨22, (.int 22 286), (.int 120 241)⟩, ⟨23, (.int 23 288), (.int 120 241)⟩, ⟨24, (.int 24 290), (.int 120 241)⟩, ⟨25, (.int 25 292), (.int 120 241)⟩, ⟨26, (.int 26 294), (.int 120 241)⟩, ⟨27, (.int 27 296), (.int 120 241)⟩, ⟨28, (.int 28 298), (.int 120 241)⟩, ⟨29, (.int 29 300), (.int 120 241)⟩, ⟨30, (.int 30 302), (.int 120 241)⟩, ⟨31, (.int 31 304), (.int 120 241)⟩, ⟨32, (.int 32 306), (.int 120 241)⟩, ⟨33, (.int 33 308), (.int 120 241)⟩, ⟨34, (.int 34 310), (.int 120 241)⟩, ⟨35, (.int 35 312), (.int 120 241)⟩, ⟨36, (.int 36 314), (.int 120 241)⟩, ⟨37, (.int 37 316), (.int 120 241)⟩, ⟨38, (.int 38 318), (.int 120 241)⟩, ⟨39, (.int 39 320), (.int 120 241)⟩, ⟨40, (.int 40 322), (.int 120 241)⟩, ⟨41, (.int 41 324), (.int 120 241)⟩, ⟨42, (.int 42 326), (.int 120 241)⟩, ⟨43, (.int 43 328), (.int 120 241)⟩, ⟨44, (.int 44 330), (.int 120 241)⟩, ⟨45, (.int 45 332), (.int 120 241)⟩, ⟨46, (.int 46 334), (.int 120 241)⟩, ⟨47, (.int 47 336), (.int 120 241)⟩, ⟨48, (.int 48 338), (.int 120 241)⟩, ⟨49, (.int 49 340), (.int 120 241)⟩, ⟨50, (.int 50 342), (.int 120 241)⟩, ⟨51, (.int 51 344), (.int 120 241)⟩, ⟨52, (.int 52 346), (.int 120 241)⟩, ⟨53, (.int 53 348), (.int 120 241)⟩, ⟨54, (.int 54 350), (.int 120 241)⟩, ⟨55, (.int 55 352), (.int 120 241)⟩, ⟨56, (.int 56 354), (.int 120 241)⟩, ⟨57, (.int 57 356), (.int 120 241)⟩, ⟨58, (.int 58 358), (.int 120 241)⟩, ⟨59, (.int 59 360), (.int 120 241)⟩, ⟨60, (.int 60 362), (.int 120 241)⟩, ⟨61, (.int 61 364), (.int 120 241)⟩, ⟨62, (.int 62 366), (.int 120 241)⟩, ⟨63, (.int 63 368), (.int 120 241)⟩, ⟨64, (.int 64 370), (.int 120 241)⟩, ⟨65, (.int 65 372), (.int 120 241)⟩, ⟨66, (.int 66 374), (.int 120 241)⟩, ⟨67, (.int 67 376), (.int 120 241)⟩, ⟨68, (.int 68 378), (.int 120 241)⟩, ⟨69, (.int 69 380), (.int 120 241)⟩, ⟨70, (.int 70 382), (.int 120 241)⟩, ⟨71, (.int 71 384), (.int 120 241)⟩, ⟨72, (.int 72 386), (.int 120 241)⟩, ⟨73, (.int 73 388), (.int 120 241)⟩, ⟨74, (.int 74 390), (.int 120 241)⟩, ⟨75, (.int 75 392), (.int 120 241)⟩, ⟨76, (.int 76 394), (.int 120 241)⟩, ⟨77, (.int 77 396), (.int 120 241)⟩, ⟨78, (.int 78 398), (.int 120 241)⟩, ⟨79, (.int 79 400), (.int 120 241)⟩, ⟨80, (.int 80 402), (.int 120 241)⟩, ⟨81, (.int 81 404), (.int 120 241)⟩, ⟨82, (.int 82 406), (.int 120 241)⟩, ⟨83, (.int 83 408), (.int 120 241)⟩, ⟨84, (.int 84 410), (.int 120 241)⟩, ⟨85, (.int 85 412), (.int 120 241)⟩, ⟨86, (.int 86 414), (.int 120 241)⟩, ⟨87, (.int 87 416), (.int 120 241)⟩, ⟨88, (.int 88 418), (.int 120 241)⟩, ⟨89, (.int 89 420), (.int 120 241)⟩, ⟨90, (.int 90 422), (.int 120 241)⟩, ⟨91, (.int 91 424), (.int 120 241)⟩, ⟨92, (.int 92 426), (.int 120 241)⟩, ⟨93, (.int 93 428), (.int 120 241)⟩, ⟨94, (.int 94 430), (.int 120 241)⟩, ⟨95, (.int 95 432), (.int 120 241)⟩, ⟨96, (.int 96 434), (.int 120 241)⟩, ⟨97, (.int 97 436), (.int 120 241)⟩, ⟨98, (.int 98 438), (.int 120 241)⟩, ⟨99, (.int 99 440), (.int 120 241)⟩] 100), #[]⟩
noncomputable def o169 (P : Params) : Obj := ⟨(.type "range_iterator"), none, (.fields #[(.int 100 0), (.int 28 0), (.int 1 0)]), #[]⟩
noncomputable def tS3m4 (P : Params) : BT := (.node (boot_o_0 P) (.node (boot_o_1 P) (.node (o13 P) (.node (boot_o_7 P) (.node (o0 P) (.node (o19 P) .nil .nil) (.node (o32 P) .nil .nil)) (.node (o11 P) (.node (o24 P) .nil .nil) .nil)) (.node (o0 P) (.node (o7 P) (.node (o21 P) .nil .nil) (.node (o169 P) .nil .nil)) (.node (o16 P) (.node (o27 P) .nil .nil) .nil))) (.node (boot_o_5 P) (.node (boot_o_9 P) (.node (o6 P) (.node (o0 P) .nil .nil) (.node (o34 P) .nil .nil)) (.node (o12 P) (.node (o25 P) .nil .nil) .nil)) (.node (o2 P) (.node (o9 P) (.node (o22 P) .nil .nil) .nil) (.node (o0 P) (.node (o29 P) .nil .nil) .nil)))) (.node (boot_o_2 P) (.node (boot_o_4 P) (.node (boot_o_8 P) (.node (o1 P) (.node (o20 P) .nil .nil) (.node (o33 P) .nil .nil)) (.node (o0 P) (.node (o0 P) .nil .nil) .nil)) (.node (o14 P) (.node (o8 P) (.node (o0 P) .nil .nil) .nil) (.node (o17 P) (.node (o28 P) .nil .nil) .nil))) (.node (boot_o_6 P) (.node (boot_o_10 P) (.node (o0 P) (.node (o1 P) .nil .nil) (.node (o168 P) .nil .nil)) (.node (o15 P) (.node (o26 P) .nil .nil) .nil)) (.node (o3 P) (.node (o10 P) (.node (o23 P) .nil .nil) .nil) (.node (o18 P) (.node (o30 P) .nil .nil) .nil)))))
noncomputable def S3m4 (w : World) (os : OsState) : SharedT := ⟨tS3m4 w.params, 52, { }, Array.mk [], ⟨0, 0, 0, 0⟩, 442, os⟩
noncomputable def hSf (P : Params) : Heap := ⟨Array.mk [boot_o_0 P, boot_o_1 P, boot_o_2 P, o147 P, boot_o_4 P, boot_o_5 P, boot_o_6 P, boot_o_7 P, boot_o_8 P, boot_o_9 P, boot_o_10 P, o0 P, o148 P, o2 P, o3 P, o0 P, o1 P, o6 P, o0 P, o7 P, o8 P, o9 P, o10 P, o11 P, o0 P, o12 P, o15 P, o16 P, o17 P, o0 P, o18 P, o19 P, o20 P, o0 P, o1 P, o21 P, o0 P, o22 P, o23 P, o24 P, o0 P, o25 P, o26 P, o27 P, o28 P, o29 P, o30 P, o32 P, o33 P, o34 P, o64 P, o36 P, o0 P, o37 P, o40 P, o0 P, o1 P, o41 P, o42 P, o43 P, o44 P, o45 P, o46 P, o47 P, o48 P, o0 P, o49 P, o0 P, o50 P, o40 P, o0 P, o1 P, o53 P, o54 P, o55 P, o56 P, o57 P, o58 P, o59 P, o60 P, o0 P, o61 P, o0 P, o62 P, o65 P, o0 P, o1 P, o66 P, o67 P, o68 P, o69 P, o70 P, o71 P, o72 P, o73 P, o74 P, o75 P, o0 P, o76 P, o0 P, o77 P, o0 P, o16 P, o80 P, o0 P, o81 P, o82 P, o83 P, o0 P, o1 P, o84 P, o0 P, o85 P, o86 P, o87 P, o0 P, o1 P, o88 P, o0 P, o89 P, o90 P, o91 P, o0 P, o1 P, o92 P, o0 P, o93 P, o94 P, o95 P, o0 P, o1 P, o96 P, o0 P, o97 P, o98 P, o99 P, o0 P, o1 P, o100 P, o0 P, o101 P, o102 P, o103 P, o0 P, o1 P, o104 P, o0 P, o105 P, o106 P, o107 P, o0 P, o1 P, o108 P, o0 P, o109 P, o110 P, o111 P, o0 P, o1 P, o112 P, o0 P, o113 P, o114 P, o115 P, o0 P, o1 P, o116 P, o0 P, o117 P, o118 P, o119 P, o0 P, o1 P, o120 P, o0 P, o121 P, o122 P, o123 P, o0 P, o1 P, o124 P, o0 P, o125 P, o126 P, o127 P, o0 P, o1 P, o128 P, o0 P, o129 P, o130 P, o131 P, o0 P, o1 P, o132 P, o0 P, o133 P, o134 P, o135 P, o0 P, o1 P, o136 P, o0 P, o137 P, o138 P, o139 P, o140 P, o141 P, o142 P, o143 P, o144 P, o145 P, o146 P, o0 P, o1 P, o149 P, o0 P, o150 P, o151 P, o152 P, o0 P, o1 P, o153 P, o0 P, o154 P, o155 P, o156 P, o0 P, o1 P, o157 P, o158 P, o159 P], { }⟩
noncomputable def Sf (w : World) (os : OsState) : Shared := ⟨hSf w.params, Array.mk [.finished, .finished, .finished], ⟨0, 0, 0, 0⟩, 760, os⟩
noncomputable def bE : List Stmt := behindTheImports pw
noncomputable def env : Env := { scope := pw.main.scope, locals := mainNs, globals := mainNs, cells := [], code := (.ref 13), frame := some 14 }
noncomputable def cE : Code := .body bE env
noncomputable def B : List Frame := [topFrame ⟨0, 0, 0, 0⟩]
noncomputable def an : Option Value := (some (.ref 6))
noncomputable def Z (w : World) (os : OsState) : Shared := ⟨boot_heap w.params, Array.mk [], boot_drawn, boot_toks, os⟩
theorem pre (w : World) (os : OsState) : topGo treeTable pw w 11 an 12 (Z w os) (topStub pw) = some (Sa w os, ⟨denote treeTable cE, cE, ⟨0, 0, 0, 0⟩, B⟩) := by
  rewrite [PySem.W.Fast.te15667345088766844465, PySem.W.Fast.te14364793385576792824, PySem.W.Fast.te11892475500146522536]; kernel_rfl
theorem blk (w : World) (os : OsState) : segRun treeTable pw w 11 an 1 1 (Sa w os) (blockOf bE env cE ⟨0, 0, 0, 0⟩ B) = some (.next, (S0 w os).abs, cE, ⟨0, 0, 0, 0⟩) := by
  rewrite [PySem.W.Fast.te14374325043358763698, PySem.W.Fast.te14364793385576792824]; kernel_rfl
noncomputable def st1 : List Stmt := [nthS pw.main.body 0, nthS pw.main.body 1, nthS pw.main.body 2]
noncomputable def Q1 (w : World) : Prop := ∀ os, segRunT treeTable pw w 11 an 1 190 (S0 w os) (piecesOf st1 env cE ⟨0, 0, 0, 0⟩ B) = some (.next, S1 w os, cE, ⟨5, 63, 5, 72⟩)
theorem q1f (w : World) : Q1 ((World.withFollow w "special-get-raises" false)) := by
  unfold Q1; rewrite [PySem.W.Fast.te10110043849684766642, PySem.W.Fast.te14364793385576792824]; intro os; kernel_rfl
theorem q1t (w : World) : Q1 ((World.withFollow w "special-get-raises" true)) := by
  unfold Q1; rewrite [PySem.W.Fast.te10110043849684766642, PySem.W.Fast.te14364793385576792824]; intro os; kernel_rfl
theorem p1 (w : World) : Q1 w := (byRow2 "special-get-raises" (P := fun w => Q1 (w)) q1f q1t) w
theorem r1 (w : World) (os : OsState) : segRun treeTable pw w 11 an 1 190 (S0 w os).abs (piecesOf st1 env cE ⟨0, 0, 0, 0⟩ B) = some (.next, (S1 w os).abs, cE, ⟨5, 63, 5, 72⟩) := segRun_of (p1 w os)
noncomputable def st2 : List Stmt := [nthS pw.main.body 3]
noncomputable def Q2 (w : World) : Prop := ∀ os, segRunT treeTable pw w 11 an 1 226 (S1 w os) (piecesOf st2 env cE ⟨5, 63, 5, 72⟩ B) = some (.next, S2 w os, cE, ⟨6, 0, 9, 18⟩)
theorem q2 (w : World) : Q2 (w) := by
  unfold Q2; rewrite [PySem.W.Fast.te10110043849684766642, PySem.W.Fast.te14364793385576792824]; intro os; kernel_rfl
theorem p2 (w : World) : Q2 w := q2 w
theorem r2 (w : World) (os : OsState) : segRun treeTable pw w 11 an 1 226 (S1 w os).abs (piecesOf st2 env cE ⟨5, 63, 5, 72⟩ B) = some (.next, (S2 w os).abs, cE, ⟨6, 0, 9, 18⟩) := segRun_of (p2 w os)
noncomputable def st3 : List Stmt := [nthS pw.main.body 4]
noncomputable def th3 (w : World) (os : OsState) : Thread := match PySem.W.Fast.tw10295753902157049106 PySem.W.Fast.tw14364793385576792824 pw w 11 an 1 113 (S2 w os) (piecesOf st3 env cE ⟨6, 0, 9, 18⟩ B) with
  | some r => r.2
  | none => ⟨doneF .next, cE, ⟨6, 0, 9, 18⟩, B⟩
noncomputable def Q3m0 (w : World) : Prop := ∀ os, segGoT treeTable pw w 11 an 1 113 (S2 w os) (piecesOf st3 env cE ⟨6, 0, 9, 18⟩ B) = some (S3m0 w os, th3 w os)
theorem q3m0f (w : World) : Q3m0 ((World.withFollow w "special-get-raises" false)) := by
  unfold Q3m0; rewrite [PySem.W.Fast.te10295753902157049106, PySem.W.Fast.te14364793385576792824]; intro os; kernel_rfl
theorem q3m0t (w : World) : Q3m0 ((World.withFollow w "special-get-raises" true)) := by
  unfold Q3m0; rewrite [PySem.W.Fast.te10295753902157049106, PySem.W.Fast.te14364793385576792824]; intro os; kernel_rfl
theorem p3m0 (w : World) : Q3m0 w := (byRow2 "special-get-raises" (P := fun w => Q3m0 (w)) q3m0f q3m0t) w
noncomputable def Q3m1 (w : World) : Prop := ∀ os, segGoT treeTable pw w 11 an 1 1000 (S3m0 w os) (th3 w os) = some (S3m1 w os, th3 w os)
theorem q3m1f (w : World) : Q3m1 ((World.withFollow w "special-get-raises" false)) := by
  unfold Q3m1; rewrite [PySem.W.Fast.te10295753902157049106, PySem.W.Fast.te14364793385576792824]; intro os; kernel_rfl
theorem q3m1t (w : World) : Q3m1 ((World.withFollow w "special-get-raises" true)) := by
  unfold Q3m1; rewrite [PySem.W.Fast.te10295753902157049106, PySem.W.Fast.te14364793385576792824]; intro os; kernel_rfl
theorem p3m1 (w : World) : Q3m1 w := (byRow2 "special-get-raises" (P := fun w => Q3m1 (w)) q3m1f q3m1t) w
noncomputable def Q3m2 (w : World) : Prop := ∀ os, segGoT treeTable pw w 11 an 1 1000 (S3m1 w os) (th3 w os) = some (S3m2 w os, th3 w os)
theorem q3m2f (w : World) : Q3m2 ((World.withFollow w "special-get-raises" false)) := by
  unfold Q3m2; rewrite [PySem.W.Fast.te10295753902157049106, PySem.W.Fast.te14364793385576792824]; intro os; kernel_rfl
theorem q3m2t (w : World) : Q3m2 ((World.withFollow w "special-get-raises" true)) := by
  unfold Q3m2; rewrite [PySem.W.Fast.te10295753902157049106, PySem.W.Fast.te14364793385576792824]; intro os; kernel_rfl
theorem p3m2 (w : World) : Q3m2 w := (byRow2 "special-get-raises" (P := fun w => Q3m2 (w)) q3m2f q3m2t) w
noncomputable def Q3m3 (w : World) : Prop := ∀ os, segGoT treeTable pw w 11 an 1 1000 (S3m2 w os) (th3 w os) = some (S3m3 w os, th3 w os)
theorem q3m3f (w : World) : Q3m3 ((World.withFollow w "special-get-raises" false)) := by
  unfold Q3m3; rewrite [PySem.W.Fast.te10295753902157049106, PySem.W.Fast.te14364793385576792824]; intro os; kernel_rfl
theorem q3m3t (w : World) : Q3m3 ((World.withFollow w "special-get-raises" true)) := by
  unfold Q3m3; rewrite [PySem.W.Fast.te10295753902157049106, PySem.W.Fast.te14364793385576792824]; intro os; kernel_rfl
theorem p3m3 (w : World) : Q3m3 w := (byRow2 "special-get-raises" (P := fun w => Q3m3 (w)) q3m3f q3m3t) w
noncomputable def Q3m4 (w : World) : Prop := ∀ os, segGoT treeTable pw w 11 an 1 1000 (S3m3 w os) (th3 w os) = some (S3m4 w os, th3 w os)
theorem q3m4f (w : World) : Q3m4 ((World.withFollow w "special-get-raises" false)) := by
  unfold Q3m4; rewrite [PySem.W.Fast.te10295753902157049106, PySem.W.Fast.te14364793385576792824]; intro os; kernel_rfl
theorem q3m4t (w : World) : Q3m4 ((World.withFollow w "special-get-raises" true)) := by
  unfold Q3m4; rewrite [PySem.W.Fast.te10295753902157049106, PySem.W.Fast.te14364793385576792824]; intro os; kernel_rfl
theorem p3m4 (w : World) : Q3m4 w := (byRow2 "special-get-raises" (P := fun w => Q3m4 (w)) q3m4f q3m4t) w
noncomputable def Q3 (w : World) : Prop := ∀ os, segRunT treeTable pw w 11 an 1 1143 (S3m4 w os) (th3 w os) = some (.next, S3 w os, cE, ⟨10, 0, 10, 5⟩)
theorem q3f (w : World) : Q3 ((World.withFollow w "special-get-raises" false)) := by
  unfold Q3; rewrite [PySem.W.Fast.te10110043849684766642, PySem.W.Fast.te14364793385576792824]; intro os; kernel_rfl
theorem q3t (w : World) : Q3 ((World.withFollow w "special-get-raises" true)) := by
  unfold Q3; rewrite [PySem.W.Fast.te10110043849684766642, PySem.W.Fast.te14364793385576792824]; intro os; kernel_rfl
theorem p3 (w : World) : Q3 w := (byRow2 "special-get-raises" (P := fun w => Q3 (w)) q3f q3t) w
theorem r3 (w : World) (os : OsState) : segRun treeTable pw w 11 an 1 (113 + (1000 + (1000 + (1000 + (1000 + 1143))))) (S2 w os).abs (piecesOf st3 env cE ⟨6, 0, 9, 18⟩ B) = some (.next, (S3 w os).abs, cE, ⟨10, 0, 10, 5⟩) := seg_go (segGo_of (p3m0 w os)) (seg_go (segGo_of (p3m1 w os)) (seg_go (segGo_of (p3m2 w os)) (seg_go (segGo_of (p3m3 w os)) (seg_go (segGo_of (p3m4 w os)) (segRun_of (p3 w os))))))
noncomputable def st4 : List Stmt := [nthS pw.main.body 5]
noncomputable def Q4 (w : World) : Prop := ∀ os, segRunT treeTable pw w 11 an 1 367 (S3 w os) (piecesOf st4 env cE ⟨10, 0, 10, 5⟩ B) = some (.next, S4 w os, cE, ⟨11, 0, 11, 49⟩)
theorem q4ff (w : World) : Q4 ((World.withFollow (World.withFollow w "special-get-raises" false) "comprehension-iter-twice" false)) := by
  unfold Q4; rewrite [PySem.W.Fast.te10110043849684766642, PySem.W.Fast.te14364793385576792824]; intro os; kernel_rfl
theorem q4ft (w : World) : Q4 ((World.withFollow (World.withFollow w "special-get-raises" true) "comprehension-iter-twice" false)) := by
  unfold Q4; rewrite [PySem.W.Fast.te10110043849684766642, PySem.W.Fast.te14364793385576792824]; intro os; kernel_rfl
theorem q4tf (w : World) : Q4 ((World.withFollow (World.withFollow w "special-get-raises" false) "comprehension-iter-twice" true)) := by
  unfold Q4; rewrite [PySem.W.Fast.te10110043849684766642, PySem.W.Fast.te14364793385576792824]; intro os; kernel_rfl
theorem q4tt (w : World) : Q4 ((World.withFollow (World.withFollow w "special-get-raises" true) "comprehension-iter-twice" true)) := by
  unfold Q4; rewrite [PySem.W.Fast.te10110043849684766642, PySem.W.Fast.te14364793385576792824]; intro os; kernel_rfl
theorem p4 (w : World) : Q4 w := (byRow2 "comprehension-iter-twice" (P := fun w => Q4 (w)) (byRow2 "special-get-raises" (P := fun w => Q4 ((World.withFollow w "comprehension-iter-twice" false))) q4ff q4ft) (byRow2 "special-get-raises" (P := fun w => Q4 ((World.withFollow w "comprehension-iter-twice" true))) q4tf q4tt)) w
theorem r4 (w : World) (os : OsState) : segRun treeTable pw w 11 an 1 367 (S3 w os).abs (piecesOf st4 env cE ⟨10, 0, 10, 5⟩ B) = some (.next, (S4 w os).abs, cE, ⟨11, 0, 11, 49⟩) := segRun_of (p4 w os)
noncomputable def st5 : List Stmt := [nthS pw.main.body 6]
noncomputable def Q5 (w : World) : Prop := ∀ os, segRunT treeTable pw w 11 an 1 367 (S4 w os) (piecesOf st5 env cE ⟨11, 0, 11, 49⟩ B) = some (.next, S5 w os, cE, ⟨12, 0, 12, 49⟩)
theorem q5ff (w : World) : Q5 ((World.withFollow (World.withFollow w "special-get-raises" false) "comprehension-iter-twice" false)) := by
  unfold Q5; rewrite [PySem.W.Fast.te10110043849684766642, PySem.W.Fast.te14364793385576792824]; intro os; kernel_rfl
theorem q5ft (w : World) : Q5 ((World.withFollow (World.withFollow w "special-get-raises" true) "comprehension-iter-twice" false)) := by
  unfold Q5; rewrite [PySem.W.Fast.te10110043849684766642, PySem.W.Fast.te14364793385576792824]; intro os; kernel_rfl
theorem q5tf (w : World) : Q5 ((World.withFollow (World.withFollow w "special-get-raises" false) "comprehension-iter-twice" true)) := by
  unfold Q5; rewrite [PySem.W.Fast.te10110043849684766642, PySem.W.Fast.te14364793385576792824]; intro os; kernel_rfl
theorem q5tt (w : World) : Q5 ((World.withFollow (World.withFollow w "special-get-raises" true) "comprehension-iter-twice" true)) := by
  unfold Q5; rewrite [PySem.W.Fast.te10110043849684766642, PySem.W.Fast.te14364793385576792824]; intro os; kernel_rfl
theorem p5 (w : World) : Q5 w := (byRow2 "comprehension-iter-twice" (P := fun w => Q5 (w)) (byRow2 "special-get-raises" (P := fun w => Q5 ((World.withFollow w "comprehension-iter-twice" false))) q5ff q5ft) (byRow2 "special-get-raises" (P := fun w => Q5 ((World.withFollow w "comprehension-iter-twice" true))) q5tf q5tt)) w
theorem r5 (w : World) (os : OsState) : segRun treeTable pw w 11 an 1 367 (S4 w os).abs (piecesOf st5 env cE ⟨11, 0, 11, 49⟩ B) = some (.next, (S5 w os).abs, cE, ⟨12, 0, 12, 49⟩) := segRun_of (p5 w os)
noncomputable def st6 : List Stmt := [nthS pw.main.body 7]
noncomputable def Q6 (w : World) : Prop := ∀ os, segRunT treeTable pw w 11 an 1 522 (S5 w os) (piecesOf st6 env cE ⟨12, 0, 12, 49⟩ B) = some (.next, S6 w os, cE, ⟨13, 0, 13, 52⟩)
theorem q6ff (w : World) : Q6 ((World.withFollow (World.withFollow w "special-get-raises" false) "comprehension-iter-twice" false)) := by
  unfold Q6; rewrite [PySem.W.Fast.te10110043849684766642, PySem.W.Fast.te14364793385576792824]; intro os; kernel_rfl
theorem q6ft (w : World) : Q6 ((World.withFollow (World.withFollow w "special-get-raises" true) "comprehension-iter-twice" false)) := by
  unfold Q6; rewrite [PySem.W.Fast.te10110043849684766642, PySem.W.Fast.te14364793385576792824]; intro os; kernel_rfl
theorem q6tf (w : World) : Q6 ((World.withFollow (World.withFollow w "special-get-raises" false) "comprehension-iter-twice" true)) := by
  unfold Q6; rewrite [PySem.W.Fast.te10110043849684766642, PySem.W.Fast.te14364793385576792824]; intro os; kernel_rfl
theorem q6tt (w : World) : Q6 ((World.withFollow (World.withFollow w "special-get-raises" true) "comprehension-iter-twice" true)) := by
  unfold Q6; rewrite [PySem.W.Fast.te10110043849684766642, PySem.W.Fast.te14364793385576792824]; intro os; kernel_rfl
theorem p6 (w : World) : Q6 w := (byRow2 "comprehension-iter-twice" (P := fun w => Q6 (w)) (byRow2 "special-get-raises" (P := fun w => Q6 ((World.withFollow w "comprehension-iter-twice" false))) q6ff q6ft) (byRow2 "special-get-raises" (P := fun w => Q6 ((World.withFollow w "comprehension-iter-twice" true))) q6tf q6tt)) w
theorem r6 (w : World) (os : OsState) : segRun treeTable pw w 11 an 1 522 (S5 w os).abs (piecesOf st6 env cE ⟨12, 0, 12, 49⟩ B) = some (.next, (S6 w os).abs, cE, ⟨13, 0, 13, 52⟩) := segRun_of (p6 w os)
noncomputable def st7 : List Stmt := [nthS pw.main.body 8]
noncomputable def Q7 (w : World) : Prop := ∀ os, segRunT treeTable pw w 11 an 1 647 (S6 w os) (piecesOf st7 env cE ⟨13, 0, 13, 52⟩ B) = some (.next, S7 w os, cE, ⟨14, 0, 142, 16⟩)
theorem q7 (w : World) : Q7 (w) := by
  unfold Q7; rewrite [PySem.W.Fast.te10110043849684766642, PySem.W.Fast.te14364793385576792824]; intro os; kernel_rfl
theorem p7 (w : World) : Q7 w := q7 w
theorem r7 (w : World) (os : OsState) : segRun treeTable pw w 11 an 1 647 (S6 w os).abs (piecesOf st7 env cE ⟨13, 0, 13, 52⟩ B) = some (.next, (S7 w os).abs, cE, ⟨14, 0, 142, 16⟩) := segRun_of (p7 w os)
noncomputable def st8 : List Stmt := [nthS pw.main.body 9, nthS pw.main.body 10, nthS pw.main.body 11, nthS pw.main.body 12]
noncomputable def Q8 (w : World) : Prop := ∀ os, segRunT treeTable pw w 11 an 1 95 (S7 w os) (piecesOf st8 env cE ⟨14, 0, 142, 16⟩ B) = some (.next, S8 w os, cE, ⟨154, 0, 191, 15⟩)
theorem q8 (w : World) : Q8 (w) := by
  unfold Q8; rewrite [PySem.W.Fast.te10110043849684766642, PySem.W.Fast.te14364793385576792824]; intro os; kernel_rfl
theorem p8 (w : World) : Q8 w := q8 w
theorem r8 (w : World) (os : OsState) : segRun treeTable pw w 11 an 1 95 (S7 w os).abs (piecesOf st8 env cE ⟨14, 0, 142, 16⟩ B) = some (.next, (S8 w os).abs, cE, ⟨154, 0, 191, 15⟩) := segRun_of (p8 w os)
theorem fin (w : World) (os : OsState) : topRun treeTable pw w 11 an 2 (S8 w os).abs (restOf [] env cE ⟨154, 0, 191, 15⟩ B) = some (Sf w os) := by
  rewrite [PySem.W.Fast.te14082659384304107361, PySem.W.Fast.te14364793385576792824]; kernel_rfl
theorem k8 (w : World) (os : OsState) : topRun treeTable pw w 11 an (95 + 2) (S7 w os).abs (restOf (st8 ++ []) env cE ⟨14, 0, 142, 16⟩ B) = some (Sf w os) := piece_app (r8 w os) (fin w os)
theorem k7 (w : World) (os : OsState) : topRun treeTable pw w 11 an (647 + (95 + 2)) (S6 w os).abs (restOf (st7 ++ (st8 ++ [])) env cE ⟨13, 0, 13, 52⟩ B) = some (Sf w os) := piece_app (r7 w os) (k8 w os)
theorem k6 (w : World) (os : OsState) : topRun treeTable pw w 11 an (522 + (647 + (95 + 2))) (S5 w os).abs (restOf (st6 ++ (st7 ++ (st8 ++ []))) env cE ⟨12, 0, 12, 49⟩ B) = some (Sf w os) := piece_app (r6 w os) (k7 w os)
theorem k5 (w : World) (os : OsState) : topRun treeTable pw w 11 an (367 + (522 + (647 + (95 + 2)))) (S4 w os).abs (restOf (st5 ++ (st6 ++ (st7 ++ (st8 ++ [])))) env cE ⟨11, 0, 11, 49⟩ B) = some (Sf w os) := piece_app (r5 w os) (k6 w os)
theorem k4 (w : World) (os : OsState) : topRun treeTable pw w 11 an (367 + (367 + (522 + (647 + (95 + 2))))) (S3 w os).abs (restOf (st4 ++ (st5 ++ (st6 ++ (st7 ++ (st8 ++ []))))) env cE ⟨10, 0, 10, 5⟩ B) = some (Sf w os) := piece_app (r4 w os) (k5 w os)
theorem k3 (w : World) (os : OsState) : topRun treeTable pw w 11 an ((113 + (1000 + (1000 + (1000 + (1000 + 1143))))) + (367 + (367 + (522 + (647 + (95 + 2)))))) (S2 w os).abs (restOf (st3 ++ (st4 ++ (st5 ++ (st6 ++ (st7 ++ (st8 ++ [])))))) env cE ⟨6, 0, 9, 18⟩ B) = some (Sf w os) := piece_app (r3 w os) (k4 w os)
theorem k2 (w : World) (os : OsState) : topRun treeTable pw w 11 an (226 + ((113 + (1000 + (1000 + (1000 + (1000 + 1143))))) + (367 + (367 + (522 + (647 + (95 + 2))))))) (S1 w os).abs (restOf (st2 ++ (st3 ++ (st4 ++ (st5 ++ (st6 ++ (st7 ++ (st8 ++ []))))))) env cE ⟨5, 63, 5, 72⟩ B) = some (Sf w os) := piece_app (r2 w os) (k3 w os)
theorem k1 (w : World) (os : OsState) : topRun treeTable pw w 11 an (190 + (226 + ((113 + (1000 + (1000 + (1000 + (1000 + 1143))))) + (367 + (367 + (522 + (647 + (95 + 2)))))))) (S0 w os).abs (restOf (st1 ++ (st2 ++ (st3 ++ (st4 ++ (st5 ++ (st6 ++ (st7 ++ (st8 ++ [])))))))) env cE ⟨0, 0, 0, 0⟩ B) = some (Sf w os) := piece_app (r1 w os) (k2 w os)
theorem all : (st1 ++ (st2 ++ (st3 ++ (st4 ++ (st5 ++ (st6 ++ (st7 ++ (st8 ++ [])))))))) = bE := by kernel_rfl
theorem kb (w : World) (os : OsState) : topRun treeTable pw w 11 an (1 + (190 + (226 + ((113 + (1000 + (1000 + (1000 + (1000 + 1143))))) + (367 + (367 + (522 + (647 + (95 + 2))))))))) (Sa w os) ⟨denote treeTable cE, cE, ⟨0, 0, 0, 0⟩, B⟩ = some (Sf w os) := piece_block (b := bE) (env := env) (blk w os) (by rw [← all]; exact k1 w os)
theorem run (w : World) (os : OsState) : topRun treeTable pw w 11 an (12 + (1 + (190 + (226 + ((113 + (1000 + (1000 + (1000 + (1000 + 1143))))) + (367 + (367 + (522 + (647 + (95 + 2)))))))))) (Z w os) (topStub pw) = some (Sf w os) := go_top (pre w os) (kb w os)
theorem opn : opening pw = plainProg pw.main.scope.names := by kernel_rfl
theorem fence (s : Shared) : fenceModules? pw s = some s := by kernel_rfl
noncomputable def view : Program := { pw with main := { pw.main with body := [nthS pw.main.body 0, nthS pw.main.body 2, nthS pw.main.body 3, nthS pw.main.body 4, nthS pw.main.body 8, nthS pw.main.body 10, nthS pw.main.body 11, nthS pw.main.body 12] } }
noncomputable def loose : List PySem.Str := [Str.ofString "C_NONE", Str.ofString "C_BACKSLASH", Str.ofString "C_STRING_FIRST_LINE", Str.ofString "C_STRING_NEXT_LINES", Str.ofString "C_BRACKET", Str.ofString "trans"]
noncomputable def lv : List (PySem.Str × WData) := [(Str.ofString "C_NONE", .int 0), (Str.ofString "C_BACKSLASH", .int 1), (Str.ofString "C_STRING_FIRST_LINE", .int 2), (Str.ofString "C_STRING_NEXT_LINES", .int 3), (Str.ofString "C_BRACKET", .int 4)]
noncomputable def K (P : Params) : Frag := [(2, boot_o_2 P), (3, o147 P), (15, o0 P), (17, o6 P), (18, o0 P), (20, o8 P), (21, o9 P), (26, o15 P), (33, o0 P), (35, o21 P), (36, o0 P), (38, o23 P), (39, o24 P), (40, o0 P), (41, o25 P), (42, o26 P), (43, o27 P), (44, o28 P), (49, o34 P), (50, o64 P), (108, o0 P), (110, o84 P), (111, o0 P), (113, o86 P), (114, o87 P), (115, o0 P), (117, o88 P), (118, o0 P), (120, o90 P), (121, o91 P), (122, o0 P), (124, o92 P), (125, o0 P), (127, o94 P), (128, o95 P), (129, o0 P), (131, o96 P), (132, o0 P), (134, o98 P), (135, o99 P), (136, o0 P), (138, o100 P), (139, o0 P), (141, o102 P), (142, o103 P), (143, o0 P), (145, o104 P), (146, o0 P), (148, o106 P), (149, o107 P), (150, o0 P), (152, o108 P), (153, o0 P), (155, o110 P), (156, o111 P), (157, o0 P), (159, o112 P), (160, o0 P), (162, o114 P), (163, o115 P), (164, o0 P), (166, o116 P), (167, o0 P), (169, o118 P), (170, o119 P), (171, o0 P), (173, o120 P), (174, o0 P), (176, o122 P), (177, o123 P), (178, o0 P), (180, o124 P), (181, o0 P), (183, o126 P), (184, o127 P), (185, o0 P), (187, o128 P), (188, o0 P), (190, o130 P), (191, o131 P), (192, o0 P), (194, o132 P), (195, o0 P), (197, o134 P), (198, o135 P), (199, o0 P), (201, o136 P), (202, o0 P), (204, o138 P), (205, o139 P), (206, o140 P), (207, o141 P), (208, o142 P), (209, o143 P), (210, o144 P), (213, o0 P), (215, o149 P), (216, o0 P), (218, o151 P), (219, o152 P), (220, o0 P), (222, o153 P), (223, o0 P), (225, o155 P), (226, o156 P), (227, o0 P), (230, o158 P), (231, o159 P)]
noncomputable def as_ : List Addr := [2, 3, 15, 17, 18, 20, 21, 26, 33, 35, 36, 38, 39, 40, 41, 42, 43, 44, 49, 50, 108, 110, 111, 113, 114, 115, 117, 118, 120, 121, 122, 124, 125, 127, 128, 129, 131, 132, 134, 135, 136, 138, 139, 141, 142, 143, 145, 146, 148, 149, 150, 152, 153, 155, 156, 157, 159, 160, 162, 163, 164, 166, 167, 169, 170, 171, 173, 174, 176, 177, 178, 180, 181, 183, 184, 185, 187, 188, 190, 191, 192, 194, 195, 197, 198, 199, 201, 202, 204, 205, 206, 207, 208, 209, 210, 213, 215, 216, 218, 219, 220, 222, 223, 225, 226, 227, 230, 231]
noncomputable def H : Hook := kHook K as_ (fun _ => by kernel_rfl)
noncomputable def Xt (s : Shared) : Bool := xlAt view lv s && recOk (RowW.records (OpenRow.toRowW (OpenLaw.row PySem.Challenge.rw_dm0168_06))) s
end Mine.H6
end
section
set_option Elab.async false
set_option linter.unusedVariables false
set_option maxRecDepth 100000
set_option maxHeartbeats 8000000
namespace Mine.H6
open PySem PySem.W PySem.Calls PyProof.Rows
theorem size (w : World) : ((boot_heap w.params).isNs mainGlobals && (Array.mk [] : Array GenState).size == 0, (boot_heap w.params).objs.size, (boot_heap w.params).nsMap mainGlobals "__annotations__") = (true, 11, an) := by kernel_rfl
theorem lk1 (w : World) (os : OsState) : (staticsOk (importedModules pw.main.body) (boot_heap w.params) (hSf w.params) && namesBound pw (hSf w.params) && gensDone (Sf w os) && laidKept (boot_heap w.params) (hSf w.params)) = true := by kernel_rfl
theorem lk3 (w : World) (os : OsState) : H.obs (Sf w os) = H.val w := by kernel_rfl
theorem lk2 (w : World) (os : OsState) : openSeen view loose (importedModules pw.main.body) Xt false (Sf w os) = openGood view loose := by
  unfold openSeen openGood
  refine looks_pair ?_ (looks_pair ?_ (looks_pair ?_ (looks_pair ?_ (looks_pair ?_ (looks_pair ?_ (looks_pair ?_ (looks_pair ?_ ?_)))))))
  · kernel_rfl
  · kernel_rfl
  · kernel_rfl
  · kernel_rfl
  · kernel_rfl
  · kernel_rfl
  · kernel_rfl
  · kernel_rfl
  · kernel_rfl
theorem hl : LeftO pw view loose Xt H.obs H.val 15450 false :=
  LeftO.of_pieces (H₀ := boot_heap) (H₁ := hSf) (gs₀ := Array.mk []) (gs₁ := Array.mk [.finished, .finished, .finished]) (d₀ := boot_drawn) (d₁ := ⟨0, 0, 0, 0⟩) (k₀ := boot_toks) (k₁ := 760)
    (boot_open opn rfl fence) size run rfl (fun w => funext fun os => looks_pair (lk1 w os) (looks_pair (lk2 w os) (lk3 w os)))
end Mine.H6
end
section
namespace Mine

/- the ways of the reader: plain, behind a backslash and a line end, behind a backslash, in a remark,
behind one quote, behind two, in a short string, there behind a backslash, in a long string (k closing
quotes seen), there behind a backslash; d the quote, f the line on which the string begins -/
inductive Md where
  | N | Nb | E | C
  | Q1 (d : Bool) (f : Nat) | Q2 (d : Bool) (f : Nat)
  | S1 (d : Bool) (f : Nat) | S1e (d : Bool) (f : Nat)
  | S3 (d : Bool) (k f : Nat) | S3e (d : Bool) (f : Nat)
  deriving DecidableEq

structure St where
  md : Md
  lv : Nat
  ln : Nat
  gd : List Nat
  deriving DecidableEq

/- the quote -/
noncomputable def qc (d : Bool) : Nat := if d then 34 else 39

noncomputable def nl (s : St) : St := ⟨.N, s.lv, s.ln + 1, if s.lv = 0 then s.gd ++ [s.ln + 1] else s.gd⟩

noncomputable def stepN (s : St) (c : Nat) : St :=
  if c = 10 then nl s
  else if c = 40 then { s with md := .N, lv := s.lv + 1 }
  else if c = 41 then { s with md := .N, lv := s.lv - 1 }
  else if c = 34 then { s with md := .Q1 true s.ln }
  else if c = 39 then { s with md := .Q1 false s.ln }
  else if c = 35 then { s with md := .C }
  else if c = 92 then { s with md := .E }
  else { s with md := .N }

noncomputable def stepS (s : St) (d : Bool) (f c : Nat) : St :=
  if c = qc d then { s with md := .N }
  else if c = 10 then nl s
  else if c = 92 then { s with md := .S1e d f }
  else { s with md := .S1 d f }

noncomputable def step (s : St) (c : Nat) : St :=
  match s.md with
  | .N => stepN s c
  | .Nb => stepN s c
  | .E => if c = 10 then { s with md := .Nb, ln := s.ln + 1 } else { s with md := .N }
  | .C => if c = 10 then nl s else s
  | .Q1 d f => if c = qc d then { s with md := .Q2 d f } else stepS s d f c
  | .Q2 d f => if c = qc d then { s with md := .S3 d 0 f } else stepN s c
  | .S1 d f => stepS s d f c
  | .S1e d f => if c = 10 then { s with md := .S1 d f, ln := s.ln + 1 } else { s with md := .S1 d f }
  | .S3 d k f =>
    if c = qc d then (if k = 2 then { s with md := .N } else { s with md := .S3 d (k + 1) f })
    else if c = 10 then { s with md := .S3 d 0 f, ln := s.ln + 1 }
    else if c = 92 then { s with md := .S3e d f }
    else { s with md := .S3 d 0 f }
  | .S3e d f => if c = 10 then { s with md := .S3 d 0 f, ln := s.ln + 1 } else { s with md := .S3 d 0 f }

noncomputable def scan (s : St) (l : List Nat) : St := l.foldl step s
noncomputable def st0 : St := ⟨.N, 0, 0, [0]⟩

/- what a sign is to the reader -/
noncomputable def tr (c : Nat) : Nat :=
  if c = 40 ∨ c = 123 ∨ c = 91 then 40 else if c = 41 ∨ c = 125 ∨ c = 93 then 41
  else if c = 34 ∨ c = 39 ∨ c = 92 ∨ c = 10 ∨ c = 35 then c else 120

theorem scan_nil (s : St) : scan s [] = s := rfl
theorem scan_cons (s : St) (c : Nat) (l : List Nat) : scan s (c :: l) = scan (step s c) l := rfl
theorem scan_append (s : St) (a b : List Nat) : scan s (a ++ b) = scan (scan s a) b := List.foldl_append ..

/- one sign that says nothing is as good as two -/
theorem step_xx (s : St) : step (step s 120) 120 = step s 120 := by
  obtain ⟨md, lv, ln, gd⟩ := s
  cases md with
  | N => rfl
  | Nb => rfl
  | E => rfl
  | C => rfl
  | Q1 d f => cases d <;> rfl
  | Q2 d f => cases d <;> rfl
  | S1 d f => cases d <;> rfl
  | S1e d f => cases d <;> rfl
  | S3 d k f => cases d <;> rfl
  | S3e d f => cases d <;> rfl

theorem scan_x (s : St) (k : Nat) : scan s (List.replicate (k + 1) 120) = step s 120 := by
  induction k generalizing s with
  | zero => rfl
  | succ k ih => rw [List.replicate_succ, scan_cons, ih, step_xx]

/- the same but for the mark of a line end behind a backslash -/
noncomputable def un (s : St) : St := match s.md with | .Nb => { s with md := .N } | _ => s
theorem step_un (s : St) (c : Nat) : step (un s) c = step s c := by
  obtain ⟨md, lv, ln, gd⟩ := s
  cases md <;> rfl
theorem scan_un (s : St) (c : Nat) (l : List Nat) : scan (un s) (c :: l) = scan s (c :: l) := by
  rw [scan_cons, scan_cons, step_un]
theorem step_nx (s : St) : step (step s 10) 120 = un (step s 10) := by
  obtain ⟨md, lv, ln, gd⟩ := s
  cases md with
  | N => rfl
  | Nb => rfl
  | E => rfl
  | C => rfl
  | Q1 d f => cases d <;> rfl
  | Q2 d f => cases d <;> rfl
  | S1 d f => cases d <;> rfl
  | S1e d f => cases d <;> rfl
  | S3 d k f => cases d <;> rfl
  | S3e d f => cases d <;> rfl
theorem scan_nx (s : St) (c : Nat) (l : List Nat) : scan s (10 :: 120 :: c :: l) = scan s (10 :: c :: l) := by
  rw [scan_cons, scan_cons, step_nx, scan_un, ← scan_cons]
end Mine
end
section
namespace Mine
open PySem PySem.Builtin.Str

noncomputable abbrev sg (x : Str) : List Nat := x.cps.toList
theorem sg_append (a b : Str) : sg (a ++ b) = sg a ++ sg b := by
  show (a.cps ++ b.cps).toList = _
  simp [sg]

theorem replace_parts (x y z : Str) (hy : y.length ≠ 0) : ∃ parts : List Str, Str.join y parts = x ∧ Txt.replace x y z = Str.join z parts := by
  unfold Txt.replace
  have e : (y.length == 0 && z.length == 0) = false := by simp [hy]
  rw [e, Bool.or_false]
  by_cases h : (occurrences x y 0 x.length (x.length + 1)).isEmpty = true
  · rw [if_pos h]; exact ⟨[x], rfl, rfl⟩
  · rw [if_neg h]
    refine ⟨partsBetween x (occurrences x y 0 x.length (x.length + 1)) y.length, ?_, StrLaws.glued_eq_join _ _⟩
    obtain ⟨f, h⟩ := StrLaws.occ_chain x y (x.length + 1)
    rw [StrLaws.partsBetween_eq, StrLaws.join_partsFrom x y _ 0 f h, StrLaws.sub_whole]

theorem join_cons2 (y a b : Str) (r : List Str) : sg (Str.join y (a :: b :: r)) = sg a ++ (sg y ++ sg (Str.join y (b :: r))) := by
  show sg (a ++ y ++ Str.join y (b :: r)) = _
  rw [sg_append, sg_append, List.append_assoc]

theorem scan_join {y z : Str} (h : ∀ s, scan s (sg y) = scan s (sg z)) : ∀ (parts : List Str) (s : St), scan s (sg (Str.join y parts)) = scan s (sg (Str.join z parts))
  | [], _ => rfl
  | [_], _ => rfl
  | a :: b :: r, s => by
    rw [join_cons2, join_cons2, scan_append, scan_append, scan_append, scan_append, h, scan_join h (b :: r)]

theorem scan_replace {x y z : Str} (hy : y.length ≠ 0) (h : ∀ s, scan s (sg y) = scan s (sg z)) (s : St) : scan s (sg (Txt.replace x y z)) = scan s (sg x) := by
  obtain ⟨parts, e1, e2⟩ := replace_parts x y z hy
  rw [e2, ← scan_join h, e1]

/- the line end's own: what stands behind it is never the last sign -/
theorem scan_joinN {y z : Str} (hy : sg y = [10, 120]) (hz : sg z = [10]) : ∀ (parts : List Str) (s : St), (sg (Str.join y parts)).getLast? ≠ some 120 →
    scan s (sg (Str.join y parts)) = scan s (sg (Str.join z parts))
  | [], _, _ => rfl
  | [_], _, _ => rfl
  | a :: b :: r, s, hl => by
    rw [join_cons2, hy] at hl
    rw [join_cons2, join_cons2, hy, hz, scan_append s (sg a), scan_append s (sg a)]
    have hne : sg (Str.join y (b :: r)) ≠ [] := by
      intro e; rw [e] at hl; simp at hl
    have hl' : (sg (Str.join y (b :: r))).getLast? ≠ some 120 := by
      intro e; apply hl
      rw [List.getLast?_append, List.getLast?_append, e]; rfl
    have ih := fun s => scan_joinN hy hz (b :: r) s hl'
    generalize scan s (sg a) = s
    have e10 : scan s ([10] ++ sg (Str.join z (b :: r))) = scan s (10 :: sg (Str.join y (b :: r))) := by
      show scan (step s 10) (sg (Str.join z (b :: r))) = scan (step s 10) (sg (Str.join y (b :: r)))
      exact (ih _).symm
    rw [e10]
    obtain ⟨c, l, e⟩ := List.exists_cons_of_ne_nil hne
    rw [e]
    exact scan_nx s c l

theorem last_joinN {y z : Str} (hy : sg y = [10, 120]) (hz : sg z = [10]) : ∀ (parts : List Str), (sg (Str.join y parts)).getLast? ≠ some 120 →
    (sg (Str.join z parts)).getLast? = (sg (Str.join y parts)).getLast?
  | [], _ => rfl
  | [_], _ => rfl
  | a :: b :: r, hl => by
    rw [join_cons2, hy] at hl
    rw [join_cons2, join_cons2, hy, hz]
    have hne : sg (Str.join y (b :: r)) ≠ [] := by
      intro e; rw [e] at hl; simp at hl
    have hl' : (sg (Str.join y (b :: r))).getLast? ≠ some 120 := by
      intro e; apply hl
      rw [List.getLast?_append, List.getLast?_append, e]; rfl
    have ih := last_joinN hy hz (b :: r) hl'
    have hs : (sg (Str.join y (b :: r))).getLast?.isSome = true := by
      rw [Option.isSome_iff_ne_none]; intro e; exact hne (List.getLast?_eq_none_iff.mp e)
    rw [List.getLast?_append, List.getLast?_append, List.getLast?_append, List.getLast?_append, ih]
    obtain ⟨v, hv⟩ := Option.isSome_iff_exists.mp hs
    rw [hv]; rfl

/- the last sign that is no «x» stays -/
theorem last_join {y z : Str} (hy : (sg y).getLast? = some 120) (hz : (sg z).getLast? = some 120) : ∀ (parts : List Str), (sg (Str.join z parts)).getLast? = (sg (Str.join y parts)).getLast?
  | [] => rfl
  | [_] => rfl
  | a :: b :: r => by
    rw [join_cons2, join_cons2]
    have ih := last_join hy hz (b :: r)
    rw [List.getLast?_append, List.getLast?_append, List.getLast?_append, List.getLast?_append, ih, hy, hz]

theorem mem_join (y : Str) : ∀ (parts : List Str) (c : Nat), c ∈ sg (Str.join y parts) → c ∈ sg y ∨ ∃ p ∈ parts, c ∈ sg p
  | [], c, h => by simp [Str.join, Str.empty, sg] at h
  | [a], c, h => .inr ⟨a, .head _, h⟩
  | a :: b :: r, c, h => by
    rw [join_cons2] at h
    simp only [List.mem_append] at h
    rcases h with h | h | h
    · exact .inr ⟨a, .head _, h⟩
    · exact .inl h
    · rcases mem_join y (b :: r) c h with h | ⟨p, hp, h⟩
      · exact .inl h
      · exact .inr ⟨p, .tail _ hp, h⟩
theorem join_mem (y : Str) : ∀ (parts : List Str) (p : Str), p ∈ parts → ∀ c ∈ sg p, c ∈ sg (Str.join y parts)
  | [a], p, hp, c, h => by
    have : p = a := by simpa using hp
    rw [← this]; exact h
  | a :: b :: r, p, hp, c, h => by
    rw [join_cons2]
    simp only [List.mem_append]
    rcases List.mem_cons.mp hp with rfl | hp
    · exact .inl h
    · exact .inr (.inr (join_mem y (b :: r) p hp c h))
theorem mem_replace {x y z : Str} (hy : y.length ≠ 0) {c : Nat} (h : c ∈ sg (Txt.replace x y z)) : c ∈ sg z ∨ c ∈ sg x := by
  obtain ⟨parts, e1, e2⟩ := replace_parts x y z hy
  rw [e2] at h
  rcases mem_join z parts c h with h | ⟨p, hp, h⟩
  · exact .inl h
  · rw [← e1]; exact .inr (join_mem y parts p hp c h)
theorem len_join {y z : Str} (h : (sg z).length ≤ (sg y).length) : ∀ parts : List Str, (sg (Str.join z parts)).length ≤ (sg (Str.join y parts)).length
  | [] => Nat.le_refl _
  | [_] => Nat.le_refl _
  | a :: b :: r => by
    have ih := len_join h (b :: r)
    rw [join_cons2, join_cons2]
    simp only [List.length_append]
    omega
theorem len_replace {x y z : Str} (hy : y.length ≠ 0) (h : (sg z).length ≤ (sg y).length) : (sg (Txt.replace x y z)).length ≤ (sg x).length := by
  obtain ⟨parts, e1, e2⟩ := replace_parts x y z hy
  rw [e2, ← e1]; exact len_join h parts

noncomputable def X (n : Nat) : Str := ⟨(List.replicate n 120).toArray⟩

/- the text as the reader makes it -/
noncomputable def squash (x : Str) : Str :=
  Txt.replace (Txt.replace (Txt.replace (Txt.replace (Txt.replace x (X 8) (X 1)) (X 4) (X 1)) (X 2) (X 1)) (X 2) (X 1)) ⟨#[10, 120]⟩ ⟨#[10]⟩

theorem sq1_scan (x : Str) (k : Nat) (s : St) : scan s (sg (Txt.replace x (X (k + 1)) (X 1))) = scan s (sg x) :=
  scan_replace (by simp [X, Str.length]) (fun s => by
    show scan s (List.replicate (k + 1) 120) = scan s (List.replicate (0 + 1) 120)
    rw [scan_x, scan_x]) s
theorem sq1_last (x : Str) (k : Nat) : (sg (Txt.replace x (X (k + 1)) (X 1))).getLast? = (sg x).getLast? := by
  obtain ⟨parts, e1, e2⟩ := replace_parts x (X (k + 1)) (X 1) (by simp [X, Str.length])
  rw [e2]
  conv => rhs; rw [← e1]
  exact last_join (by show (List.replicate (k + 1) 120).getLast? = _; simp [List.getLast?_replicate]) rfl parts

theorem squash_scan (x : Str) (h : (sg x).getLast? ≠ some 120) (s : St) : scan s (sg (squash x)) = scan s (sg x) := by
  unfold squash
  have h4 : (sg (Txt.replace (Txt.replace (Txt.replace (Txt.replace x (X 8) (X 1)) (X 4) (X 1)) (X 2) (X 1)) (X 2) (X 1))).getLast? = (sg x).getLast? := by
    rw [sq1_last _ 1, sq1_last _ 1, sq1_last _ 3, sq1_last _ 7]
  obtain ⟨parts, e1, e2⟩ := replace_parts (Txt.replace (Txt.replace (Txt.replace (Txt.replace x (X 8) (X 1)) (X 4) (X 1)) (X 2) (X 1)) (X 2) (X 1)) ⟨#[10, 120]⟩ ⟨#[10]⟩ (by decide)
  rw [e2, ← scan_joinN (y := ⟨#[10, 120]⟩) (z := ⟨#[10]⟩) rfl rfl parts s (by rw [e1, h4]; exact h), e1, sq1_scan _ 1, sq1_scan _ 1, sq1_scan _ 3, sq1_scan _ 7]
theorem squash_last (x : Str) (h : (sg x).getLast? ≠ some 120) : (sg (squash x)).getLast? = (sg x).getLast? := by
  unfold squash
  have h4 : (sg (Txt.replace (Txt.replace (Txt.replace (Txt.replace x (X 8) (X 1)) (X 4) (X 1)) (X 2) (X 1)) (X 2) (X 1))).getLast? = (sg x).getLast? := by
    rw [sq1_last _ 1, sq1_last _ 1, sq1_last _ 3, sq1_last _ 7]
  obtain ⟨parts, e1, e2⟩ := replace_parts (Txt.replace (Txt.replace (Txt.replace (Txt.replace x (X 8) (X 1)) (X 4) (X 1)) (X 2) (X 1)) (X 2) (X 1)) ⟨#[10, 120]⟩ ⟨#[10]⟩ (by decide)
  rw [e2, last_joinN (y := ⟨#[10, 120]⟩) (z := ⟨#[10]⟩) rfl rfl parts (by rw [e1, h4]; exact h), e1, h4]
theorem squash_mem {x : Str} {c : Nat} (h : c ∈ sg (squash x)) : c = 120 ∨ c = 10 ∨ c ∈ sg x := by
  unfold squash at h
  rcases mem_replace (by decide) h with h | h
  · exact .inr (.inl (by simpa [sg] using h))
  rcases mem_replace (by decide) h with h | h
  · exact .inl (by simpa [sg, X] using h)
  rcases mem_replace (by decide) h with h | h
  · exact .inl (by simpa [sg, X] using h)
  rcases mem_replace (by decide) h with h | h
  · exact .inl (by simpa [sg, X] using h)
  rcases mem_replace (by decide) h with h | h
  · exact .inl (by simpa [sg, X] using h)
  · exact .inr (.inr h)
end Mine
end
section
namespace Mine
open PySem PyProof.Rows

/- the goal by a name: what is taken apart then does not copy it -/
theorem fold_goal {A : Prop} (h : ∀ G : Prop, (A → G) → G) : A := h A id

/- data: values whose identity does not matter -/
inductive D where
  | none
  | bool (b : Bool)
  | int (i : Int)
  | str (x : Str)
  | tup (xs : List D)
  | lst (xs : List D)

/- built-in functions and classes that the text calls -/
inductive Bi where
  | len | isinstance | max | min | list | tuple | range | bool | int
noncomputable def Bi.val : Bi → Value
  | .len => .builtin "len"
  | .isinstance => .builtin "isinstance"
  | .max => .builtin "max"
  | .min => .builtin "min"
  | .list => .type "list"
  | .tuple => .type "tuple"
  | .range => .type "range"
  | .bool => .type "bool"
  | .int => .type "int"

/- what is known of a value: a datum, an object that the run owns (by its number), a value itself -/
inductive V where
  | d (x : D)
  | obj (k : Nat)
  | val (w : Value)
  | rng (a b : Int)
  | bi (b : Bi)

/- an object that the run owns -/
inductive O where
  | list (xs : List D)
  | ns (fs : List (Str × V))
  | inst (C : Addr) (dk : Nat)
  | bound (id : String) (k : Nat)
  | dic (hf : Str → Int) (fs : List (Str × Int))

noncomputable abbrev Cells := List (Nat × O)
noncomputable abbrev Loc := List (Str × V)

noncomputable def look {β : Type} : List (Str × β) → Str → Option β
  | [], _ => none
  | (y, v) :: r, x => if y = x then some v else look r x
noncomputable def put {β : Type} : List (Str × β) → Str → β → List (Str × β)
  | [], x, v => [(x, v)]
  | (y, u) :: r, x, v => if y = x then (y, v) :: r else (y, u) :: put r x v
theorem look_put {β : Type} (l : List (Str × β)) (x y : Str) (v : β) : look (put l x v) y = if y = x then some v else look l y := by
  induction l with
  | nil =>
    simp only [put, look]
    by_cases h : x = y
    · rw [if_pos h, if_pos h.symm]
    · rw [if_neg h, if_neg (fun e => h e.symm)]
  | cons p r ih =>
    obtain ⟨z, u⟩ := p
    simp only [put]
    by_cases hz : z = x
    · rw [if_pos hz]
      simp only [look]
      subst hz
      by_cases h : z = y
      · rw [if_pos h, if_pos h.symm]
      · rw [if_neg h, if_neg (fun e => h e.symm), if_neg h]
    · rw [if_neg hz]
      simp only [look]
      by_cases h : z = y
      · rw [if_pos h, if_pos h]
        rw [if_neg (fun e => hz (h.trans e))]
      · rw [if_neg h, if_neg h]; exact ih

/- the owned objects by number -/
noncomputable def cget : Cells → Nat → Option O
  | [], _ => none
  | (j, o) :: r, k => if j = k then some o else cget r k
noncomputable def cset : Cells → Nat → O → Cells
  | [], _, _ => []
  | (j, u) :: r, k, o => if j = k then (j, o) :: r else (j, u) :: cset r k o
noncomputable def dom (c : Cells) : List Nat := c.map (·.1)

theorem cget_mem {c : Cells} {k : Nat} {o : O} (h : cget c k = some o) : k ∈ dom c := by
  induction c with
  | nil => cases h
  | cons p r ih =>
    obtain ⟨j, u⟩ := p
    simp only [cget] at h
    by_cases e : j = k
    · subst e; exact .head _
    · rw [if_neg e] at h; exact .tail _ (ih h)
theorem mem_cget {c : Cells} {k : Nat} (h : k ∈ dom c) : ∃ o, cget c k = some o := by
  induction c with
  | nil => cases h
  | cons p r ih =>
    obtain ⟨j, u⟩ := p
    simp only [cget]
    by_cases e : j = k
    · exact ⟨u, if_pos e⟩
    · rw [if_neg e]
      rcases List.mem_cons.mp h with h | h
      · exact absurd h.symm e
      · exact ih h
theorem dom_cset (c : Cells) (k : Nat) (o : O) : dom (cset c k o) = dom c := by
  induction c with
  | nil => rfl
  | cons p r ih =>
    obtain ⟨j, u⟩ := p
    simp only [cset]
    by_cases e : j = k
    · rw [if_pos e]; rfl
    · rw [if_neg e]; show j :: dom (cset r k o) = _; rw [ih]; rfl
theorem cget_cset {c : Cells} {k : Nat} (h : k ∈ dom c) (o : O) (j : Nat) : cget (cset c k o) j = if j = k then some o else cget c j := by
  induction c with
  | nil => cases h
  | cons p r ih =>
    obtain ⟨i, u⟩ := p
    simp only [cset]
    by_cases e : i = k
    · subst e
      simp only [if_true, cget]
      by_cases h' : i = j
      · rw [if_pos h', if_pos h'.symm]
      · rw [if_neg h', if_neg (fun e => h' e.symm), if_neg h']
    · rw [if_neg e]
      simp only [cget]
      have hk : k ∈ dom r := by
        rcases List.mem_cons.mp h with h | h
        · exact absurd h.symm e
        · exact h
      by_cases h' : i = j
      · subst h'; rw [if_pos rfl, if_pos rfl, if_neg e]
      · rw [if_neg h', if_neg h']; exact ih hk

noncomputable abbrev sobj (T : String) (ws : List Value) (ep : Nat) : Obj := { cls := .type T, data := .seq ws.toArray ep }
noncomputable abbrev bobj (id : String) (a : Addr) : Obj := { cls := .type "builtin_function_or_method", data := .fields #[.builtin id, .ref a] }

noncomputable abbrev robj (a b : Int) (t u v : Tok) : Obj := { cls := .type "range", data := .fields #[.int a t, .int b u, .int 1 v] }

/- the makes of objects that data are of -/
noncomputable def Froz (o : Obj) : Bool := match o.data with
  | .seq .. => true
  | .fields _ => o.cls == .type "range"
  | _ => false

noncomputable abbrev Al := Nat → Addr

/- the addresses of the owned objects -/
noncomputable def OwnC (c : Cells) (α : Al) (b : Addr) : Prop := ∃ k ∈ dom c, α k = b

mutual
inductive IsD (h : Heap) (own : Addr → Prop) : D → Value → Prop
  | none : IsD h own .none .none
  | bool (b : Bool) : IsD h own (.bool b) (.bool b)
  | int (i : Int) (t : Tok) : IsD h own (.int i) (.int i t)
  | str (x : Str) (t : Tok) : IsD h own (.str x) (.str x t)
  | tup {xs : List D} {ws : List Value} {a : Addr} {ep : Nat} : h.get? a = some (sobj "tuple" ws ep) → ¬ own a → IsDs h own xs ws → IsD h own (.tup xs) (.ref a)
  | lst {xs : List D} {ws : List Value} {a : Addr} {ep : Nat} : h.get? a = some (sobj "list" ws ep) → ¬ own a → IsDs h own xs ws → IsD h own (.lst xs) (.ref a)
inductive IsDs (h : Heap) (own : Addr → Prop) : List D → List Value → Prop
  | nil : IsDs h own [] []
  | cons {x : D} {w : Value} {xs : List D} {ws : List Value} : IsD h own x w → IsDs h own xs ws → IsDs h own (x :: xs) (w :: ws)
end

theorem IsDs.length {h : Heap} {own : Addr → Prop} : ∀ {xs : List D} {ws : List Value}, IsDs h own xs ws → xs.length = ws.length
  | _, _, .nil => rfl
  | _, _, .cons _ r => by simp [r.length]
theorem IsDs.append {h : Heap} {own : Addr → Prop} {ys : List D} {vs : List Value} (y : IsDs h own ys vs) : ∀ {xs : List D} {ws : List Value}, IsDs h own xs ws → IsDs h own (xs ++ ys) (ws ++ vs)
  | _, _, .nil => y
  | _, _, .cons a r => .cons a (y.append r)
theorem IsDs.get {h : Heap} {own : Addr → Prop} : ∀ {xs : List D} {ws : List Value}, IsDs h own xs ws → ∀ (i : Nat) (x : D), xs[i]? = some x → ∃ w, ws[i]? = some w ∧ IsD h own x w
  | _, _, .nil, i, x, e => by simp at e
  | _, _, .cons a r, 0, x, e => by cases e; exact ⟨_, rfl, a⟩
  | _, _, .cons a r, i + 1, x, e => r.get i x e
theorem IsDs.drop {h : Heap} {own : Addr → Prop} : ∀ {xs : List D} {ws : List Value}, IsDs h own xs ws → ∀ n, IsDs h own (xs.drop n) (ws.drop n)
  | _, _, r, 0 => r
  | _, _, .nil, _ + 1 => .nil
  | _, _, .cons _ r, n + 1 => r.drop n
theorem IsDs.take {h : Heap} {own : Addr → Prop} : ∀ {xs : List D} {ws : List Value}, IsDs h own xs ws → ∀ n, IsDs h own (xs.take n) (ws.take n)
  | _, _, _, 0 => .nil
  | _, _, .nil, _ + 1 => .nil
  | _, _, .cons a r, n + 1 => .cons a (r.take n)

mutual
theorem IsD.step {own own' : Addr → Prop} {h h' : Heap} (kept : ∀ b o, Froz o = true → h.get? b = some o → ¬ own b → h'.get? b = some o)
    (grow : ∀ b, own' b → own b ∨ h.get? b = none) : ∀ {x : D} {w : Value}, IsD h own x w → IsD h' own' x w
  | _, _, .none => .none
  | _, _, .bool b => .bool b
  | _, _, .int i t => .int i t
  | _, _, .str x t => .str x t
  | _, _, .tup g n r => .tup (kept _ _ rfl g n) (fun e => (grow _ e).elim n (fun e => by rw [e] at g; cases g)) (r.step kept grow)
  | _, _, .lst g n r => .lst (kept _ _ rfl g n) (fun e => (grow _ e).elim n (fun e => by rw [e] at g; cases g)) (r.step kept grow)
theorem IsDs.step {own own' : Addr → Prop} {h h' : Heap} (kept : ∀ b o, Froz o = true → h.get? b = some o → ¬ own b → h'.get? b = some o)
    (grow : ∀ b, own' b → own b ∨ h.get? b = none) : ∀ {xs : List D} {ws : List Value}, IsDs h own xs ws → IsDs h' own' xs ws
  | _, _, .nil => .nil
  | _, _, .cons a r => .cons (a.step kept grow) (r.step kept grow)
end

noncomputable def IsV (c : Cells) (α : Al) (h : Heap) : V → Value → Prop
  | .d x, w => IsD h (OwnC c α) x w
  | .obj k, w => w = .ref (α k) ∧ k ∈ dom c
  | .val v, w => w = v
  | .bi b, w => w = b.val
  | .rng a b, w => ∃ r t u v, w = .ref r ∧ h.get? r = some (robj a b t u v) ∧ ¬ OwnC c α r

/- the heap's object of an owned one -/
noncomputable def IsO (c : Cells) (α : Al) (h : Heap) (a : Addr) : O → Prop
  | .list xs => ∃ ws ep, h.get? a = some (sobj "list" ws ep) ∧ IsDs h (OwnC c α) xs ws
  | .ns fs => ∃ o es ep, h.get? a = some o ∧ o.data = .dict es ep ∧ StrKeys es ∧ es.size = fs.length ∧
      ∀ x, match look fs x with
        | some v => ∃ w, nsFind es x = some w ∧ IsV c α h v w
        | none => nsFind es x = none
  | .inst C dk => h.get? a = some { cls := .ref C, dict := some (α dk) } ∧ dk ∈ dom c
  | .bound id k => h.get? a = some (bobj id (α k)) ∧ k ∈ dom c
  | .dic hf fs => (a == sysModules) = false ∧ ∃ o es ep, h.get? a = some o ∧ o.ExactDict ∧ o.data = .dict es ep ∧ (∀ e ∈ es, ∃ x, Value.isStrOf x e.key = true ∧ e.hash = hf x) ∧
      ∀ x, match look fs x with
        | some i => ∃ t, findBy Value.isStrOf es x = some (.int i t)
        | none => findBy Value.isStrOf es x = none
end Mine
end
section
set_option linter.unusedVariables false
namespace Mine
open PySem PyProof.Rows

/- from one state to a later one, the frame's own names apart -/
structure Le (c : Cells) (α : Al) (h : Heap) (c' : Cells) (α' : Al) (h' : Heap) : Prop where
  dom : ∀ k ∈ dom c, k ∈ Mine.dom c'
  agree : ∀ k ∈ Mine.dom c, α' k = α k
  kept : ∀ b o, h.get? b = some o → ¬ OwnC c α b → h'.get? b = some o
  grow : ∀ k ∈ Mine.dom c', OwnC c α (α' k) ∨ h.get? (α' k) = none

theorem Le.refl (c : Cells) (α : Al) (h : Heap) : Le c α h c α h :=
  ⟨fun _ x => x, fun _ _ => rfl, fun _ _ e _ => e, fun k hk => .inl ⟨k, hk, rfl⟩⟩

theorem Le.not_own {c c' : Cells} {α α' : Al} {h h' : Heap} (x : Le c α h c' α' h') {b : Addr} {o : Obj} (e : h.get? b = some o) (n : ¬ OwnC c α b) : ¬ OwnC c' α' b := by
  rintro ⟨k, hk, rfl⟩
  rcases x.grow k hk with q | q
  · exact n q
  · rw [q] at e; cases e

theorem Le.trans {c₁ c₂ c₃ : Cells} {α₁ α₂ α₃ : Al} {h₁ h₂ h₃ : Heap} (x : Le c₁ α₁ h₁ c₂ α₂ h₂) (y : Le c₂ α₂ h₂ c₃ α₃ h₃) : Le c₁ α₁ h₁ c₃ α₃ h₃ := by
  refine ⟨fun k hk => y.dom k (x.dom k hk), fun k hk => (y.agree k (x.dom k hk)).trans (x.agree k hk), fun b o e n => y.kept b o (x.kept b o e n) (x.not_own e n), fun k hk => ?_⟩
  rcases y.grow k hk with ⟨j, hj, e⟩ | q
  · rw [← e]; exact x.grow j hj
  · by_cases n : OwnC c₁ α₁ (α₃ k)
    · exact .inl n
    · refine .inr ?_
      cases e : h₁.get? (α₃ k) with
      | none => rfl
      | some o => rw [x.kept _ _ e n] at q; cases q

theorem Le.isD {c c' : Cells} {α α' : Al} {h h' : Heap} (x : Le c α h c' α' h') {d : D} {w : Value} (i : IsD h (OwnC c α) d w) : IsD h' (OwnC c' α') d w :=
  i.step (fun b _ _ e n => x.kept b _ e n) (fun b ⟨k, hk, e⟩ => e ▸ x.grow k hk)
theorem Le.isDs {c c' : Cells} {α α' : Al} {h h' : Heap} (x : Le c α h c' α' h') {ds : List D} {ws : List Value} (i : IsDs h (OwnC c α) ds ws) : IsDs h' (OwnC c' α') ds ws :=
  i.step (fun b _ _ e n => x.kept b _ e n) (fun b ⟨k, hk, e⟩ => e ▸ x.grow k hk)
theorem Le.isV {c c' : Cells} {α α' : Al} {h h' : Heap} (x : Le c α h c' α' h') {v : V} {w : Value} (i : IsV c α h v w) : IsV c' α' h' v w := by
  cases v with
  | d y => exact x.isD i
  | obj k => exact ⟨by rw [x.agree k i.2]; exact i.1, x.dom k i.2⟩
  | val u => exact i
  | rng p q => obtain ⟨r, t, u, v, e, g, n⟩ := i; exact ⟨r, t, u, v, e, x.kept _ _ g n, x.not_own g n⟩
  | bi b => exact i

inductive IsVs (c : Cells) (α : Al) (h : Heap) : List V → List Value → Prop
  | nil : IsVs c α h [] []
  | cons {v : V} {w : Value} {vs : List V} {ws : List Value} : IsV c α h v w → IsVs c α h vs ws → IsVs c α h (v :: vs) (w :: ws)
theorem Le.isVs {c c' : Cells} {α α' : Al} {h h' : Heap} (x : Le c α h c' α' h') : ∀ {vs : List V} {ws : List Value}, IsVs c α h vs ws → IsVs c' α' h' vs ws
  | _, _, .nil => .nil
  | _, _, .cons a r => .cons (x.isV a) (x.isVs r)

theorem Le.isO {c c' : Cells} {α α' : Al} {h h' : Heap} (x : Le c α h c' α' h') {a : Addr} {o : O} (e : ∀ q, h.get? a = some q → h'.get? a = some q) (i : IsO c α h a o) : IsO c' α' h' a o := by
  cases o with
  | list xs => obtain ⟨ws, ep, g, d⟩ := i; exact ⟨ws, ep, e _ g, x.isDs d⟩
  | ns fs =>
    obtain ⟨q, es, ep, g, hd, sk, sz, f⟩ := i
    refine ⟨q, es, ep, e _ g, hd, sk, sz, fun y => ?_⟩
    have := f y
    cases hl : look fs y with
    | none => rw [hl] at this; exact this
    | some v => rw [hl] at this; obtain ⟨w, h1, h2⟩ := this; exact ⟨w, h1, x.isV h2⟩
  | inst C dk => refine ⟨?_, x.dom _ i.2⟩; rw [x.agree dk i.2]; exact e _ i.1
  | bound id k => refine ⟨?_, x.dom _ i.2⟩; rw [x.agree k i.2]; exact e _ i.1
  | dic hf fs => obtain ⟨hs, q, es, ep, g, r⟩ := i; exact ⟨hs, q, es, ep, e _ g, r⟩

/- the owned objects stand as told -/
structure Cst (hb : Heap) (pr : List Nat) (c : Cells) (α : Al) (h : Heap) : Prop where
  base : ∀ b o, hb.get? b = some o → h.get? b = some o
  cell : ∀ k o, cget c k = some o → IsO c α h (α k) o
  fresh : ∀ k ∈ dom c, hb.get? (α k) = none
  inj : ∀ k ∈ dom c, ∀ j ∈ dom c, α k = α j → k = j
  prs : ∀ k ∈ pr, k ∈ dom c

theorem IsO.ex {c : Cells} {α : Al} {h : Heap} {a : Addr} {o : O} (i : IsO c α h a o) : ∃ q, h.get? a = some q := by
  cases o with
  | list xs => obtain ⟨ws, ep, g, d⟩ := i; exact ⟨_, g⟩
  | ns fs => obtain ⟨q, es, ep, g, r⟩ := i; exact ⟨_, g⟩
  | inst C dk => exact ⟨_, i.1⟩
  | bound id k => exact ⟨_, i.1⟩
  | dic hf fs => obtain ⟨hs, q, es, ep, g, r⟩ := i; exact ⟨_, g⟩
theorem Cst.ex {hb h : Heap} {pr : List Nat} {c : Cells} {α : Al} (C : Cst hb pr c α h) {k : Nat} (hk : k ∈ dom c) : ∃ q, h.get? (α k) = some q := by
  obtain ⟨o, ho⟩ := mem_cget hk
  exact (C.cell k o ho).ex
theorem Cst.base_not_own {hb h : Heap} {pr : List Nat} {c : Cells} {α : Al} (C : Cst hb pr c α h) {b : Addr} {o : Obj} (e : hb.get? b = some o) : ¬ OwnC c α b := by
  rintro ⟨k, hk, rfl⟩
  rw [C.fresh k hk] at e; cases e

/- a heap that keeps all: the same cells -/
theorem Cst.keeps {hb h h' : Heap} {pr : List Nat} {c : Cells} {α : Al} (C : Cst hb pr c α h) (k : ∀ b o, h.get? b = some o → h'.get? b = some o) : Cst hb pr c α h' ∧ Le c α h c α h' := by
  have L : Le c α h c α h' := ⟨fun _ x => x, fun _ _ => rfl, fun b o e _ => k b o e, fun j hj => .inl ⟨j, hj, rfl⟩⟩
  exact ⟨⟨fun b o e => k _ _ (C.base b o e), fun j o e => L.isO (fun q => k _ q) (C.cell j o e), C.fresh, C.inj, C.prs⟩, L⟩

noncomputable def upd (α : Al) (k : Nat) (a : Addr) : Al := fun j => if j = k then a else α j

theorem cget_append {c : Cells} {k : Nat} {o : O} (hk : k ∉ dom c) (j : Nat) : cget (c ++ [(k, o)]) j = if j = k then some o else cget c j := by
  induction c with
  | nil =>
    show (if k = j then some o else none) = _
    by_cases e : k = j
    · rw [if_pos e, if_pos e.symm]
    · rw [if_neg e, if_neg (fun q => e q.symm)]; rfl
  | cons p r ih =>
    obtain ⟨i, u⟩ := p
    have h1 : k ≠ i := fun e => hk (e ▸ .head _)
    have h2 : k ∉ dom r := fun e => hk (.tail _ e)
    show (if i = j then some u else cget (r ++ [(k, o)]) j) = if j = k then some o else if i = j then some u else cget r j
    rw [ih h2]
    by_cases e : i = j
    · rw [if_pos e, if_pos e, if_neg (fun q => h1 (q.symm.trans e.symm))]
    · rw [if_neg e, if_neg e]
theorem dom_append (c : Cells) (k : Nat) (o : O) : dom (c ++ [(k, o)]) = dom c ++ [k] := by simp [dom]

/- a new owned object -/
theorem Cst.new {hb h : Heap} {pr : List Nat} {c : Cells} {α : Al} (C : Cst hb pr c α h) {k : Nat} (hk : k ∉ dom c) (q : Obj) {o : O}
    (hq : Le c α h (c ++ [(k, o)]) (upd α k h.objs.size) (h.push q) → IsO (c ++ [(k, o)]) (upd α k h.objs.size) (h.push q) h.objs.size o) :
    Cst hb pr (c ++ [(k, o)]) (upd α k h.objs.size) (h.push q) ∧ Le c α h (c ++ [(k, o)]) (upd α k h.objs.size) (h.push q) := by
  have hn : h.get? h.objs.size = none := by
    cases e : h.get? h.objs.size with
    | none => rfl
    | some o' => exact absurd (Heap.lt_size e) (Nat.lt_irrefl _)
  have ag : ∀ j ∈ dom c, upd α k h.objs.size j = α j := fun j hj => by
    show (if j = k then _ else _) = _
    rw [if_neg (fun (e : j = k) => hk (e ▸ hj))]
  have ak : upd α k h.objs.size k = h.objs.size := if_pos rfl
  have L : Le c α h (c ++ [(k, o)]) (upd α k h.objs.size) (h.push q) := by
    refine ⟨fun j hj => by rw [dom_append]; exact List.mem_append_left _ hj, ag, fun b o e _ => Heap.get?_push_of_some _ e, fun j hj => ?_⟩
    rw [dom_append] at hj
    rcases List.mem_append.mp hj with hj | hj
    · rw [ag j hj]; exact .inl ⟨j, hj, rfl⟩
    · have : j = k := by simpa using hj
      rw [this, ak]; exact .inr hn
  refine ⟨⟨fun b o e => Heap.get?_push_of_some _ (C.base b o e), fun j u e => ?_, fun j hj => ?_, fun i hi j hj e => ?_, fun j hj => L.dom j (C.prs j hj)⟩, L⟩
  · rw [cget_append hk] at e
    by_cases hj : j = k
    · rw [if_pos hj] at e; cases e; rw [hj, ak]; exact hq L
    · rw [if_neg hj] at e
      rw [ag j (cget_mem e)]
      exact L.isO (fun q e => Heap.get?_push_of_some _ e) (C.cell j u e)
  · rw [dom_append] at hj
    rcases List.mem_append.mp hj with hj | hj
    · rw [ag j hj]; exact C.fresh j hj
    · have : j = k := by simpa using hj
      rw [this, ak]
      cases e : hb.get? h.objs.size with
      | none => rfl
      | some o' => rw [C.base _ _ e] at hn; cases hn
  · rw [dom_append] at hi hj
    have lt : ∀ j ∈ dom c, α j < h.objs.size := fun j hj => by obtain ⟨q, e⟩ := C.ex hj; exact Heap.lt_size e
    rcases List.mem_append.mp hi with hi | hi <;> rcases List.mem_append.mp hj with hj | hj
    · rw [ag i hi, ag j hj] at e; exact C.inj i hi j hj e
    · have : j = k := by simpa using hj
      rw [this, ak, ag i hi] at e
      exact absurd (lt i hi) (by rw [e]; exact Nat.lt_irrefl _)
    · have : i = k := by simpa using hi
      rw [this, ak, ag j hj] at e
      exact absurd (lt j hj) (by rw [← e]; exact Nat.lt_irrefl _)
    · have h1 : i = k := by simpa using hi
      have h2 : j = k := by simpa using hj
      rw [h1, h2]

theorem OwnC_cset (c : Cells) (α : Al) (k : Nat) (o : O) : OwnC (cset c k o) α = OwnC c α := by
  funext b; unfold OwnC; rw [dom_cset]

/- an owned object changed -/
theorem Cst.set {hb h h' : Heap} {pr : List Nat} {c : Cells} {α : Al} (C : Cst hb pr c α h) {k : Nat} (hk : k ∈ dom c) {o : O} (hs : Heap.SameBut (α k) h h')
    (hq : Le c α h (cset c k o) α h' → IsO (cset c k o) α h' (α k) o) : Cst hb pr (cset c k o) α h' ∧ Le c α h (cset c k o) α h' := by
  have L : Le c α h (cset c k o) α h' := by
    refine ⟨fun j hj => by rw [dom_cset]; exact hj, fun _ _ => rfl, fun b q e n => ?_, fun j hj => .inl ⟨j, by rw [dom_cset] at hj; exact hj, rfl⟩⟩
    rw [hs.2 b (fun e => n ⟨k, hk, e.symm⟩)]; exact e
  refine ⟨⟨fun b q e => L.kept _ _ (C.base b q e) (C.base_not_own e), fun j u e => ?_, fun j hj => C.fresh j (by rw [dom_cset] at hj; exact hj),
    fun i hi j hj => C.inj i (by rw [dom_cset] at hi; exact hi) j (by rw [dom_cset] at hj; exact hj), fun j hj => by rw [dom_cset]; exact C.prs j hj⟩, L⟩
  rw [cget_cset hk] at e
  by_cases hj : j = k
  · rw [if_pos hj] at e; cases e; rw [hj]; exact hq L
  · rw [if_neg hj] at e
    refine L.isO (fun q g => ?_) (C.cell j u e)
    rw [hs.2 _ (fun e' => hj (C.inj j (cget_mem e) k hk e'))]; exact g

/- where a name of the frame lies -/
inductive Held (h : Heap) (env : Env) (x : Str) (w : Value) : Prop
  | loc (m : Str → Option Value) : env.kindOf x = some .local → h.Ns env.locals m → m x = some w → Held h env x w
  | cel (b : Addr) (o : Obj) : env.kindOf x = some .cell → env.cells.lookup x = some b → h.get? b = some o → o.data = .cell (some w) → Held h env x w
  | free (b : Addr) (o : Obj) : env.kindOf x = some .free → env.cells.lookup x = some b → h.get? b = some o → o.data = .cell (some w) → Held h env x w

/- the frame's own objects -/
noncomputable def FrA (env : Env) (b : Addr) : Prop := b = env.locals ∨ ∃ x, env.cells.lookup x = some b

structure EnvOk (env : Env) : Prop where
  kind : env.scope.kind = .function
  apart : ∀ x b, env.cells.lookup x = some b → b ≠ env.locals
  one : ∀ x y b, env.cells.lookup x = some b → env.cells.lookup y = some b → x = y
  inter : interactive env = false

structure Fst (hb : Heap) (pr : List Nat) (env : Env) (l : Loc) (c : Cells) (α : Al) (h : Heap) : Prop extends Cst hb pr c α h where
  ns : ∃ m, h.Ns env.locals m
  cel : ∀ x b, env.cells.lookup x = some b → ∃ o v, h.get? b = some o ∧ o.data = .cell v
  loc : ∀ x v, look l x = some v → ∃ w, Held h env x w ∧ IsV c α h v w
  fr : ∀ b, FrA env b → hb.get? b = none ∧ ¬ OwnC c α b

theorem Held.le {h h' : Heap} {env : Env} {x : Str} {w : Value} (H : Held h env x w) (k : ∀ b o, FrA env b → h.get? b = some o → h'.get? b = some o) : Held h' env x w := by
  cases H with
  | loc m a b e => exact .loc m a (let ⟨o, es, ep, ho, r⟩ := b; ⟨o, es, ep, k _ _ (.inl rfl) ho, r⟩) e
  | cel b o a e g d => exact .cel b o a e (k _ _ (.inr ⟨x, e⟩) g) d
  | free b o a e g d => exact .free b o a e (k _ _ (.inr ⟨x, e⟩) g) d

theorem Fst.le {hb h h' : Heap} {pr : List Nat} {env : Env} {l : Loc} {c c' : Cells} {α α' : Al} (F : Fst hb pr env l c α h) (L : Le c α h c' α' h') (C : Cst hb pr c' α' h') : Fst hb pr env l c' α' h' := by
  have k : ∀ b o, FrA env b → h.get? b = some o → h'.get? b = some o := fun b o f e => L.kept b o e (F.fr b f).2
  have ex : ∀ b, FrA env b → ∃ o, h.get? b = some o := by
    rintro b (rfl | ⟨x, e⟩)
    · obtain ⟨m, o, es, ep, ho, r⟩ := F.ns; exact ⟨o, ho⟩
    · obtain ⟨o, v, g, d⟩ := F.cel x b e; exact ⟨o, g⟩
  refine ⟨C, ?_, fun x b e => ?_, fun x v e => ?_, fun b f => ?_⟩
  · obtain ⟨m, o, es, ep, ho, r⟩ := F.ns; exact ⟨m, o, es, ep, k _ _ (.inl rfl) ho, r⟩
  · obtain ⟨o, v, g, d⟩ := F.cel x b e; exact ⟨o, v, k _ _ (.inr ⟨x, e⟩) g, d⟩
  · obtain ⟨w, H, i⟩ := F.loc x v e; exact ⟨w, H.le k, L.isV i⟩
  · obtain ⟨o, e⟩ := ex b f
    exact ⟨(F.fr b f).1, L.not_own e (F.fr b f).2⟩

theorem Fst.keeps {hb h h' : Heap} {pr : List Nat} {env : Env} {l : Loc} {c : Cells} {α : Al} (F : Fst hb pr env l c α h) (k : ∀ b o, h.get? b = some o → h'.get? b = some o) :
    Fst hb pr env l c α h' ∧ Le c α h c α h' := by
  obtain ⟨C, L⟩ := F.toCst.keeps k
  exact ⟨F.le L C, L⟩
theorem Fst.push {hb h : Heap} {pr : List Nat} {env : Env} {l : Loc} {c : Cells} {α : Al} (F : Fst hb pr env l c α h) (q : Obj) :
    Fst hb pr env l c α (h.push q) ∧ Le c α h c α (h.push q) := F.keeps fun _ _ e => Heap.get?_push_of_some _ e
theorem Fst.new {hb h : Heap} {pr : List Nat} {env : Env} {l : Loc} {c : Cells} {α : Al} (F : Fst hb pr env l c α h) {k : Nat} (hk : k ∉ dom c) (q : Obj) {o : O}
    (hq : Le c α h (c ++ [(k, o)]) (upd α k h.objs.size) (h.push q) → IsO (c ++ [(k, o)]) (upd α k h.objs.size) (h.push q) h.objs.size o) :
    Fst hb pr env l (c ++ [(k, o)]) (upd α k h.objs.size) (h.push q) ∧ Le c α h (c ++ [(k, o)]) (upd α k h.objs.size) (h.push q) := by
  obtain ⟨C, L⟩ := F.toCst.new hk q hq
  exact ⟨F.le L C, L⟩
theorem Fst.set {hb h h' : Heap} {pr : List Nat} {env : Env} {l : Loc} {c : Cells} {α : Al} (F : Fst hb pr env l c α h) {k : Nat} (hk : k ∈ dom c) {o : O} (hs : Heap.SameBut (α k) h h')
    (hq : Le c α h (cset c k o) α h' → IsO (cset c k o) α h' (α k) o) : Fst hb pr env l (cset c k o) α h' ∧ Le c α h (cset c k o) α h' := by
  obtain ⟨C, L⟩ := F.toCst.set hk hs hq
  exact ⟨F.le L C, L⟩

/- no owned address holds a datum -/
theorem new_not_own {hb h : Heap} {pr : List Nat} {c : Cells} {α : Al} (C : Cst hb pr c α h) : ¬ OwnC c α h.objs.size := by
  rintro ⟨k, hk, e⟩
  obtain ⟨q, g⟩ := C.ex hk
  rw [e] at g
  exact absurd (Heap.lt_size g) (Nat.lt_irrefl _)

noncomputable abbrev no : Value → Shared → Prop := fun _ _ => False

section
variable (M : Model) (A : Around) (hb : Heap) (pr : List Nat) (env : Env)

/- an expression's run: from cells c to what K says -/
noncomputable def OkE {β γ : Type} (I : Cells → Al → Heap → β → γ → Prop) (l : Loc) (c : Cells) (t : Sem γ) (K : β → Cells → Prop) : Prop :=
  ∀ (α : Al) (s : Shared) (Q : γ → Shared → Prop), 1 ≤ s.toks → Fst hb pr env l c α s.heap →
    (∀ b c' α' g h' tk, 1 ≤ tk → K b c' → Fst hb pr env l c' α' h' → Le c α s.heap c' α' h' → I c' α' h' b g → Q g { s with heap := h', toks := tk }) → wpAny M A t Q no s

inductive F where
  | next | brk | cont
  | ret (v : V)
noncomputable def IsF (c : Cells) (α : Al) (h : Heap) : F → Flow → Prop
  | .next, g => g = .next
  | .brk, g => g = .brk
  | .cont, g => g = .cont
  | .ret v, g => ∃ w, g = .ret w ∧ IsV c α h v w

/- a statement's step -/
structure LeS (c : Cells) (α : Al) (h : Heap) (c' : Cells) (α' : Al) (h' : Heap) : Prop where
  agree : ∀ k ∈ pr, α' k = α k
  kept : ∀ b o, h.get? b = some o → ¬ FrA env b → ¬ OwnC c α b → h'.get? b = some o
  grow : ∀ k ∈ dom c', OwnC c α (α' k) ∨ h.get? (α' k) = none

structure Sg where
  l : Loc
  c : Cells

noncomputable def OkS (σ : Sg) (t : Sem Flow) (K : F → Sg → Prop) : Prop :=
  ∀ (α : Al) (s : Shared) (Q : Flow → Shared → Prop), 1 ≤ s.toks → Fst hb pr env σ.l σ.c α s.heap →
    (∀ f τ α' g h' tk, 1 ≤ tk → K f τ → Fst hb pr env τ.l τ.c α' h' → LeS pr env σ.c α s.heap τ.c α' h' → IsF τ.c α' h' f g → Q g { s with heap := h', toks := tk }) → wpAny M A t Q no s
end

section
variable {M : Model} {A : Around} {hb : Heap} {pr : List Nat} {env : Env}
theorem wpAny_tk {γ : Type} {t : Sem γ} {Q : γ → Shared → Prop} {s : Shared} {E : Value → Shared → Prop} (hs : 1 ≤ s.toks) (h : wpAny M A t (fun g s' => 1 ≤ s'.toks → Q g s') E s) : wpAny M A t Q E s :=
  wpAny_with_toks hs (wpAny_mono h (fun _ _ x => x) (fun _ _ x _ => x))
theorem OkE.mk {β γ : Type} {I : Cells → Al → Heap → β → γ → Prop} {l : Loc} {c : Cells} {t : Sem γ} {K : β → Cells → Prop}
    (h : ∀ (α : Al) (s : Shared) (Q : γ → Shared → Prop), 1 ≤ s.toks → Fst hb pr env l c α s.heap →
      (∀ b c' α' g h' tk, K b c' → Fst hb pr env l c' α' h' → Le c α s.heap c' α' h' → I c' α' h' b g → Q g { s with heap := h', toks := tk }) → wpAny M A t Q no s) : OkE M A hb pr env I l c t K :=
  fun α s Q hs F hq => wpAny_tk hs (h α s _ hs F fun b c' α' g h' tk k f le i ht => hq b c' α' g h' tk ht k f le i)
theorem OkS.mk {σ : Sg} {t : Sem Flow} {K : F → Sg → Prop}
    (h : ∀ (α : Al) (s : Shared) (Q : Flow → Shared → Prop), 1 ≤ s.toks → Fst hb pr env σ.l σ.c α s.heap →
      (∀ f τ α' g h' tk, K f τ → Fst hb pr env τ.l τ.c α' h' → LeS pr env σ.c α s.heap τ.c α' h' → IsF τ.c α' h' f g → Q g { s with heap := h', toks := tk }) → wpAny M A t Q no s) : OkS M A hb pr env σ t K :=
  fun α s Q hs F hq => wpAny_tk hs (h α s _ hs F fun b c' α' g h' tk k f le i ht => hq b c' α' g h' tk ht k f le i)
end

theorem Le.leS {hb h h' : Heap} {pr : List Nat} {env : Env} {c c' : Cells} {α α' : Al} (L : Le c α h c' α' h') (C : Cst hb pr c α h) : LeS pr env c α h c' α' h' :=
  ⟨fun k hk => L.agree k (C.prs k hk), fun b o e _ n => L.kept b o e n, L.grow⟩
theorem LeS.refl (pr : List Nat) (env : Env) (c : Cells) (α : Al) (h : Heap) : LeS pr env c α h c α h := ⟨fun _ _ => rfl, fun _ _ e _ _ => e, fun k hk => .inl ⟨k, hk, rfl⟩⟩
theorem LeS.trans {pr : List Nat} {env : Env} {c₁ c₂ c₃ : Cells} {α₁ α₂ α₃ : Al} {h₁ h₂ h₃ : Heap} (x : LeS pr env c₁ α₁ h₁ c₂ α₂ h₂) (y : LeS pr env c₂ α₂ h₂ c₃ α₃ h₃)
    (fr : ∀ b, FrA env b → ¬ OwnC c₃ α₃ b) : LeS pr env c₁ α₁ h₁ c₃ α₃ h₃ := by
  have no : ∀ b o, h₁.get? b = some o → ¬ OwnC c₁ α₁ b → ¬ OwnC c₂ α₂ b := by
    rintro b o e n ⟨k, hk, rfl⟩
    rcases x.grow k hk with q | q
    · exact n q
    · rw [q] at e; cases e
  refine ⟨fun k hk => (y.agree k hk).trans (x.agree k hk), fun b o e f n => y.kept b o (x.kept b o e f n) f (no b o e n), fun k hk => ?_⟩
  rcases y.grow k hk with ⟨j, hj, e⟩ | q
  · rw [← e]; exact x.grow j hj
  · by_cases n : OwnC c₁ α₁ (α₃ k)
    · exact .inl n
    · refine .inr ?_
      cases e : h₁.get? (α₃ k) with
      | none => rfl
      | some o =>
        by_cases f : FrA env (α₃ k)
        · exact absurd ⟨k, hk, rfl⟩ (fr _ f)
        · rw [x.kept _ _ e f n] at q; cases q
end Mine
end
section
set_option linter.unusedVariables false
namespace Mine
open PySem PyProof.Rows

section
variable {prog : Program} {w : World} {A : Around} {hb : Heap} {pr : List Nat} {env : Env} {l : Loc} {c : Cells}

noncomputable abbrev Res (hb : Heap) (pr : List Nat) (env : Env) (l : Loc) (c : Cells) (α : Al) (s : Shared) (Q : Value → Shared → Prop) (K : V → Cells → Prop) : Prop :=
  ∀ b c' α' g h' tk, K b c' → Fst hb pr env l c' α' h' → Le c α s.heap c' α' h' → IsV c' α' h' b g → Q g { s with heap := h', toks := tk }

/- a name of the frame -/
theorem load_ok (EO : EnvOk env) {α : Al} {s : Shared} {x : Str} {v : V} (F : Fst hb pr env l c α s.heap) (hx : look l x = some v) (hn : (x == ("__classdict__" : Str)) = false)
    {Q : Value → Shared → Prop} (hq : ∀ g, IsV c α s.heap v g → Q g s) : wpAny (model prog w) A (loadName env x) Q no s := by
  obtain ⟨g, H, i⟩ := F.loc x v hx
  cases H with
  | loc m a b e => exact wpAny_loadName_local EO.kind a b e (hq g i)
  | cel b o a e q d => exact wpAny_loadName_cell EO.kind a e ⟨o, q, d⟩ (hq g i)
  | free b o a e q d => exact wpAny_loadName_free EO.kind a e ⟨o, q, d⟩ (hq g i) hn

theorem not_froz_frame {α : Al} {h : Heap} (F : Fst hb pr env l c α h) {b : Addr} (hf : FrA env b) : ∀ o, Froz o = true → h.get? b ≠ some o := by
  intro o hz e
  rcases hf with rfl | ⟨x, q⟩
  · obtain ⟨m, o', es, ep', ho, hd, r⟩ := F.ns
    rw [ho] at e; cases e; unfold Froz at hz; rw [hd] at hz; cases hz
  · obtain ⟨o', v, ho, hd⟩ := F.cel x b q
    rw [ho] at e; cases e; unfold Froz at hz; rw [hd] at hz; cases hz

section
variable {α : Al} {h h' : Heap} {b : Addr} (ns : ∀ o, Froz o = true → h.get? b ≠ some o) (ks : ∀ a o, a ≠ b → h.get? a = some o → h'.get? a = some o)
include ns ks
/- another object changed, none of those that data are of: data stay -/
theorem but_isD {d : D} {g : Value} (i : IsD h (OwnC c α) d g) : IsD h' (OwnC c α) d g :=
  i.step (fun a o hz e n => ks a o (fun q => ns o hz (q ▸ e)) e) (fun _ e => .inl e)
theorem but_isDs {d : List D} {g : List Value} (i : IsDs h (OwnC c α) d g) : IsDs h' (OwnC c α) d g :=
  i.step (fun a o hz e n => ks a o (fun q => ns o hz (q ▸ e)) e) (fun _ e => .inl e)
theorem but_isV {v : V} {g : Value} (i : IsV c α h v g) : IsV c α h' v g := by
  cases v with
  | d x => exact but_isD ns ks i
  | obj k => exact i
  | val u => exact i
  | rng p q => obtain ⟨r, t, u, v, e, g, n⟩ := i; exact ⟨r, t, u, v, e, ks r _ (fun q => ns _ rfl (q ▸ g)) g, n⟩
  | bi b => exact i
theorem but_cst (C : Cst hb pr c α h) (no : ¬ OwnC c α b) (nb : hb.get? b = none) : Cst hb pr c α h' := by
  have hne : ∀ k ∈ dom c, α k ≠ b := fun k hk e => no ⟨k, hk, e⟩
  refine ⟨fun a o e => ks a o (fun q => by rw [q, nb] at e; cases e) (C.base a o e), fun k o e => ?_, C.fresh, C.inj, C.prs⟩
  have i := C.cell k o e
  have g : ∀ q, h.get? (α k) = some q → h'.get? (α k) = some q := fun q e' => ks _ _ (hne k (cget_mem e)) e'
  cases o with
  | list xs => obtain ⟨ws, ep, g', d⟩ := i; exact ⟨ws, ep, g _ g', but_isDs ns ks d⟩
  | ns fs =>
    obtain ⟨q, es, ep, g', hd, sk, sz, f⟩ := i
    refine ⟨q, es, ep, g _ g', hd, sk, sz, fun y => ?_⟩
    have := f y
    cases hl : look fs y with
    | none => rw [hl] at this; exact this
    | some v => rw [hl] at this; obtain ⟨w, h1, h2⟩ := this; exact ⟨w, h1, but_isV ns ks h2⟩
  | inst C dk => exact ⟨g _ i.1, i.2⟩
  | bound id k => exact ⟨g _ i.1, i.2⟩
  | dic hf fs => obtain ⟨hs, q, es, ep, g', r⟩ := i; exact ⟨hs, q, es, ep, g _ g', r⟩
theorem Fst.but (F : Fst hb pr env l c α h) (no : ¬ OwnC c α b) (nf : ¬ FrA env b) (nb : hb.get? b = none) : Fst hb pr env l c α h' := by
  have k : ∀ a o, FrA env a → h.get? a = some o → h'.get? a = some o := fun a o f e => ks a o (fun q => nf (q ▸ f)) e
  refine ⟨but_cst ns ks F.toCst no nb, ?_, fun x b e => ?_, fun x v e => ?_, F.fr⟩
  · obtain ⟨m, o, es, ep, ho, r⟩ := F.ns; exact ⟨m, o, es, ep, k _ _ (.inl rfl) ho, r⟩
  · obtain ⟨o, v, g, d⟩ := F.cel x b e; exact ⟨o, v, k _ _ (.inr ⟨x, e⟩) g, d⟩
  · obtain ⟨w, H, i⟩ := F.loc x v e; exact ⟨w, H.le k, but_isV ns ks i⟩
end

theorem same_ext {h h' : Heap} {b : Addr} (hs : Heap.SameBut b h h') : ∀ a o, a ≠ b → h.get? a = some o → h'.get? a = some o := fun a o n e => by rw [hs.2 a n]; exact e
theorem frame_isV {α : Al} {h h' : Heap} (F : Fst hb pr env l c α h) {b : Addr} (hf : FrA env b) (hs : Heap.SameBut b h h') {v : V} {g : Value} (i : IsV c α h v g) : IsV c α h' v g :=
  but_isV (not_froz_frame F hf) (same_ext hs) i
theorem frame_cst {α : Al} {h h' : Heap} (F : Fst hb pr env l c α h) {b : Addr} (hf : FrA env b) (hs : Heap.SameBut b h h') : Cst hb pr c α h' :=
  but_cst (not_froz_frame F hf) (same_ext hs) F.toCst (F.fr b hf).2 (F.fr b hf).1
theorem frame_leS {α : Al} {h h' : Heap} {b : Addr} (hf : FrA env b) (hs : Heap.SameBut b h h') : LeS pr env c α h c α h' :=
  ⟨fun _ _ => rfl, fun a o e nf _ => by rw [hs.2 a (fun q => nf (q ▸ hf))]; exact e, fun k hk => .inl ⟨k, hk, rfl⟩⟩

/- a local name is stored -/
theorem store_loc_ok (EO : EnvOk env) {α : Al} {s : Shared} {x : Str} {v : V} {g : Value} (F : Fst hb pr env l c α s.heap) (hx : env.kindOf x = some .local) (i : IsV c α s.heap v g)
    {Q : Unit → Shared → Prop} (hq : ∀ h' tk, Fst hb pr env (put l x v) c α h' → Heap.SameBut env.locals s.heap h' → Q () { s with heap := h', toks := tk }) : wpAny (model prog w) A (storeName env x g) Q no s := by
  obtain ⟨m, hm⟩ := F.ns
  have hf : FrA env env.locals := .inl rfl
  refine wpAny_storeName_local hx hm (fun h' hn hs => hq h' _ ?_ hs) (by rw [EO.kind]; rfl)
  refine ⟨frame_cst F hf hs, ⟨_, hn⟩, fun y b e => ?_, fun y u e => ?_, F.fr⟩
  · obtain ⟨o, v, ho, hd⟩ := F.cel y b e
    exact ⟨o, v, by rw [hs.2 b (EO.apart y b e)]; exact ho, hd⟩
  · rw [look_put] at e
    by_cases hy : y = x
    · rw [if_pos hy] at e; cases e
      exact ⟨g, .loc _ (hy ▸ hx) hn (by simp only [if_pos hy]), frame_isV F hf hs i⟩
    · rw [if_neg hy] at e
      obtain ⟨g', H, i'⟩ := F.loc y u e
      refine ⟨g', ?_, frame_isV F hf hs i'⟩
      cases H with
      | loc m' a b' e' =>
        refine .loc _ a hn ?_
        have : m' y = m y := by
          obtain ⟨o, es, ep, ho, hd, hk, hm1⟩ := b'
          obtain ⟨o2, es2, ep2, ho2, hd2, hk2, hm2⟩ := hm
          rw [ho] at ho2; cases ho2; rw [hd] at hd2; cases hd2
          rw [← hm1, ← hm2]
        simp only [if_neg hy]; rw [← this]; exact e'
      | cel b o a e' q d => exact .cel b o a e' (by rw [hs.2 b (EO.apart y b e')]; exact q) d
      | free b o a e' q d => exact .free b o a e' (by rw [hs.2 b (EO.apart y b e')]; exact q) d

/- a name is stored -/
theorem store_ok (EO : EnvOk env) {α : Al} {s : Shared} {x : Str} {v : V} {g : Value} (F : Fst hb pr env l c α s.heap)
    (hx : env.kindOf x = some .local ∨ (env.kindOf x = some .cell ∧ ∃ b, env.cells.lookup x = some b)) (i : IsV c α s.heap v g)
    {Q : Unit → Shared → Prop} (hq : ∀ h' tk, Fst hb pr env (put l x v) c α h' → LeS pr env c α s.heap c α h' → Q () { s with heap := h', toks := tk }) : wpAny (model prog w) A (storeName env x g) Q no s := by
  rcases hx with hx | ⟨hx, b, hb'⟩
  · exact store_loc_ok EO F hx i fun h' tk F' hs => hq h' tk F' (frame_leS (.inl rfl) hs)
  · obtain ⟨o, v0, ho, hd⟩ := F.cel x b hb'
    have hf : FrA env b := .inr ⟨x, hb'⟩
    refine wpAny_storeName_cell EO.kind hx hb' ⟨o, ho, hd⟩ (fun h' hc hs => hq h' s.toks ?_ (frame_leS hf hs))
    obtain ⟨o', ho', hd'⟩ := hc
    have hbl : env.locals ≠ b := fun e => EO.apart x b hb' e.symm
    refine ⟨frame_cst F hf hs, ?_, fun y b' e => ?_, fun y u e => ?_, F.fr⟩
    · obtain ⟨m, o, es, ep, ho, r⟩ := F.ns; exact ⟨m, o, es, ep, by rw [hs.2 _ hbl]; exact ho, r⟩
    · by_cases hbb : b' = b
      · subst hbb; exact ⟨o', _, ho', hd'⟩
      · obtain ⟨o, v, ho, hd⟩ := F.cel y b' e
        exact ⟨o, v, by rw [hs.2 b' hbb]; exact ho, hd⟩
    · rw [look_put] at e
      by_cases hy : y = x
      · rw [if_pos hy] at e; cases e
        subst hy
        exact ⟨g, .cel b o' hx hb' ho' hd', frame_isV F hf hs i⟩
      · rw [if_neg hy] at e
        obtain ⟨g', H, i'⟩ := F.loc y u e
        refine ⟨g', ?_, frame_isV F hf hs i'⟩
        cases H with
        | loc m' a b' e' => exact .loc m' a (b'.sameBut hs hbl) e'
        | cel b' o a e' q d => exact .cel b' o a e' (by rw [hs.2 b' (fun (e : b' = b) => hy (EO.one y x b (e ▸ e') hb'))]; exact q) d
        | free b' o a e' q d => exact .free b' o a e' (by rw [hs.2 b' (fun (e : b' = b) => hy (EO.one y x b (e ▸ e') hb'))]; exact q) d
end
end Mine
end
section
set_option linter.unusedVariables false
namespace Mine
open PySem PyProof.Rows

mutual
noncomputable def D.py : D → PyData
  | .none => .none
  | .bool b => .bool b
  | .int i => .int i
  | .str x => .str x
  | .tup xs => .tuple (pys xs)
  | .lst xs => .list (pys xs)
noncomputable def pys : List D → List PyData
  | [] => []
  | x :: xs => x.py :: pys xs
end
mutual
theorem IsD.reads {h : Heap} {own : Addr → Prop} : ∀ {x : D} {w : Value}, IsD h own x w → ∃ as, Reads h w x.py as
  | _, _, .none => ⟨_, .none⟩
  | _, _, .bool b => ⟨_, .bool b⟩
  | _, _, .int i t => ⟨_, .int i t⟩
  | _, _, .str x t => ⟨_, .str x t⟩
  | _, _, .tup g n r => by obtain ⟨as, q⟩ := r.reads; exact ⟨as, by rw [D.py]; exact .tuple g rfl rfl (by simpa using q)⟩
  | _, _, .lst g n r => by obtain ⟨as, q⟩ := r.reads; exact ⟨_, by rw [D.py]; exact .list g rfl rfl (by simpa using q)⟩
theorem IsDs.reads {h : Heap} {own : Addr → Prop} : ∀ {xs : List D} {ws : List Value}, IsDs h own xs ws → ∃ as, ReadsAll h ws (pys xs) as
  | _, _, .nil => ⟨_, .nil⟩
  | _, _, .cons a r => by obtain ⟨as, p⟩ := a.reads; obtain ⟨bs, q⟩ := r.reads; exact ⟨_, .cons p q⟩
end

/- a value that is read: a datum, or an owned list as it stands -/
noncomputable def rd (c : Cells) : V → Option D
  | .d x => some x
  | .obj k => match cget c k with | some (.list xs) => some (.lst xs) | _ => none
  | _ => none
theorem rd_ok {hb h : Heap} {pr : List Nat} {c : Cells} {α : Al} (C : Cst hb pr c α h) {v : V} {d : D} {g : Value} (e : rd c v = some d) (i : IsV c α h v g) : ∃ as, Reads h g d.py as := by
  cases v with
  | d x => cases e; exact IsD.reads i
  | obj k =>
    simp only [rd] at e
    split at e
    · rename_i xs hk
      cases e
      obtain ⟨ws, ep, g', r⟩ := C.cell k _ hk
      obtain ⟨as, q⟩ := r.reads
      rw [i.1]
      exact ⟨_, by rw [D.py]; exact .list g' rfl rfl (by simpa using q)⟩
    · cases e
  | val u => cases e
  | rng p q => cases e
  | bi b => cases e

/- a list's or tuple's items -/
noncomputable def seqOf (c : Cells) : V → Option (Bool × List D)
  | .d (.lst xs) => some (false, xs)
  | .d (.tup xs) => some (true, xs)
  | .obj k => match cget c k with | some (.list xs) => some (false, xs) | _ => none
  | _ => none
theorem seqOf_ok {hb h : Heap} {pr : List Nat} {c : Cells} {α : Al} (C : Cst hb pr c α h) {v : V} {b : Bool} {xs : List D} {g : Value} (e : seqOf c v = some (b, xs)) (i : IsV c α h v g) :
    ∃ a ws ep, g = .ref a ∧ h.get? a = some (sobj (if b then "tuple" else "list") ws ep) ∧ IsDs h (OwnC c α) xs ws := by
  cases v with
  | d x =>
    cases x with
    | lst ys => cases e; cases i with | lst g n r => exact ⟨_, _, _, rfl, g, r⟩
    | tup ys => cases e; cases i with | tup g n r => exact ⟨_, _, _, rfl, g, r⟩
    | _ => cases e
  | obj k =>
    simp only [seqOf] at e
    split at e
    · rename_i ys hk
      cases e
      obtain ⟨ws, ep, g', r⟩ := C.cell k _ hk
      exact ⟨_, ws, ep, i.1, g', r⟩
    · cases e
  | val u => cases e
  | rng p q => cases e
  | bi b => cases e

noncomputable def big : Nat := 1048576

noncomputable def truthK (c : Cells) (v : V) (K : Bool → Prop) : Prop :=
  match v with
  | .d .none => K false
  | .d (.bool b) => K b
  | .d (.int i) => K (i != 0)
  | .d (.str x) => x.length ≤ big ∧ K (x.length != 0)
  | v => match seqOf c v with
    | some (_, xs) => xs.length ≤ big ∧ K (!xs.isEmpty)
    | none => False

section
variable {prog : Program} {w : World} {A : Around} {hb : Heap} {pr : List Nat} {env : Env} {l : Loc} {c : Cells} {α : Al} {s : Shared}

theorem truth_ok (C : Cst hb pr c α s.heap) {v : V} {g : Value} {K : Bool → Prop} (h : truthK c v K) (i : IsV c α s.heap v g) {Q : Bool → Shared → Prop} (hq : ∀ b tk, K b → Q b { s with toks := tk }) :
    wpAny (model prog w) A (truthy g) Q no s := by
  unfold truthK at h
  split at h
  · cases i; exact truthy_none (hq _ s.toks h)
  · cases i; exact wpAny_truthy_bool (hq _ s.toks h)
  · cases i; exact PySem.P.truthy_int (hq _ s.toks h)
  · rename_i x
    cases i
    refine PySem.P.truthy_str (by have := h.1; unfold big at this; omega) (hq _ _ ?_)
    have : ((x.length : Int) != 0) = (x.length != 0) := by
      cases e : x.length with
      | zero => rfl
      | succ n => rfl
    rw [this]; exact h.2
  · split at h
    · rename_i b xs e
      obtain ⟨a, ws, ep, rfl, g', r⟩ := seqOf_ok C e i
      have hl : ws.length = xs.length := r.length.symm
      have hem : (!ws.toArray.isEmpty) = !xs.isEmpty := by
        cases xs <;> cases ws <;> first | rfl | (simp at hl) | simp
      cases b with
      | true => exact truthy_tuple ⟨_, g', rfl, _, rfl⟩ (by rw [List.size_toArray, hl]; have := h.1; unfold big at this; omega) (by rw [hem]; exact hq _ _ h.2)
      | false => exact wpAny_truthy_list ⟨_, g', rfl, _, rfl⟩ (by rw [List.size_toArray, hl]; have := h.1; unfold big at this; omega) (by rw [hem]; exact hq _ _ h.2)
    · exact h.elim

noncomputable def times (x : Str) (n : Nat) : Str := ⟨(List.replicate n x.cps).foldl (· ++ ·) #[]⟩

/- two whole numbers -/
noncomputable def int2 (a b : V) (f : Int → Int → Prop) : Prop := match a with
  | .d x => (match x with
    | .int i => (match b with
      | .d y => (match y with
        | .int j => f i j
        | _ => False)
      | _ => False)
    | _ => False)
  | _ => False
theorem int2_ok {a b : V} {f : Int → Int → Prop} (h : int2 a b f) : ∃ i j, a = .d (.int i) ∧ b = .d (.int j) ∧ f i j := by
  cases a with
  | d x =>
    cases x with
    | int i =>
      cases b with
      | d y =>
        cases y with
        | int j => exact ⟨i, j, rfl, rfl, h⟩
        | _ => exact h.elim
      | _ => exact h.elim
    | _ => exact h.elim
  | _ => exact h.elim
noncomputable def addD (x y : D) (K : D → Prop) : Prop := match x with
  | .int i => (match y with
    | .int j => K (.int (i + j))
    | _ => False)
  | .str u => (match y with
    | .str v => u.length + v.length ≤ big ∧ K (.str (u ++ v))
    | _ => False)
  | .lst xs => (match y with
    | .lst ys => xs.length + ys.length ≤ big ∧ K (.lst (xs ++ ys))
    | _ => False)
  | _ => False
/- two data -/
noncomputable def dd (a b : V) (f : D → D → Prop) : Prop := match a with
  | .d x => (match b with
    | .d y => f x y
    | _ => False)
  | _ => False
theorem dd_ok {a b : V} {f : D → D → Prop} (h : dd a b f) : ∃ x y, a = .d x ∧ b = .d y ∧ f x y := by
  cases a with
  | d x =>
    cases b with
    | d y => exact ⟨x, y, rfl, rfl, h⟩
    | _ => exact h.elim
  | _ => exact h.elim
noncomputable def multD (x y : D) (K : D → Prop) : Prop := match x with
  | .str u => (match y with
    | .int n => n = 3 ∧ u.length = 1 ∧ K (.str (times u 3))
    | _ => False)
  | _ => False
noncomputable def binK (c : Cells) (op : Operator) (a b : V) (K : D → Prop) : Prop :=
  match op with
  | .Add => dd a b fun x y => addD x y K
  | .Sub => int2 a b fun i j => K (.int (i - j))
  | .Mod => int2 a b fun i j => j ≠ 0 ∧ K (.int (i.fmod j))
  | .Mult => dd a b fun x y => multD x y K
  | _ => False

theorem sizeLine_ge {n : Nat} (h : n ≤ big) : n ≤ sizeLine := by
  rw [sizeLine_eq]; unfold big at h; omega

section
variable {x y : Value} {K : D → Prop} {Q : Value → Shared → Prop} (hq : ∀ d g h' tk, K d → Fst hb pr env l c α h' → Le c α s.heap c α h' → IsD h' (OwnC c α) d g → Q g { s with heap := h', toks := tk })
include hq
theorem add_ok (F : Fst hb pr env l c α s.heap) {a b : D} (h : addD a b K) (hx : IsD s.heap (OwnC c α) a x) (hy : IsD s.heap (OwnC c α) b y) : wpAny (model prog w) A (binaryOp .Add x y) Q no s := by
  cases a with
  | int i =>
    cases b with
    | int j => cases hx; cases hy; exact PyProof.Rows.add_int (hq _ _ s.heap _ h F (Le.refl ..) (.int _ _))
    | _ => exact h.elim
  | str u =>
    cases b with
    | str v => cases hx; cases hy; exact add_str (fun t' tk => hq _ _ s.heap tk h.2 F (Le.refl ..) (.str _ _)) (sizeLine_ge h.1)
    | _ => exact h.elim
  | lst xs =>
    cases b with
    | lst ys =>
      cases hx with | @lst _ vs a1 e1 g1 n1 r1 => cases hy with | @lst _ ws a2 e2 g2 n2 r2 =>
      have e : vs.toArray ++ ws.toArray = (vs ++ ws).toArray := by simp
      refine concat_meets ⟨_, g1, rfl⟩ ⟨_, g2, rfl⟩ noFill_list_add seq_list_add PySem.F.slot_list_add PySem.F.entry_list_add (PySem.F.args_list_add_2 _ _) (list_addW a1 a2 vs.toArray ws.toArray e1 e2 none none #[] #[] ?_) ⟨g1, g2, ?_⟩
      · rw [List.size_toArray, List.size_toArray, ← r1.length, ← r2.length]; exact sizeLine_ge h.1
      · rw [e]
        obtain ⟨F', L'⟩ := F.push (sobj "list" (vs ++ ws) 0)
        refine hq _ _ _ s.toks h.2 F' L' (.lst (Heap.get?_push_size _ rfl) (new_not_own F.toCst) ((L'.isDs r2).append (L'.isDs r1)))
    | _ => exact h.elim
  | _ => exact h.elim
theorem mult_ok (F : Fst hb pr env l c α s.heap) {a b : D} (h : multD a b K) (hx : IsD s.heap (OwnC c α) a x) (hy : IsD s.heap (OwnC c α) b y) : wpAny (model prog w) A (binaryOp .Mult x y) Q no s := by
  cases a with
  | str x' =>
    cases b with
    | int n =>
      cases hx; cases hy
      obtain ⟨rfl, hx1, h⟩ := h
      refine PySem.P.mul_str (by decide) (fun _ _ => by rw [hx1]; decide) (fun _ _ => by rw [hx1]; decide) ?_
      rw [if_neg (by decide), if_neg (by rw [hx1]; decide)]
      refine ⟨?_, hq (.str (times x' 3)) _ s.heap _ h F (Le.refl ..) (.str _ _)⟩
      have : (Str.mk ((List.replicate (3 : Int).toNat x'.cps).foldl (· ++ ·) #[])).length = 3 := by
        show ((List.replicate 3 x'.cps).foldl (· ++ ·) #[]).size = 3
        have hs : x'.cps.size = 1 := hx1
        simp [List.replicate, hs]
      rw [this]; decide
    | _ => exact h.elim
  | _ => exact h.elim
theorem bin_ok' (F : Fst hb pr env l c α s.heap) {op : Operator} {a b : V} (h : binK c op a b K) (hx : IsV c α s.heap a x) (hy : IsV c α s.heap b y) : wpAny (model prog w) A (binaryOp op x y) Q no s := by
  cases op with
  | Add => obtain ⟨u, v, rfl, rfl, h⟩ := dd_ok h; exact add_ok hq F h hx hy
  | Mult => obtain ⟨u, v, rfl, rfl, h⟩ := dd_ok h; exact mult_ok hq F h hx hy
  | Sub => obtain ⟨i, j, rfl, rfl, h⟩ := int2_ok h; cases hx; cases hy; exact PyProof.Rows.sub_int (hq _ _ s.heap _ h F (Le.refl ..) (.int _ _))
  | Mod => obtain ⟨i, j, rfl, rfl, h⟩ := int2_ok h; cases hx; cases hy; exact mod_int' h.1 (hq _ _ s.heap _ h.2 F (Le.refl ..) (.int _ _))
  | _ => exact h.elim
end

theorem bin_ok (F : Fst hb pr env l c α s.heap) {op : Operator} {a b : V} {K : D → Prop} (h : binK c op a b K) {x y : Value} (hx : IsV c α s.heap a x) (hy : IsV c α s.heap b y)
    {Q : Value → Shared → Prop} (hq : ∀ d g h' tk, K d → Fst hb pr env l c α h' → Le c α s.heap c α h' → IsD h' (OwnC c α) d g → Q g { s with heap := h', toks := tk }) : wpAny (model prog w) A (binaryOp op x y) Q no s := bin_ok' hq F h hx hy

noncomputable def pairs2 (c : Cells) (a b : V) : Option (D × D) := match rd c a, rd c b with | some x, some y => some (x, y) | _, _ => none

noncomputable def eqG (c : Cells) (a b : V) (K : Bool → Prop) : Prop := match pairs2 c a b with
  | some (x, y) => PySem.SeqAt.shaped x.py = true ∧ PySem.SeqAt.shaped y.py = true ∧ PySem.SeqAt.noMix x.py y.py = true ∧ K (PySem.Spec.same x.py y.py)
  | none => False
noncomputable def eqD (c : Cells) (x y : D) (K : Bool → Prop) : Prop := match x with
  | .int i => (match y with
    | .int j => K (i == j)
    | y => eqG c (.d (.int i)) (.d y) K)
  | .str u => (match y with
    | .str v => K (u == v)
    | y => eqG c (.d (.str u)) (.d y) K)
  | .bool p => (match y with
    | .bool q => K (p == q)
    | y => eqG c (.d (.bool p)) (.d y) K)
  | x => eqG c (.d x) (.d y) K
noncomputable def eqK (c : Cells) (a b : V) (K : Bool → Prop) : Prop := match a with
  | .d x => (match b with
    | .d y => eqD c x y K
    | b => eqG c (.d x) b K)
  | a => eqG c a b K
theorem eqK_ok {c : Cells} {a b : V} {K : Bool → Prop} (h : eqK c a b K) : (∃ i j, a = .d (.int i) ∧ b = .d (.int j) ∧ K (i == j)) ∨ (∃ u v, a = .d (.str u) ∧ b = .d (.str v) ∧ K (u == v)) ∨ (∃ p q, a = .d (.bool p) ∧ b = .d (.bool q) ∧ K (p == q)) ∨ eqG c a b K := by
  refine fold_goal fun G back => ?_
  have g := fun q => back (.inr (.inr (.inr q)))
  cases a with
  | d x =>
    cases b with
    | d y =>
      cases x with
      | int i => cases y with
        | int j => exact back (.inl ⟨i, j, rfl, rfl, h⟩)
        | _ => exact g h
      | str u => cases y with
        | str v => exact back (.inr (.inl ⟨u, v, rfl, rfl, h⟩))
        | _ => exact g h
      | bool p => cases y with
        | bool q => exact back (.inr (.inr (.inl ⟨p, q, rfl, rfl, h⟩)))
        | _ => exact g h
      | _ => exact g h
    | _ => exact g h
  | _ => exact g h
noncomputable def inK (x y : D) (K : Bool → Prop) : Prop := match x with
  | .str u => (match y with
    | .str v => K (Txt.contains v u)
    | _ => False)
  | _ => False
noncomputable def cmpK (c : Cells) (op : CmpOp) (a b : V) (K : Bool → Prop) : Prop :=
  match op with
  | .Lt => int2 a b fun i j => K (decide (i < j))
  | .LtE => int2 a b fun i j => K (decide (i ≤ j))
  | .Gt => int2 a b fun i j => K (decide (j < i))
  | .GtE => int2 a b fun i j => K (decide (j ≤ i))
  | .Eq => eqK c a b K
  | .NotEq => eqK c a b fun r => K (!r)
  | .In => dd a b fun x y => inK x y K
  | _ => False

theorem pairs2_ok (C : Cst hb pr c α s.heap) {a b : V} {x y : D} (e : pairs2 c a b = some (x, y)) {u v : Value} (hx : IsV c α s.heap a u) (hy : IsV c α s.heap b v) :
    (∃ as, Reads s.heap u x.py as) ∧ ∃ bs, Reads s.heap v y.py bs := by
  unfold pairs2 at e
  split at e
  · rename_i x' y' e1 e2; cases e; exact ⟨rd_ok C e1 hx, rd_ok C e2 hy⟩
  · cases e

theorem cmp_ok (C : Cst hb pr c α s.heap) (hu : A.units + 64 < cLine) {op : CmpOp} {a b : V} {K : Bool → Prop} (h : cmpK c op a b K) {x y : Value} (hx : IsV c α s.heap a x) (hy : IsV c α s.heap b y) {Q : Value → Shared → Prop}
    (hq : ∀ b, K b → Q (.bool b) s) : wpAny (model prog w) A (compareOp op x y) Q no s := by
  cases op with
  | Lt => obtain ⟨i, j, rfl, rfl, h⟩ := int2_ok h; cases hx; cases hy; exact PyProof.Rows.lt_int (hq _ h)
  | LtE => obtain ⟨i, j, rfl, rfl, h⟩ := int2_ok h; cases hx; cases hy; exact PyProof.Rows.le_int (hq _ h)
  | Gt => obtain ⟨i, j, rfl, rfl, h⟩ := int2_ok h; cases hx; cases hy; exact PyProof.Rows.gt_int (hq _ h)
  | GtE => obtain ⟨i, j, rfl, rfl, h⟩ := int2_ok h; cases hx; cases hy; exact PyProof.Rows.ge_int (hq _ h)
  | Eq =>
    rcases eqK_ok h with ⟨i, j, rfl, rfl, h⟩ | ⟨i, j, rfl, rfl, h⟩ | ⟨i, j, rfl, rfl, h⟩ | h
    · cases hx; cases hy; exact PyProof.Rows.eq_int (hq _ h)
    · cases hx; cases hy; exact PyProof.Rows.eq_str (hq _ h)
    · cases hx; cases hy; exact PyProof.Rows.eq_bool (hq _ h)
    · unfold eqG at h
      split at h
      · rename_i e
        obtain ⟨⟨as, r1⟩, bs, r2⟩ := pairs2_ok C e hx hy
        exact eq_dataH_same r1 r2 h.1 h.2.1 hu h.2.2.1 (hq _ h.2.2.2)
      · exact h.elim
  | NotEq =>
    rcases eqK_ok h with ⟨i, j, rfl, rfl, h⟩ | ⟨i, j, rfl, rfl, h⟩ | ⟨i, j, rfl, rfl, h⟩ | h
    · cases hx; cases hy; exact PyProof.Rows.ne_int (hq _ h)
    · cases hx; cases hy; exact PyProof.Rows.ne_str (hq _ h)
    · cases hx; cases hy; exact PyProof.Rows.ne_bool (hq _ h)
    · unfold eqG at h
      split at h
      · rename_i e
        obtain ⟨⟨as, r1⟩, bs, r2⟩ := pairs2_ok C e hx hy
        exact ne_dataH_same r1 r2 h.1 h.2.1 hu h.2.2.1 (hq _ h.2.2.2)
      · exact h.elim
  | In =>
    obtain ⟨u, v, rfl, rfl, h⟩ := dd_ok h
    cases u with
    | str u =>
      cases v with
      | str v => cases hx; cases hy; exact PySem.SB.contains (hq _ h)
      | _ => exact h.elim
    | _ => exact h.elim
  | _ => exact h.elim
end
end Mine
end
section
set_option linter.unusedVariables false
namespace Mine
open PySem PyProof.Rows

theorem seqIndex_some {i : Int} {n j : Nat} (h : seqIndex? i n = some j) : -(n : Int) ≤ i ∧ i < n ∧ j < n ∧ j = (if i < 0 then i + n else i).toNat := by
  unfold seqIndex? at h
  by_cases h0 : i < 0
  · simp only [h0, if_true] at h ⊢
    split at h
    · rename_i hc
      simp only [Bool.and_eq_true, decide_eq_true_eq] at hc
      cases h; omega
    · cases h
  · simp only [h0, if_false] at h ⊢
    split at h
    · rename_i hc
      simp only [Bool.and_eq_true, decide_eq_true_eq] at hc
      cases h; omega
    · cases h

noncomputable def notSlice : Expr → Bool
  | .Slice .. => false
  | _ => true
theorem subscripted_plain {e : Expr} (h : notSlice e = true) (o i : Value) : subscripted e false o i = operate [o, i] (getItem o i) := by
  cases e <;> first | rfl | exact absurd h Bool.false_ne_true

noncomputable def itemK (c : Cells) (o i : V) (K : D → Prop) : Prop :=
  match o, i with
  | .d (.str x), .d (.int i) => -(x.length : Int) ≤ i ∧ i < x.length ∧ x.length ≤ big ∧ K (.str (Txt.item x i))
  | o, .d (.int i) => match seqOf c o with
    | some (_, xs) => xs.length ≤ big ∧ ∃ j d, seqIndex? i xs.length = some j ∧ xs[j]? = some d ∧ K d
    | none => False
  | _, _ => False

section
variable {prog : Program} {w : World} {A : Around} {hb : Heap} {pr : List Nat} {env : Env} {l : Loc} {c : Cells} {α : Al} {s : Shared}

theorem fits_of {i : Int} {n : Nat} (h0 : -(n : Int) ≤ i) (h1 : i < n) (h2 : n ≤ big) : fitsSsize i = true := by
  unfold fitsSsize
  unfold big at h2
  have : ¬ i < -(2 ^ 63 : Int) := by omega
  have h3 : ¬ i ≥ 2 ^ 63 := by omega
  rw [decide_eq_false this, decide_eq_false h3]; rfl

theorem item_ok (C : Cst hb pr c α s.heap) {value slice : Expr} (hsl : notSlice slice = true) {o i : V} {K : D → Prop} (h : itemK c o i K) {x y : Value} (hx : IsV c α s.heap o x) (hy : IsV c α s.heap i y)
    {Q : Value → Shared → Prop} (hq : ∀ d g tk, K d → IsD s.heap (OwnC c α) d g → Q g { s with toks := tk }) : wpAny (model prog w) A (subscriptTail value slice x y) Q no s := by
  unfold itemK at h
  split at h
  · cases hx; cases hy
    obtain ⟨h1, h2, h3, h⟩ := h
    obtain ⟨T, id, hl, hT, hg⟩ := (PySem.SB.item (prog := prog) (w := w) (A := A) (E := no) (fits_of h1 h2 h3) (charAt_isSome h1 h2) (hq _ _ (s.toks + 1) h (.str _ _)) : ItemOn _ _ _ _ _ Q s)
    exact tail_any hT hl hg (subscripted_plain hsl _ _)
  · cases hy
    split at h
    · rename_i b xs e
      obtain ⟨hlen, j, d, hj, hd, hK⟩ := h
      obtain ⟨a, ws, ep, rfl, g', r⟩ := seqOf_ok C e hx
      obtain ⟨u, hu, hi⟩ := r.get j d hd
      obtain ⟨h1, h2, h3, h4⟩ := seqIndex_some hj
      have hwl : ws.length = xs.length := r.length.symm
      unfold big at hlen
      cases b with
      | true =>
        exact item_tupleT ⟨_, g', rfl, _, rfl⟩ (by omega) (by omega) (by rw [hwl]; exact hj) hu (hq d u s.toks hK hi) (subscripted_plain hsl _ _)
      | false =>
        have hl : s.heap.IsList a ws.toArray := ⟨_, g', rfl, _, rfl⟩
        refine tail_any (T := "list") hl.typeIs slot_list_getitem.lookup ?_ (subscripted_plain hsl _ _)
        split at h4
        · rename_i h0
          refine wpAny_getItem_list_neg hl h0 (by rw [List.size_toArray, hwl]; exact h1) (by omega) ?_ (hq d u s.toks hK hi)
          rw [List.size_toArray, hwl, ← h4]; simpa using hu
        · rename_i h0
          refine wpAny_getItem_list hl (by omega) (by omega) ?_ (hq d u s.toks hK hi)
          rw [← h4]; simpa using hu
    · exact h.elim
  · exact h.elim

/- a slice's part -/
noncomputable def partOf : V → Option (Option Int)
  | .d .none => some none
  | .d (.int i) => some (some i)
  | _ => none
theorem partOf_ok {h : Heap} {v : V} {p : Option Int} {g : Value} (e : partOf v = some p) (i : IsV c α h v g) : IsPart g p := by
  cases v with
  | d x => cases x <;> first | (cases e; cases i; constructor) | cases e
  | _ => cases e

/- a list's part -/
noncomputable def cut (xs : List D) (lo hi : Option Int) : List D := (xs.drop (lo.elim 0 (clipAt xs.length))).take (hi.elim xs.length (clipAt xs.length) - lo.elim 0 (clipAt xs.length))

noncomputable def sliceK (c : Cells) (o i j : V) (K : D → Prop) : Prop :=
  match partOf i, partOf j with
  | some lo, some hi => match o with
    | .d (.str x) => x.length ≤ big ∧ K (.str (Txt.slice x lo hi))
    | o => match seqOf c o with
      | some (false, xs) => xs.length ≤ big ∧ K (.lst (cut xs lo hi))
      | _ => False
  | _, _ => False

theorem letGo_str (value : Expr) (x : Str) (t : Tok) (r : Value) : letTemporaryGo value (.str x t) r = pure () := by cases value <;> rfl

theorem slice_ok (F : Fst hb pr env l c α s.heap) {value lo hi : Expr} {el eh : Option Expr} {p : Pos} {o i j : V} {K : D → Prop} (h : sliceK c o i j K) {x y z : Value} (hx : IsV c α s.heap o x) (hy : IsV c α s.heap i y) (hz : IsV c α s.heap j z)
    {Q : Value → Shared → Prop} (hq : ∀ d g h' tk, K d → Fst hb pr env l c α h' → Le c α s.heap c α h' → IsD h' (OwnC c α) d g → Q g { s with heap := h', toks := tk }) :
    wpAny (model prog w) A (subscriptTail value (.Slice el eh none p) x (.ref s.heap.objs.size)) Q no { s with heap := s.heap.push { cls := .type "slice", data := .fields #[y, z, .none] } } := by
  unfold sliceK at h
  split at h
  · rename_i lo hi e1 e2
    have p1 := partOf_ok e1 hy
    have p2 := partOf_ok e2 hz
    split at h
    · cases hx
      rename_i x t
      have kp : KeptH (fun h' => ∀ b o, s.heap.get? b = some o → h'.get? b = some o) := fun h ob k b o e => Heap.get?_push_of_some _ (k b o e)
      have fin : ∀ (lo hi : Option Int), K (.str (Txt.slice x lo hi)) → ∀ h' t' k, (∀ b o, s.heap.get? b = some o → h'.get? b = some o) → Q (.str (Txt.slice x lo hi) t') { s with heap := h', toks := k } := by
        intro lo hi hK h' t' k kk
        obtain ⟨F', L'⟩ := F.keeps kk
        exact hq _ _ h' k hK F' L' (.str _ _)
      have hsz := sizeLine_ge h.1
      cases p1 with
      | none => cases p2 with
        | none => exact tail_of_ItemOn (SBH.sliceItem_nn kp (fun _ _ e => e) (fin none none h.2) hsz) rfl (letGo_str _ _ _)
        | int j u => exact tail_of_ItemOn (SBH.sliceItem_ns kp (fun _ _ e => e) (fin none (some j) h.2) hsz) rfl (letGo_str _ _ _)
      | int i u => cases p2 with
        | none => exact tail_of_ItemOn (SBH.sliceItem_sn kp (fun _ _ e => e) (fin (some i) none h.2) hsz) rfl (letGo_str _ _ _)
        | int j u => exact tail_of_ItemOn (SBH.sliceItem_ss kp (fun _ _ e => e) (fin (some i) (some j) h.2) hsz) rfl (letGo_str _ _ _)
    · split at h
      · rename_i xs e
        obtain ⟨a, ws, ep, rfl, g', r⟩ := seqOf_ok F.toCst e hx
        have hl : s.heap.IsList a ws.toArray := ⟨_, g', rfl, _, rfl⟩
        have hwl : ws.length = xs.length := r.length.symm
        refine tail_any (T := "list") (Heap.IsList.typeIs (s := { s with heap := s.heap.push { cls := .type "slice", data := .fields #[y, z, .none] } }) (hl.push _)) slot_list_getitem.lookup
          (wpAny_getItem_list_slice (hl.push _) (Heap.IsSliceOf.new ..) p1 p2 .none (by simp) ?_ (by rw [List.size_toArray, hwl]; exact sizeLine_ge h.1)) rfl
        rw [slicePick_plain]
        obtain ⟨F1, L1⟩ := F.push { cls := .type "slice", data := .fields #[y, z, .none] }
        obtain ⟨F2, L2⟩ := F1.push (sobj "list" ((ws.drop (lo.elim 0 (clipAt xs.length))).take (hi.elim xs.length (clipAt xs.length) - lo.elim 0 (clipAt xs.length))) 0)
        have := hq (.lst (cut xs lo hi)) (.ref (s.heap.push { cls := .type "slice", data := .fields #[y, z, .none] }).objs.size) _ s.toks h.2 F2 (L1.trans L2)
          (.lst (Heap.get?_push_size _ rfl) (new_not_own F1.toCst) (((L1.trans L2).isDs r).drop _ |>.take _))
        simpa [hwl] using this
      · exact h.elim
  · exact h.elim
end
end Mine
end
section
set_option linter.unusedVariables false
namespace Mine
open PySem PyProof.Rows PySem.W

/- a plain class of the text -/
structure ClsOk (K : Frag) (C : Addr) : Prop where
  ga : findIn K (.ref C) "__getattribute__" = some (some (.builtin "object.__getattribute__"))
  gk : findIn K (.ref C) "__getattr__" = some none
  sa : findIn K (.ref C) "__setattr__" = some (some (.builtin "object.__setattr__"))
  po : plainOver K C = true
  hd : hasDictIn K C = true

theorem nsFind_look {es : Array DictEntry} {ep : Nat} {o : Obj} {x : Str} {r : Option Value} (hd : o.data = .dict es ep) (sk : StrKeys es) (e : nsFind es x = r) : lookIn x o = some r := by
  unfold lookIn
  rw [hd]
  dsimp only
  rw [Array.find?_toList]
  unfold nsFind findBy at e
  have hany : es.toList.any (·.refKey) = false := by
    rw [Array.any_toList, Array.any_eq_false']; intro e he; obtain ⟨n, t, h⟩ := sk e he; simp [DictEntry.refKey, h]
  cases hf : es.find? (·.key.isStr x) with
  | some en => rw [hf] at e; cases e; rfl
  | none => rw [hf] at e; cases e; simp only [hany]; rfl

section
variable {prog : Program} {w : World} {A : Around} {hb : Heap} {pr : List Nat} {env : Env} {l : Loc} {c : Cells} {α : Al} {s : Shared} {K : Frag}

theorem instAt (C : Cst hb pr c α s.heap) {k dk : Nat} {cl : Addr} {fs : List (Str × V)} (hk : cget c k = some (.inst cl dk)) (hdk : cget c dk = some (.ns fs)) :
    ∃ o es ep, InstAt s.heap (α k) { cls := .ref cl, dict := some (α dk) } cl (some o) ∧ s.heap.get? (α dk) = some o ∧ o.data = .dict es ep ∧ StrKeys es ∧ es.size = fs.length ∧
      ∀ x, match look fs x with
        | some v => ∃ w, nsFind es x = some w ∧ IsV c α s.heap v w
        | none => nsFind es x = none := by
  obtain ⟨h1, h2⟩ := C.cell k _ hk
  obtain ⟨o, es, ep, g, hd, sk, sz, f⟩ := C.cell dk _ hdk
  exact ⟨o, es, ep, ⟨h1, rfl, rfl, g⟩, g, hd, sk, sz, f⟩

noncomputable def handV : V → Bool
  | .val u => handedIn u
  | .bi _ => false
  | _ => true
theorem handV_ok {h : Heap} {v : V} {g : Value} (e : handV v = true) (i : IsV c α h v g) : handedIn g = true := by
  cases v with
  | d x => cases i <;> rfl
  | obj k => rw [i.1]; rfl
  | val u => cases i; exact e
  | rng p q => obtain ⟨r, _, _, _, e, _⟩ := i; rw [e]; rfl
  | bi b => cases e

/- an attribute of an instance is read -/
theorem attr_ok (F : Fst hb pr env l c α s.heap) (X : K.In hb) {k dk : Nat} {cl : Addr} {fs : List (Str × V)} (hk : cget c k = some (.inst cl dk)) (hdk : cget c dk = some (.ns fs)) (CO : ClsOk K cl)
    {nm : Str} (hn : findIn K (.ref cl) nm = some none) {v : V} (hv : look fs nm = some v) (hh : handV v = true) {expr : Bool}
    {Q : Value → Shared → Prop} (hq : ∀ g tk, IsV c α s.heap v g → Q g { s with toks := tk }) : wpAny (model prog w) A (getAttr (.ref (α k)) nm expr) Q no s := by
  obtain ⟨o, es, ep, I, g, hd, sk, sz, f⟩ := instAt F.toCst hk hdk
  have := f nm
  rw [hv] at this
  obtain ⟨u, hu, i⟩ := this
  exact get_value (X.keeps F.base) I CO.ga (findObj_own CO.hd hn rfl (nsFind_look hd sk hu)) (handV_ok hh i) (hq u _ i)

/- a method of an instance -/
theorem meth_ok (F : Fst hb pr env l c α s.heap) (X : K.In hb) {k dk : Nat} {cl : Addr} {fs : List (Str × V)} (hk : cget c k = some (.inst cl dk)) (hdk : cget c dk = some (.ns fs)) (CO : ClsOk K cl)
    {nm : Str} {f : Addr} (hn : findIn K (.ref cl) nm = some (some (.ref f))) (hf : typeIn K (.ref f) = some (.type "function")) (hv : look fs nm = none) {pl : Sem Bool}
    {Q : Value × List Value → Shared → Prop} (hq : Q (.ref f, [.ref (α k)]) s) : wpAny (model prog w) A (getMethod (.ref (α k)) nm pl) Q no s := by
  obtain ⟨o, es, ep, I, g, hd, sk, sz, fi⟩ := instAt F.toCst hk hdk
  have := fi nm
  rw [hv] at this
  exact method_fn (X.keeps F.base) I CO.ga CO.gk hn hf (by unfold shadowIn; dsimp only; rw [nsFind_look hd sk this]; rfl) hq

theorem putName_cases {name : Str} {hash : Int} {key v : Value} {o : Obj} {es : Array DictEntry} {ep : Nat} (hd : o.data = .dict es ep) (hkey : ∃ t, key = .str name t) (sk : StrKeys es) :
    ∃ es' ep', (Obj.putName name hash key v o).data = .dict es' ep' ∧ StrKeys es' ∧ es'.size = (if (nsFind es name).isSome then es.size else es.size + 1) ∧ ∀ x, nsFind es' x = if x = name then some v else nsFind es x := by
  obtain ⟨t, rfl⟩ := hkey
  obtain ⟨cl, di, da, sl⟩ := o
  subst hd
  cases hi : es.findIdx? (·.key.isStr name) with
  | some i =>
    have hs : (nsFind es name).isSome = true := by
      unfold nsFind findBy
      cases hf : es.find? (·.key.isStr name) with
      | some _ => rfl
      | none =>
        rw [Array.find?_eq_none] at hf
        obtain ⟨hlt, hp, _⟩ := Array.findIdx?_eq_some_iff_getElem.mp hi
        exact absurd hp (hf _ (Array.getElem_mem hlt))
    refine ⟨_, ep, by simp only [Obj.putName_eq, Obj.putNameByArray, hi]; rfl, sk.modify _ _, by rw [hs]; simp, fun x => ?_⟩
    exact findBy_modify (fun n v => v.isStr n) Value.isStr_inj es name x v i hi
  | none =>
    have hs : (nsFind es name).isSome = false := by
      unfold nsFind findBy
      have hf : es.find? (·.key.isStr name) = none := by
        rw [Array.find?_eq_none]
        intro e he
        simpa using Array.findIdx?_eq_none_iff.mp hi e he
      show ((es.find? (·.key.isStr name)).map _).isSome = false
      rw [hf]; rfl
    refine ⟨_, ep + 1, by simp only [Obj.putName_eq, Obj.putNameByArray, hi]; rfl, sk.push _ _ _ _, by rw [hs]; simp, fun x => ?_⟩
    exact findBy_push (fun n v => v.isStr n) es name x _ _ v (fun y => by
      show (name == y) = decide (y = name)
      by_cases h : y = name
      · subst h; simp
      · have : ¬ name = y := fun e => h e.symm
        simp [h, this]) hi

theorem length_put {β : Type} (fs : List (Str × β)) (x : Str) (v : β) : (put fs x v).length = if (look fs x).isSome then fs.length else fs.length + 1 := by
  induction fs with
  | nil => rfl
  | cons p r ih =>
    obtain ⟨y, u⟩ := p
    by_cases e : y = x
    · simp [put, look, e]
    · simp only [put, look, if_neg e, List.length_cons, ih]
      split <;> rfl

/- an attribute of an instance is stored -/
theorem setattr_ok (F : Fst hb pr env l c α s.heap) (X : K.In hb) {k dk : Nat} {cl : Addr} {fs : List (Str × V)} (hk : cget c k = some (.inst cl dk)) (hdk : cget c dk = some (.ns fs)) (CO : ClsOk K cl)
    {nm : Str} (hn : findIn K (.ref cl) nm = some none) (hsz : fs.length ≤ 1000) {v : V} {g : Value} (i : IsV c α s.heap v g)
    {Q : Unit → Shared → Prop} (hq : ∀ h' tk, Fst hb pr env l (cset c dk (.ns (put fs nm v))) α h' → Le c α s.heap (cset c dk (.ns (put fs nm v))) α h' → Q () { s with heap := h', toks := tk }) :
    wpAny (model prog w) A (setAttr (.ref (α k)) nm g) Q no s := by
  obtain ⟨o, es, ep, I, hg, hd, sk, sz, fi⟩ := instAt F.toCst hk hdk
  have X' := X.keeps F.base
  have hsome : (nsFind es nm).isSome = (look fs nm).isSome := by
    have := fi nm
    cases hl : look fs nm with
    | none => rw [hl] at this; rw [this]; rfl
    | some u => rw [hl] at this; obtain ⟨w, h1, _⟩ := this; rw [h1]; rfl
  obtain ⟨es', ep', d', sk', sz', fi'⟩ := putName_cases (hash := PyData.keyHash w.params nm) (v := g) hd ⟨s.toks + 1, rfl⟩ sk (name := nm)
  have ht : takerIn K cl nm = some none := by unfold takerIn; rw [hn]; rfl
  refine set_plain X' I CO.sa (osa_open (s := { s with toks := s.toks + 1 }) X' I CO.po ht fun b => ?_)
  obtain ⟨cd, hc, hd'⟩ := any_some CO.hd
  have hfreed : (Obj.putName nm (PyData.keyHash w.params nm) (.str nm (s.toks + 1)) g o).isFreed = false := Obj.isFreed_of_dict d'
  have D' : (s.heap.update (α dk) (Obj.putName nm (PyData.keyHash w.params nm) (.str nm (s.toks + 1)) g)).get? (α dk) = some (Obj.putName nm (PyData.keyHash w.params nm) (.str nm (s.toks + 1)) g o) := Heap.get?_update_self _ hg hfreed
  have hx := I.at_
  refine wpAny_bind (wpAny_pure (wpAny_bind (wpAny_bind (wpAny_loadPart hx (wpAny_bind (Looks.here (s := { s with toks := s.toks + 1 }) (looks_clsIn X' hc) ?_))))))
  rw [hd']
  refine wpAny_pure (a := some (α dk)) (wpAny_bind (wpAny_pure (wpAny_bind ?_)))
  unfold nsSet
  refine wpAny_bind (wpAny_bind (wpAny_askSetting (wpAny_pure (wpAny_bind (wpAny_mkText (wpAny_bind (wpAny_loadPart hg ?_)))))))
  rw [hd]
  dsimp only
  have hany : es.any (·.refKey) = false := by
    rw [Array.any_eq_false']; intro e he; obtain ⟨n, t, h⟩ := sk e he; simp [DictEntry.refKey, h]
  rw [aRefKeyMayBeTheName_at, hany, Bool.and_false]
  refine wpAny_updatePart hg ?_
  refine wpAny_bind (wpAny_lookBehind D' (by rw [d']; exact pastItsLine_dict (by rw [sz', sizeLine_eq]; split <;> omega)) ?_)
  have hdm : dk ∈ dom c := cget_mem hdk
  obtain ⟨F', L'⟩ := F.set hdm (o := .ns (put fs nm v)) (Heap.SameBut.update s.heap (α dk) (Obj.putName nm (PyData.keyHash w.params nm) (.str nm (s.toks + 1)) g)) (fun L => by
    refine ⟨_, es', ep', D', d', sk', ?_, fun x => ?_⟩
    · rw [sz', length_put, hsome, sz]
    · rw [look_put]
      have := fi x
      by_cases hx : x = nm
      · rw [if_pos hx]; exact ⟨g, by rw [fi', if_pos hx], L.isV i⟩
      · rw [if_neg hx]
        cases hl : look fs x with
        | none => rw [hl] at this; dsimp only; rw [fi', if_neg hx]; exact this
        | some u => rw [hl] at this; obtain ⟨w, h1, h2⟩ := this; exact ⟨w, by rw [fi', if_neg hx]; exact h1, L.isV h2⟩)
  exact wpAny_pure (hq _ _ F' L')
end
end Mine
end
section
set_option linter.unusedVariables false
namespace Mine
open PySem PyProof.Rows PySem.W

structure Room (d : Nat) (A : Around) : Prop where
  handled : A.handled = none
  depth : A.depth + d < recursionLimit
  units : A.units + 10 * d + 200 < cLine
theorem Room.deeper {d : Nat} {A : Around} (r : Room (d + 1) A) (env : Env) : Room d (A.deeper env) := by
  refine ⟨r.handled, ?_, ?_⟩
  · have := r.depth; show A.depth + 1 + d < recursionLimit; omega
  · have := r.units; show A.units + 3 + 10 * d + 200 < cLine; omega
theorem Room.less {d d' : Nat} {A : Around} (r : Room d A) (h : d' ≤ d) : Room d' A := ⟨r.handled, by have := r.depth; omega, by have := r.units; omega⟩
theorem Room.hu {d : Nat} {A : Around} (r : Room d A) : A.units + 64 < cLine := by have := r.units; omega
theorem Room.room {d : Nat} {A : Around} (r : Room d A) : A.depth < recursionLimit := by have := r.depth; omega

noncomputable abbrev Spec := List V → Cells → (V → Cells → Prop) → Prop

/- what a def of the text does -/
noncomputable def FnOk (prog : Program) (w : World) (hb : Heap) (d : Nat) (a : Addr) (spec : Spec) : Prop :=
  ∀ (A : Around), Room d A → ∀ (vs : List V) (ws : List Value) (c : Cells) (α : Al) (s : Shared) (K : V → Cells → Prop) (R : Result → Shared → Prop),
    1 ≤ s.toks → Cst hb [] c α s.heap → IsVs c α s.heap vs ws → spec vs c K →
    (∀ v c' α' g h' tk, K v c' → Cst hb [] c' α' h' → Le c α s.heap c' α' h' → IsV c' α' h' v g → R (.ok (.ret g)) { s with heap := h', toks := tk }) →
    codeAny (model prog w) A (.call (.ref a) ⟨ws, []⟩) R s

theorem IsVs.length {c : Cells} {α : Al} {h : Heap} : ∀ {vs : List V} {ws : List Value}, IsVs c α h vs ws → vs.length = ws.length
  | _, _, .nil => rfl
  | _, _, .cons _ r => by simp [r.length]

/- the frame's map behind the binding of the parameters -/
theorem bindL_get {kindOf : Str → Option NameKind} : ∀ (bs : List (Str × Value)) (m : Str → Option Value) (x : Str), kindOf x = some .local →
    bindL kindOf bs m x = match bs.reverse.lookup x with | some w => some w | none => m x := by
  intro bs
  induction bs with
  | nil => intro m x _; rfl
  | cons p r ih =>
    obtain ⟨n, v⟩ := p
    intro m x hx
    unfold bindL
    rw [ih _ x hx]
    simp only [List.reverse_cons, List.lookup_append, List.lookup_cons, List.lookup_nil]
    cases r.reverse.lookup x with
    | some w => rfl
    | none =>
      simp only [Option.none_or]
      by_cases e : x = n
      · subst e; simp [hx]
      · have hb : (x == n) = false := beq_eq_false_iff_ne.mpr e
        rw [hb]
        by_cases hl : kindOf n = some .local
        · simp [hl, e]
        · simp [hl]
theorem bindC_get {kindOf : Str → Option NameKind} : ∀ (bs : List (Str × Value)) (m : Str → Option Value) (x : Str), kindOf x ≠ some .local →
    bindC kindOf bs m x = match bs.reverse.lookup x with | some w => some w | none => m x := by
  intro bs
  induction bs with
  | nil => intro m x _; rfl
  | cons p r ih =>
    obtain ⟨n, v⟩ := p
    intro m x hx
    unfold bindC
    rw [ih _ x hx]
    simp only [List.reverse_cons, List.lookup_append, List.lookup_cons, List.lookup_nil]
    cases r.reverse.lookup x with
    | some w => rfl
    | none =>
      simp only [Option.none_or]
      by_cases e : x = n
      · subst e; simp [hx]
      · have hb : (x == n) = false := beq_eq_false_iff_ne.mpr e
        rw [hb]
        by_cases hl : kindOf n = some .local
        · simp [hl]
        · simp [hl, e]

/- a parameter's value: the last binding counts, names are once -/
theorem zip_look {c : Cells} {α : Al} {h : Heap} : ∀ (ps : List Str), ps.Nodup → ∀ (vs : List V) (ws : List Value), IsVs c α h vs ws → ∀ x v, look (ps.zip vs) x = some v → ∃ w, (ps.zip ws).reverse.lookup x = some w ∧ IsV c α h v w := by
  intro ps
  induction ps with
  | nil => intro _ vs ws _ x v e; simp [look] at e
  | cons p r ih =>
    intro nd vs ws i x v e
    cases i with
    | nil => simp [look] at e
    | @cons v0 w0 vs ws i0 i =>
      simp only [List.zip_cons_cons, look] at e
      simp only [List.zip_cons_cons, List.reverse_cons, List.lookup_append, List.lookup_cons, List.lookup_nil]
      by_cases hx : p = x
      · rw [if_pos hx] at e; cases e
        have : (r.zip ws).reverse.lookup x = none := by
          rw [List.lookup_eq_none_iff]
          intro q hq
          have hm := List.mem_reverse.mp hq
          have := (List.of_mem_zip hm).1
          simp only [bne_iff_ne, ne_eq]
          intro e
          exact (List.nodup_cons.mp nd).1 (by rw [hx, e]; exact this)
        rw [this, hx]
        refine ⟨w0, by simp, i0⟩
      · rw [if_neg hx] at e
        obtain ⟨w, h1, h2⟩ := ih (List.nodup_cons.mp nd).2 vs ws i x v e
        exact ⟨w, by rw [h1]; rfl, h2⟩

structure FnAt (hb : Heap) (a : Addr) (fd : FuncData) (body : List Stmt) (ps : List Str) : Prop where
  at_ : ∃ o, hb.get? a = some o ∧ o.data = .func fd
  lim : hb.NoLimit
  code : hb.CodeRec fd.code fd.qualname
  body : fd.body = .stmts body
  clo : fd.closure = []
  bind : ∀ ws : List Value, ws.length = ps.length → bindArgs fd ⟨ws, []⟩ = pure (ps.zip ws)
  nd : ps.Nodup
  kinds : ∀ p ∈ ps, fd.scope.names.lookup p = some .local ∨ (fd.scope.names.lookup p = some .cell ∧ ∀ n, ((cellsFrom n fd.scope.names []).lookup p).isSome = true)
  co : fd.scope.isCoroutine = false
  gen : fd.scope.isGenerator = false
  kind : fd.scope.kind = .function

theorem cellsFrom_ge : ∀ (names : List (Str × NameKind)) (n : Nat) (acc : List (Str × Addr)) (x : Str) (b : Addr), (x, b) ∈ cellsFrom n names acc → (x, b) ∈ acc ∨ n ≤ b
  | [], n, acc, x, b, h => .inl h
  | (name, kind) :: r, n, acc, x, b, h => by
    unfold cellsFrom at h
    split at h
    · rcases cellsFrom_ge r _ _ x b h with h | h
      · rcases List.mem_cons.mp h with h | h
        · cases h; exact .inr (Nat.le_refl _)
        · exact .inl h
      · exact .inr (Nat.le_of_succ_le h)
    · exact cellsFrom_ge r _ _ x b h

/- the frame of a call whose first parameter is a plain local name: a token is spent -/
theorem env_tk {M : Model} {A : Around} {E : Value → Shared → Prop} {s : Shared} {scope : Scope} {globals : Addr} {n : Str} {v : Value} {r : List (Str × Value)} {qual : Str} {func : Option Addr} {code : Value} {builtins : Addr} {Q : Env → Shared → Prop}
    (hk : scope.kind = .function) (hl : scope.names.lookup n = some .local)
    (hkind : ∀ x ∈ r, scope.names.lookup x.1 = some .local ∨ (scope.names.lookup x.1 = some .cell ∧ ((cellsFrom (s.heap.objs.size + 1) scope.names []).lookup x.1).isSome = true))
    (hQ : ∀ env, env = newEnv scope s.heap.objs.size globals (cellsFrom (s.heap.objs.size + 1) scope.names []) qual func code none builtins →
      ∀ s', 1 ≤ s'.toks → InCallC s env.locals (bindL env.kindOf ((n, v) :: r) fun _ => none) env.cells (bindC env.kindOf ((n, v) :: r) fun _ => none) s' → Q env s') :
    wpAny M A (newFunctionEnv scope globals [] ((n, v) :: r) qual func code none builtins) Q E s := by
  simp only [newFunctionEnv, Option.isSome_none, Bool.false_eq_true, if_false]
  refine wpAny_bind (wpAny_alloc ?_)
  refine wpAny_bind (wpAny_layCells _ (fun name kind cells => by cases hkc : kind == NameKind.cell <;> simp [hkc]) _ _ _ _ ?_)
  have ok := cellsFrom_ok scope.names (s.heap.push { cls := .type "frame", data := .dict #[] }) (s.heap.objs.size + 1) [] ⟨fun _ _ hm => (nomatch hm), List.Pairwise.nil⟩ (by rw [Heap.size_push]; exact Nat.le_refl _)
  rw [Heap.size_push] at ok
  rw [show ({ s with heap := s.heap.push { cls := .type "frame", data := .dict #[] } } : Shared).heap.objs.size = s.heap.objs.size + 1 from Heap.size_push ..]
  have I0 : InCallC s s.heap.objs.size (fun _ => none) (cellsFrom (s.heap.objs.size + 1) scope.names []) (fun _ => none) { s with heap := pushCells (s.heap.push { cls := .type "frame", data := .dict #[] }) scope.names } :=
    ⟨⟨⟨_, _, rfl⟩, (Heap.Ns.new s.heap (.type "frame")).keeps (pushCells_keeps _ _), fun b o e => pushCells_keeps _ _ b o (Heap.get?_push_of_some _ e), Nat.le_refl _⟩,
      fun n c hc => (ok.empty n c (mem_of_lookup hc)).1, ok.apart, fun n c hm => (ok.empty n c hm).2⟩
  rw [List.forIn_cons]
  refine wpAny_bind (wpAny_bind (wpAny_bind ?_))
  have hl' : (newEnv scope s.heap.objs.size globals (cellsFrom (s.heap.objs.size + 1) scope.names []) qual func code none builtins).kindOf n = some .local := hl
  refine wpAny_storeName_local hl' I0.toInCall.ns (fun h' hn' hs' => ?_) (by show (scope.kind == .class || _) = false; rw [hk]; rfl)
  refine wpAny_pure ?_
  have I1 : InCallC s s.heap.objs.size (fun y => if y = n then some v else none) (cellsFrom (s.heap.objs.size + 1) scope.names []) (fun _ => none) { s with heap := h', toks := s.toks + 1 } :=
    ⟨⟨⟨h', _, rfl⟩, hn', fun b o e => hs'.extBut b o (Nat.ne_of_lt (Nat.lt_of_lt_of_le (Heap.lt_size e) I0.toInCall.fresh)) (I0.toInCall.keep b o e), I0.toInCall.fresh⟩,
      fun k c hc => (I0.cell k c hc).sameBut hs' (Nat.ne_of_gt (I0.above k c (mem_of_lookup hc))), I0.apart, I0.above⟩
  refine wpAny_tk (s := { s with heap := h', toks := s.toks + 1 }) (Nat.le_add_left 1 _) ?_
  refine wpAny_bindParams (s₀ := s) (env := newEnv scope s.heap.objs.size globals (cellsFrom (s.heap.objs.size + 1) scope.names []) qual func code none builtins) _ (fun _ _ _ => rfl) hk r _ _ _ _ I1 hkind fun s' x ht => wpAny_pure (hQ _ rfl s' ht ?_)
  unfold bindL bindC
  rw [if_pos hl', if_pos hl']; exact x

theorem call_cells_tk {prog : Program} {w : World} {A : Around} {s : Shared} {R : Result → Shared → Prop} {a : Addr} {o : Obj} {fd : FuncData} {body : List Stmt} {vals : List Value} {binds : List (Str × Value)}
    (hs : 1 ≤ s.toks ∨ ∃ n v r, binds = (n, v) :: r ∧ fd.scope.names.lookup n = some .local)
    (hroom : A.depth < recursionLimit) (ho : s.heap.get? a = some o) (hdata : o.data = .func fd) (hlim : s.heap.NoLimit) (hcd : s.heap.CodeRec fd.code fd.qualname)
    (hbody : fd.body = .stmts body) (hbind : bindArgs fd ⟨vals, []⟩ = pure binds) (hclo : fd.closure = [])
    (hkind : ∀ x ∈ binds, fd.scope.names.lookup x.1 = some .local ∨ (fd.scope.names.lookup x.1 = some .cell ∧ ((cellsFrom (s.heap.objs.size + 1) fd.scope.names []).lookup x.1).isSome = true))
    (h : ∀ s₁, 1 ≤ s₁.toks → InCallC s (callEnvC fd s.heap.objs.size a).locals (bindL (callEnvC fd s.heap.objs.size a).kindOf binds fun _ => none) (callEnvC fd s.heap.objs.size a).cells
        (bindC (callEnvC fd s.heap.objs.size a).kindOf binds fun _ => none) s₁ →
      wpAny (model prog w) (A.deeper (callEnvC fd s.heap.objs.size a)) (execs body (callEnvC fd s.heap.objs.size a)) (fun f s' => R (.ok (.ret (match f with | .ret v => v | _ => .none))) s')
        (fun e s' => wpAny (model prog w) (A.deeper (callEnvC fd s.heap.objs.size a)) (leaving (callEnvC fd s.heap.objs.size a) e) (fun _ s'' => R (.error e) s'') (fun e' s'' => R (.error e') s'') s') s₁)
    (hco : fd.scope.isCoroutine = false) (hgen : fd.scope.isGenerator = false) (hk : fd.scope.kind = .function) :
    codeAny (model prog w) A (.call (.ref a) ⟨vals, []⟩) R s := by
  refine codeAny_call_function hroom ho hdata hco hgen hbody hcd ?_
  rw [hbind, hclo]
  rcases hs with hs | ⟨n, v, r, rfl, hl⟩
  · refine wpAny_pure (wpAny_tk hs (wpAny_newFunctionEnv_cells hk hkind fun env he s' x => ?_))
    subst he
    exact fun ht => ⟨hlim.keeps x.toInCall.keep, codeAny_func (h s' ht x)⟩
  · refine wpAny_pure (env_tk hk hl (fun x hx => hkind x (.tail _ hx)) fun env he s' ht x => ?_)
    subst he
    exact ⟨hlim.keeps x.toInCall.keep, codeAny_func (h s' ht x)⟩

/- what a def of the text does, called from outside -/
noncomputable def FnOk0 (prog : Program) (w : World) (hb : Heap) (d : Nat) (a : Addr) (spec : Spec) : Prop :=
  ∀ (A : Around), Room d A → ∀ (vs : List V) (ws : List Value) (c : Cells) (α : Al) (s : Shared) (K : V → Cells → Prop) (R : Result → Shared → Prop),
    Cst hb [] c α s.heap → IsVs c α s.heap vs ws → spec vs c K →
    (∀ v c' α' g h' tk, K v c' → Cst hb [] c' α' h' → Le c α s.heap c' α' h' → IsV c' α' h' v g → R (.ok (.ret g)) { s with heap := h', toks := tk }) →
    codeAny (model prog w) A (.call (.ref a) ⟨ws, []⟩) R s

/- a def by its body -/
theorem fn_okc {prog : Program} {w : World} {hb : Heap} {d : Nat} {a : Addr} {fd : FuncData} {body : List Stmt} {ps : List Str} (N : FnAt hb a fd body ps) {spec : Spec}
    (h : ∀ (A : Around), Room d A → ∀ (L : Addr) (vs : List V) (c : Cells) (K : V → Cells → Prop), spec vs c K → EnvOk (callEnvC fd L a) → vs.length = ps.length ∧
      OkS (model prog w) A hb (dom c) (callEnvC fd L a) ⟨ps.zip vs, c⟩ (execs body (callEnvC fd L a))
        (fun f τ => (∀ k ∈ dom c, k ∈ dom τ.c) ∧ K (match f with | .ret v => v | _ => .d .none) τ.c)) :
    ∀ (A : Around), Room (d + 1) A → ∀ (vs : List V) (ws : List Value) (c : Cells) (α : Al) (s : Shared) (K : V → Cells → Prop) (R : Result → Shared → Prop),
    (1 ≤ s.toks ∨ ∃ n r, ps = n :: r ∧ fd.scope.names.lookup n = some .local) → Cst hb [] c α s.heap → IsVs c α s.heap vs ws → spec vs c K →
    (∀ v c' α' g h' tk, K v c' → Cst hb [] c' α' h' → Le c α s.heap c' α' h' → IsV c' α' h' v g → R (.ok (.ret g)) { s with heap := h', toks := tk }) →
    codeAny (model prog w) A (.call (.ref a) ⟨ws, []⟩) R s := by
  intro A r vs ws c α s K R hs C iv sp hR
  obtain ⟨o, ho, hd⟩ := N.at_
  have base := C.base
  have EO : EnvOk (callEnvC fd s.heap.objs.size a) := by
    have cel : ∀ x b, (callEnvC fd s.heap.objs.size a).cells.lookup x = some b → s.heap.objs.size + 1 ≤ b := fun x b e => by
      rcases cellsFrom_ge _ _ _ x b (mem_of_lookup e) with h | h
      · cases h
      · exact h
    have ok := cellsFrom_ok fd.scope.names (s.heap.push { cls := .type "frame", data := .dict #[] }) (s.heap.objs.size + 1) [] ⟨fun _ _ hm => (nomatch hm), List.Pairwise.nil⟩ (by rw [Heap.size_push]; exact Nat.le_refl _)
    rw [Heap.size_push] at ok
    exact ⟨N.kind, fun x b e q => by have := cel x b e; rw [q] at this; exact absurd this (Nat.not_succ_le_self _), fun x y b h1 h2 => name_of_addr ok.apart (mem_of_lookup h1) (mem_of_lookup h2),
      by show (fd.scope.kind == .module && _) = false; rw [N.kind]; rfl⟩
  obtain ⟨hlen, hbody⟩ := h (A.deeper (callEnvC fd s.heap.objs.size a)) (r.deeper _) s.heap.objs.size vs c K sp EO
  have hwl : ws.length = ps.length := by rw [← iv.length]; exact hlen
  have hs' : 1 ≤ s.toks ∨ ∃ n v r, ps.zip ws = (n, v) :: r ∧ fd.scope.names.lookup n = some .local := by
    rcases hs with hs | ⟨n, r, rfl, hl⟩
    · exact .inl hs
    · cases ws with
      | nil => cases hwl
      | cons v ws => exact .inr ⟨n, v, r.zip ws, rfl, hl⟩
  refine call_cells_tk hs' r.room (base _ _ ho) hd (N.lim.keeps base) (N.code.keeps base) N.body (N.bind ws hwl) N.clo (fun x hx => ?_) (fun s₁ htk X => ?_) N.co N.gen N.kind
  · rcases N.kinds x.1 (List.of_mem_zip (show (x.1, x.2) ∈ ps.zip ws from hx)).1 with h | ⟨h, q⟩
    · exact .inl h
    · exact .inr ⟨h, q _⟩
  · obtain ⟨h₁, tk, rfl, kp⟩ := X.done
    obtain ⟨C1, L1⟩ := C.keeps kp
    have hfr : ∀ b, FrA (callEnvC fd s.heap.objs.size a) b → s.heap.objs.size ≤ b := by
      rintro b (rfl | ⟨x, e⟩)
      · exact Nat.le_refl _
      · exact Nat.le_of_lt (X.above x b (mem_of_lookup e))
    have hno : ∀ b, FrA (callEnvC fd s.heap.objs.size a) b → s.heap.get? b = none := fun b f => by
      cases e : s.heap.get? b with
      | none => rfl
      | some o => exact absurd (Heap.lt_size e) (Nat.not_lt_of_le (hfr b f))
    have F1 : Fst hb (dom c) (callEnvC fd s.heap.objs.size a) (ps.zip vs) c α h₁ := by
      refine ⟨⟨C1.base, C1.cell, C1.fresh, C1.inj, fun _ hk => hk⟩, ⟨_, X.toInCall.ns⟩, fun x b e => ?_, fun x v e => ?_, fun b f => ⟨?_, ?_⟩⟩
      · obtain ⟨o, h1, h2⟩ := X.cell x b e; exact ⟨o, _, h1, h2⟩
      · obtain ⟨g, hg, ig⟩ := zip_look ps N.nd vs ws (L1.isVs iv) x v e
        refine ⟨g, ?_, ig⟩
        have hx : x ∈ ps := by
          have := mem_of_lookup hg
          exact (List.of_mem_zip (List.mem_reverse.mp this)).1
        rcases N.kinds x hx with hk | ⟨hk, q⟩
        · refine .loc _ hk X.toInCall.ns ?_
          rw [bindL_get _ _ _ hk, hg]
        · have hk' : (callEnvC fd s.heap.objs.size a).kindOf x = some .cell := hk
          obtain ⟨b, hbb⟩ := Option.isSome_iff_exists.mp (q (s.heap.objs.size + 1))
          obtain ⟨o, h1, h2⟩ := X.cell x b hbb
          refine .cel b o hk' hbb h1 ?_
          rw [h2, bindC_get _ _ _ (by rw [hk']; decide), hg]
      · cases e : hb.get? b with
        | none => rfl
        | some o => have := base _ _ e; rw [hno b f] at this; cases this
      · rintro ⟨k, hk, e⟩
        obtain ⟨q, hq⟩ := C.ex hk
        rw [e, hno b f] at hq; cases hq
    have := hbody α { s with heap := h₁, toks := tk } (fun f s' => R (.ok (.ret (match f with | .ret v => v | _ => .none))) s') htk F1 (fun f τ α' g h' tk' htk' hK F' LS ig => by
      obtain ⟨hdom, hK⟩ := hK
      have LE : Le c α s.heap τ.c α' h' := by
        refine ⟨hdom, LS.agree, fun b o e n => LS.kept b o (kp b o e) (fun f => by rw [hno b f] at e; cases e) n, fun k hk => ?_⟩
        rcases LS.grow k hk with q | q
        · exact .inl q
        · refine .inr ?_
          cases e : s.heap.get? (α' k) with
          | none => rfl
          | some o => have q' : h₁.get? (α' k) = none := q; rw [kp _ _ e] at q'; cases q'
      have C' : Cst hb [] τ.c α' h' := ⟨F'.base, F'.cell, F'.fresh, F'.inj, fun k hk => by cases hk⟩
      cases f with
      | next => cases ig; exact hR (.d .none) τ.c α' .none h' tk' hK C' LE .none
      | brk => cases ig; exact hR (.d .none) τ.c α' .none h' tk' hK C' LE .none
      | cont => cases ig; exact hR (.d .none) τ.c α' .none h' tk' hK C' LE .none
      | ret v => obtain ⟨g', rfl, ig⟩ := ig; exact hR v τ.c α' g' h' tk' hK C' LE ig)
    exact wpAny_mono this (fun _ _ x => x) (fun _ _ x => x.elim)
theorem fn_ok {prog : Program} {w : World} {hb : Heap} {d : Nat} {a : Addr} {fd : FuncData} {body : List Stmt} {ps : List Str} (N : FnAt hb a fd body ps) {spec : Spec}
    (h : ∀ (A : Around), Room d A → ∀ (L : Addr) (vs : List V) (c : Cells) (K : V → Cells → Prop), spec vs c K → EnvOk (callEnvC fd L a) → vs.length = ps.length ∧
      OkS (model prog w) A hb (dom c) (callEnvC fd L a) ⟨ps.zip vs, c⟩ (execs body (callEnvC fd L a))
        (fun f τ => (∀ k ∈ dom c, k ∈ dom τ.c) ∧ K (match f with | .ret v => v | _ => .d .none) τ.c)) :
    FnOk prog w hb (d + 1) a spec := fun A r vs ws c α s K R hs C iv sp hR => fn_okc N h A r vs ws c α s K R (.inl hs) C iv sp hR
theorem fn_ok0 {prog : Program} {w : World} {hb : Heap} {d : Nat} {a : Addr} {fd : FuncData} {body : List Stmt} {n : Str} {r : List Str} (N : FnAt hb a fd body (n :: r)) (hl : fd.scope.names.lookup n = some .local) {spec : Spec}
    (h : ∀ (A : Around), Room d A → ∀ (L : Addr) (vs : List V) (c : Cells) (K : V → Cells → Prop), spec vs c K → EnvOk (callEnvC fd L a) → vs.length = (n :: r).length ∧
      OkS (model prog w) A hb (dom c) (callEnvC fd L a) ⟨(n :: r).zip vs, c⟩ (execs body (callEnvC fd L a))
        (fun f τ => (∀ k ∈ dom c, k ∈ dom τ.c) ∧ K (match f with | .ret v => v | _ => .d .none) τ.c)) :
    FnOk0 prog w hb (d + 1) a spec := fun A r' vs ws c α s K R C iv sp hR => fn_okc N h A r' vs ws c α s K R (.inr ⟨n, r, rfl, hl⟩) C iv sp hR
end Mine
end
section
set_option linter.unusedVariables false
namespace Mine
open PySem PyProof.Rows PySem.W

theorem wpAny_no {α : Type} {M : Model} {A : Around} {t : Sem α} {Q : α → Shared → Prop} {E : Value → Shared → Prop} {s : Shared} (h : wpAny M A t Q no s) : wpAny M A t Q E s :=
  wpAny_mono h (fun _ _ x => x) (fun _ _ x => x.elim)

/-! ## less is known -/
noncomputable def vOk (c' : Cells) : V → Prop
  | .obj k => k ∈ dom c'
  | _ => True
/- a value seen with fewer owned objects: the same, or a list that nobody changes any more -/
noncomputable def vW (c c' : Cells) (v v' : V) : Prop := (v' = v ∧ vOk c' v) ∨ ∃ k xs, v = .obj k ∧ cget c k = some (.list xs) ∧ v' = .d (.lst xs) ∧ k ∉ dom c'
noncomputable def locW (l : Loc) (c c' : Cells) : Loc → Prop
  | [] => True
  | (x, v') :: r => (∃ v, look l x = some v ∧ vW c c' v v') ∧ locW l c c' r
noncomputable def fsW (c c' : Cells) : List (Str × V) → List (Str × V) → Prop
  | [], [] => True
  | (x, v) :: r, (x', v') :: r' => x' = x ∧ vW c c' v v' ∧ fsW c c' r r'
  | _, _ => False
noncomputable def oW (c c' : Cells) (o o' : O) : Prop :=
  match o, o' with
  | .list xs, .list xs' => xs' = xs
  | .ns fs, .ns fs' => fsW c c' fs fs'
  | .inst C dk, .inst C' dk' => C' = C ∧ dk' = dk ∧ dk ∈ dom c'
  | .bound id k, .bound id' k' => id' = id ∧ k' = k ∧ k ∈ dom c'
  | .dic hf fs, .dic hf' fs' => hf' = hf ∧ fs' = fs
  | _, _ => False
noncomputable def celW (c c' : Cells) : Cells → Prop
  | [] => True
  | (k, o') :: r => (∃ o, cget c k = some o ∧ oW c c' o o') ∧ celW c c' r
structure Weak (pr : List Nat) (σ τ : Sg) : Prop where
  l : locW σ.l σ.c τ.c τ.l
  c : celW σ.c τ.c τ.c
  pr : ∀ k ∈ pr, k ∈ dom τ.c

section
variable {hb h : Heap} {pr : List Nat} {env : Env} {α : Al}
theorem celW_dom {c c' : Cells} : ∀ {r : Cells}, celW c c' r → ∀ k ∈ dom r, k ∈ dom c
  | [], _, k, hk => by cases hk
  | (j, o) :: r, h, k, hk => by
    rcases List.mem_cons.mp hk with e | hk
    · obtain ⟨⟨o, ho, _⟩, _⟩ := h; rw [e]; exact cget_mem ho
    · exact celW_dom h.2 k hk
theorem celW_get {c c' : Cells} : ∀ {r : Cells}, celW c c' r → ∀ k o', cget r k = some o' → ∃ o, cget c k = some o ∧ oW c c' o o'
  | [], _, k, o', e => by cases e
  | (j, u) :: r, h, k, o', e => by
    simp only [cget] at e
    by_cases q : j = k
    · rw [if_pos q] at e; cases e; rw [← q]; exact h.1
    · rw [if_neg q] at e; exact celW_get h.2 k o' e
theorem locW_get {l : Loc} {c c' : Cells} : ∀ {r : Loc}, locW l c c' r → ∀ x v', look r x = some v' → ∃ v, look l x = some v ∧ vW c c' v v'
  | [], _, x, v', e => by cases e
  | (y, u) :: r, h, x, v', e => by
    simp only [look] at e
    by_cases q : y = x
    · rw [if_pos q] at e; cases e; rw [← q]; exact h.1
    · rw [if_neg q] at e; exact locW_get h.2 x v' e
theorem fsW_look {c c' : Cells} : ∀ {fs fs' : List (Str × V)}, fsW c c' fs fs' → fs'.length = fs.length ∧ ∀ x, match look fs' x with
    | some v' => ∃ v, look fs x = some v ∧ vW c c' v v'
    | none => look fs x = none
  | [], [], _ => ⟨rfl, fun x => rfl⟩
  | (y, v) :: r, (y', v') :: r', h => by
    obtain ⟨e, hv, hr⟩ := h
    subst e
    obtain ⟨h1, h2⟩ := fsW_look hr
    refine ⟨by simp [h1], fun x => ?_⟩
    simp only [look]
    by_cases q : y' = x
    · rw [if_pos q, if_pos q]; exact ⟨v, rfl, hv⟩
    · rw [if_neg q, if_neg q]; exact h2 x
  | [], _ :: _, h => h.elim
  | _ :: _, [], h => h.elim

theorem ownW {c c' : Cells} (hd : ∀ k ∈ dom c', k ∈ dom c) {b : Addr} (o : OwnC c' α b) : OwnC c α b := by obtain ⟨k, hk, e⟩ := o; exact ⟨k, hd k hk, e⟩

theorem vW_ok (C : Cst hb pr c α h) {c' : Cells} (hd : ∀ k ∈ dom c', k ∈ dom c) {v v' : V} {g : Value} (w : vW c c' v v') (i : IsV c α h v g) : IsV c' α h v' g := by
  rcases w with ⟨rfl, ok⟩ | ⟨k, xs, rfl, hk, rfl, hn⟩
  · cases v' with
    | d x => exact IsD.step (fun _ _ _ e _ => e) (fun b o => .inl (ownW hd o)) i
    | obj k => exact ⟨i.1, ok⟩
    | val u => exact i
    | rng p q => obtain ⟨r, t, u, v, e, g, n⟩ := i; exact ⟨r, t, u, v, e, g, fun o => n (ownW hd o)⟩
    | bi b => exact i
  · obtain ⟨ws, ep, g', r⟩ := C.cell k _ hk
    rw [i.1]
    refine IsD.lst g' ?_ (r.step (fun _ _ _ e _ => e) (fun b o => .inl (ownW hd o)))
    rintro ⟨j, hj, e⟩
    exact hn (C.inj j (hd j hj) k (cget_mem hk) e ▸ hj)

theorem Weak.fst {σ τ : Sg} (W : Weak pr σ τ) (F : Fst hb pr env σ.l σ.c α h) : Fst hb pr env τ.l τ.c α h := by
  have hd := celW_dom W.c
  refine ⟨⟨F.base, fun k o' e => ?_, fun k hk => F.fresh k (hd k hk), fun k hk j hj => F.inj k (hd k hk) j (hd j hj), W.pr⟩, F.ns, F.cel, fun x v' e => ?_, fun b f => ⟨(F.fr b f).1, fun o => (F.fr b f).2 (ownW hd o)⟩⟩
  · obtain ⟨o, ho, w⟩ := celW_get W.c k o' e
    have i := F.cell k o ho
    cases o with
    | list xs => cases o' <;> first | exact w.elim | (have w : _ = xs := w; subst w; obtain ⟨ws, ep, g, r⟩ := i; exact ⟨ws, ep, g, r.step (fun _ _ _ e _ => e) (fun b o => .inl (ownW hd o))⟩)
    | ns fs =>
      cases o' with
      | ns fs' =>
        obtain ⟨q, es, ep, g, hd', sk, sz, f⟩ := i
        obtain ⟨h1, h2⟩ := fsW_look (show fsW σ.c τ.c fs fs' from w)
        refine ⟨q, es, ep, g, hd', sk, by rw [h1]; exact sz, fun x => ?_⟩
        have a := f x
        have b := h2 x
        cases hl : look fs' x with
        | none => rw [hl] at b; rw [b] at a; exact a
        | some v' =>
          rw [hl] at b
          obtain ⟨v, hv, hw⟩ := b
          rw [hv] at a
          obtain ⟨u, hu, iu⟩ := a
          exact ⟨u, hu, vW_ok F.toCst hd hw iu⟩
      | _ => exact w.elim
    | inst C dk => cases o' <;> first | exact w.elim | (obtain ⟨rfl, rfl, w⟩ := (show _ = C ∧ _ = dk ∧ dk ∈ dom τ.c from w); exact ⟨i.1, w⟩)
    | bound id k => cases o' <;> first | exact w.elim | (obtain ⟨rfl, rfl, w⟩ := (show _ = id ∧ _ = k ∧ k ∈ dom τ.c from w); exact ⟨i.1, w⟩)
    | dic hf fs => cases o' <;> first | exact w.elim | (obtain ⟨rfl, rfl⟩ := (show _ = hf ∧ _ = fs from w); exact i)
  · obtain ⟨v, hv, w⟩ := locW_get W.l x v' e
    obtain ⟨g, H, i⟩ := F.loc x v hv
    exact ⟨g, H, vW_ok F.toCst hd w i⟩
theorem Weak.leS {σ τ : Sg} (W : Weak pr σ τ) {c₀ : Cells} {α₀ : Al} {h₀ : Heap} (L : LeS pr env c₀ α₀ h₀ σ.c α h) : LeS pr env c₀ α₀ h₀ τ.c α h :=
  ⟨L.agree, L.kept, fun k hk => L.grow k (celW_dom W.c k hk)⟩
end

section
variable {prog : Program} {w : World} {A : Around} {hb : Heap} {pr : List Nat} {env : Env}

/- data stay over a statement -/
theorem LeS.isD {l : Loc} {c c' : Cells} {α α' : Al} {h h' : Heap} (F : Fst hb pr env l c α h) (L : LeS pr env c α h c' α' h') {d : D} {g : Value} (i : IsD h (OwnC c α) d g) : IsD h' (OwnC c' α') d g := by
  refine i.step (fun b o hz e n => L.kept b o e (fun f => not_froz_frame F f o hz e) n) (fun b ⟨k, hk, e⟩ => e ▸ L.grow k hk)

/-! ## while -/
theorem while_ok {σ : Sg} {test : Expr} {body orelse : List Stmt} {pos : Pos} {K : F → Sg → Prop} (I : Nat → Sg → Prop) (k : Nat) (h0 : I k σ)
    (turn : ∀ k τ, I k τ → OkE (model prog w) A hb pr env (fun _ _ _ b g => g = b) τ.l τ.c (isTrue test env (eval test env)) (fun b c' =>
      (b = true → OkS (model prog w) A hb pr env ⟨τ.l, c'⟩ (execs body env) (fun f υ => match f with
        | .next | .cont => ∃ k' υ', k' < k ∧ Weak pr υ υ' ∧ I k' υ'
        | .brk => K .next υ
        | .ret v => K (.ret v) υ)) ∧
      (b = false → OkS (model prog w) A hb pr env ⟨τ.l, c'⟩ (execs orelse env) K))) :
    OkS (model prog w) A hb pr env σ (exec (.While test body orelse pos) env) K := by
  intro α s Q hs F0 hq
  refine wpAny_While (codeAny_whileLoop (fun k s' => ∃ τ α' h' tk, s' = { s with heap := h', toks := tk } ∧ 1 ≤ tk ∧ I k τ ∧ Fst hb pr env τ.l τ.c α' h' ∧ LeS pr env σ.c α s.heap τ.c α' h') ?_ k ⟨σ, α, s.heap, s.toks, rfl, hs, h0, F0, .refl ..⟩)
  rintro k s' ⟨τ, α', h', tk, rfl, htk, hI, F, L⟩
  refine wpAny_no (turn k τ hI α' _ _ htk F fun b c1 α1 g h1 tk1 htk1 hK F1 L1 e => ?_)
  subst e
  have L01 := L.trans (L1.leS F.toCst) (fun b f => (F1.fr b f).2)
  cases g with
  | true =>
    rw [if_pos rfl]
    refine wpAny_no (hK.1 rfl α1 _ _ htk1 F1 fun f υ α2 g2 h2 tk2 htk2 hK2 F2 L2 ig => ?_)
    have L02 := L01.trans L2 (fun b f => (F2.fr b f).2)
    cases f with
    | next => cases ig; obtain ⟨k', υ', hk', W, hI'⟩ := hK2; exact ⟨k', hk', υ', α2, h2, tk2, rfl, htk2, hI', W.fst F2, W.leS L02⟩
    | cont => cases ig; obtain ⟨k', υ', hk', W, hI'⟩ := hK2; exact ⟨k', hk', υ', α2, h2, tk2, rfl, htk2, hI', W.fst F2, W.leS L02⟩
    | brk => cases ig; exact hq .next υ α2 .next h2 tk2 htk2 hK2 F2 L02 rfl
    | ret v => obtain ⟨u, rfl, iu⟩ := ig; exact hq (.ret v) υ α2 (.ret u) h2 tk2 htk2 hK2 F2 L02 ⟨u, rfl, iu⟩
  | false =>
    rw [if_neg (by decide)]
    refine wpAny_no (hK.2 rfl α1 _ _ htk1 F1 fun f υ α2 g2 h2 tk2 htk2 hK2 F2 L2 ig => ?_)
    exact hq f υ α2 g2 h2 tk2 htk2 hK2 F2 (L01.trans L2 (fun b f => (F2.fr b f).2)) ig

/-! ## what is walked -/
noncomputable def rangeD (a b : Int) : List D := (List.range (b - a).toNat).map fun i => D.int (a + (i : Nat))
noncomputable def iterItems : V → Option (List D)
  | .d (.lst xs) => some xs
  | .d (.tup xs) => some xs
  | .rng a b => some (rangeD a b)
  | _ => none

noncomputable def IterPk (prog : Program) (w : World) (s : Shared) (c : Cells) (α : Al) (xs : List D) (I : Addr) (h1 : Heap) : Prop :=
  ∃ fp P St, (∀ A' : Around, A'.handled = none → Walks prog w A' I fp [I] xs.length P St) ∧ St 0 h1 ∧ (∀ i h, St i h → (∃ o, h.get? I = some o) ∧ ∀ o, Froz o = true → h.get? I ≠ some o) ∧
    (∀ b ∈ fp, b = I ∨ ∃ o, Froz o = true ∧ s.heap.get? b = some o ∧ ¬ OwnC c α b) ∧ (∀ i u, P i u → ∀ d, xs[i]? = some d → IsD s.heap (OwnC c α) d u)

noncomputable def smallV : V → Prop
  | .rng a b => -1048576 ≤ a ∧ a ≤ 1048576 ∧ -1048576 ≤ b ∧ b ≤ 1048576
  | _ => True

theorem iter_ok {c : Cells} {α : Al} {s : Shared} (C : Cst hb pr c α s.heap) {v : V} {g : Value} {xs : List D} (e : iterItems v = some xs) (sm : smallV v) (i : IsV c α s.heap v g) {Q : Value → Shared → Prop}
    (hq : ∀ o, IterPk prog w s c α xs s.heap.objs.size (s.heap.push o) → Q (.ref s.heap.objs.size) { s with heap := s.heap.push o }) : wpAny (model prog w) A (pyIter g) Q no s := by
  cases v with
  | d x =>
    cases x with
    | lst ys =>
      cases e
      cases i with
      | @lst _ ws a ep g n r =>
      have hl : s.heap.IsList a ws.toArray := ⟨_, g, rfl, _, rfl⟩
      refine wpAny_pyIter_list hl (hq _ ?_)
      have hne : a ≠ s.heap.objs.size := Nat.ne_of_lt (Heap.lt_size g)
      have hsz : ws.toArray.size = xs.length := by rw [List.size_toArray, ← r.length]
      refine ⟨_, _, _, fun A' hh => hsz ▸ Walks.list hh s.heap.objs.size a hne ws.toArray, ⟨⟨_, Heap.get?_push_size _ rfl, rfl, rfl⟩, hl.push _⟩, ?_, ?_, ?_⟩
      · rintro i h ⟨⟨o, ho, hc, hd⟩, _⟩
        refine ⟨⟨o, ho⟩, fun o' hz e => ?_⟩
        rw [ho] at e; cases e; unfold Froz at hz; rw [hd, hc] at hz
        have hz : (Value.type "list_iterator" == Value.type "range") = true := hz
        revert hz; decide
      · intro b hb'
        simp only [List.mem_cons, List.not_mem_nil, or_false] at hb'
        rcases hb' with rfl | rfl
        · exact .inl rfl
        · exact .inr ⟨_, rfl, g, n⟩
      · intro i u hP d hd
        obtain ⟨w, hw, iw⟩ := r.get i d hd
        have : some w = some u := by rw [← hw, ← hP]; simp
        cases this; exact iw
    | tup ys =>
      cases e
      cases i with
      | @tup _ ws a ep g n r =>
      have hl : s.heap.IsTuple a ws.toArray := ⟨_, g, rfl, _, rfl⟩
      refine wpAny_pyIter_tuple hl (hq _ ?_)
      have hne : a ≠ s.heap.objs.size := Nat.ne_of_lt (Heap.lt_size g)
      have hsz : ws.toArray.size = xs.length := by rw [List.size_toArray, ← r.length]
      refine ⟨_, _, _, fun A' hh => hsz ▸ Walks.tuple hh s.heap.objs.size a hne ws.toArray, ⟨⟨_, Heap.get?_push_size _ rfl, rfl, rfl⟩, ⟨_, Heap.get?_push_of_some _ g, rfl, _, rfl⟩⟩, ?_, ?_, ?_⟩
      · rintro i h ⟨⟨o, ho, hc, hd⟩, _⟩
        refine ⟨⟨o, ho⟩, fun o' hz e => ?_⟩
        rw [ho] at e; cases e; unfold Froz at hz; rw [hd, hc] at hz
        have hz : (Value.type "tuple_iterator" == Value.type "range") = true := hz
        revert hz; decide
      · intro b hb'
        simp only [List.mem_cons, List.not_mem_nil, or_false] at hb'
        rcases hb' with rfl | rfl
        · exact .inl rfl
        · exact .inr ⟨_, rfl, g, n⟩
      · intro i u hP d hd
        obtain ⟨w, hw, iw⟩ := r.get i d hd
        have : some w = some u := by rw [← hw, ← hP]; simp
        cases this; exact iw
    | _ => cases e
  | rng a b =>
    cases e
    obtain ⟨r, t, u, v, rfl, g, n⟩ := i
    have hlen : (rangeD a b).length = (b - a).toNat := by simp [rangeD]
    have e1 : Builtin.Range.rangeSize a b 1 = (((rangeD a b).length : Nat) : Int) := by rw [hlen, rangeSize_one]; split <;> omega
    have sm : -1048576 ≤ a ∧ a ≤ 1048576 ∧ -1048576 ≤ b ∧ b ≤ 1048576 := sm
    refine wpAny_pyIter_range g (small_one (by omega) (by omega) (by omega) (by omega)) (hq _ ?_)
    refine ⟨_, _, _, fun A' hh => Walks.range hh s.heap.objs.size a 1 (rangeD a b).length, ?_, ?_, ?_, ?_⟩
    · show (s.heap.push { cls := .type "range_iterator", data := .fields #[rawInt a, rawInt (Builtin.Range.rangeSize a b 1), rawInt 1] }).get? s.heap.objs.size = some _
      rw [e1, Heap.get?_push_size _ rfl]
      simp
    · intro i h st
      refine ⟨⟨_, st⟩, fun o' hz e => ?_⟩
      have st' : h.get? s.heap.objs.size = some _ := st
      rw [st'] at e; cases e; revert hz; simp [Froz]
    · intro b hb'
      simp only [List.mem_cons, List.not_mem_nil, or_false] at hb'
      exact .inl hb'
    · rintro i u ⟨t, rfl⟩ d hd
      have : d = .int (a + (i : Nat)) := by
        unfold rangeD at hd
        rw [List.getElem?_map] at hd
        obtain ⟨j, hj, rfl⟩ := Option.map_eq_some_iff.mp hd
        obtain ⟨hlt, rfl⟩ := List.getElem?_eq_some_iff.mp hj
        simp
      rw [this, Int.mul_one]; exact .int _ _
  | _ => cases e

/-! ## for -/
noncomputable def storable (env : Env) (x : Str) : Prop := env.kindOf x = some .local ∨ (env.kindOf x = some .cell ∧ ∃ b, env.cells.lookup x = some b)

theorem for_ok (EO : EnvOk env) (hh : A.handled = none) {l : Loc} {c : Cells} {x : Str} {px pos : Pos} {iter : Expr} {body : List Stmt} {K : F → Sg → Prop} (hx : storable env x)
    (hfold : ∀ v, foldedSetIterable iter env v = pure v)
    (hi : OkE (model prog w) A hb pr env IsV l c (eval iter env) (fun v c1 => smallV v ∧ ∃ xs, iterItems v = some xs ∧ ∃ I : Nat → Sg → Prop, I 0 ⟨l, c1⟩ ∧
      (∀ i d τ, xs[i]? = some d → I i τ → OkS (model prog w) A hb pr env ⟨put τ.l x (.d d), τ.c⟩ (execs body env) (fun f υ => match f with
        | .next | .cont => ∃ υ', Weak pr υ υ' ∧ I (i + 1) υ'
        | .brk => K .next υ
        | .ret v => K (.ret v) υ)) ∧ ∀ τ, I xs.length τ → K .next τ)) :
    OkS (model prog w) A hb pr env ⟨l, c⟩ (exec (.For (.Name x px) iter body [] pos) env) K := by
  intro α s Q hs F0 hq
  refine wpAny_For (hi α s _ hs F0 fun v c1 α1 g h1 tk1 htk1 hK F1 L1 iv => ?_) hfold
  obtain ⟨sm, xs, hxs, I, hI0, turn, fin⟩ := hK
  refine iter_ok (s := { s with heap := h1, toks := tk1 }) F1.toCst hxs sm iv (fun o pk => ?_)
  obtain ⟨fp, P, St, W, st0, hns, hfp, hP⟩ := pk
  obtain ⟨F2, L2⟩ := F1.push o
  dsimp only at st0 hfp hP
  have hI1 : h1.get? h1.objs.size = none := by
    cases e : h1.get? h1.objs.size with
    | none => rfl
    | some o' => exact absurd (Heap.lt_size e) (Nat.lt_irrefl _)
  have LS1 := L1.leS (env := env) F0.toCst
  have LS2 : LeS pr env c1 α1 h1 c1 α1 (h1.push o) := L2.leS F1.toCst
  have nfI : ¬ FrA env h1.objs.size := fun f => by
    rcases f with f | ⟨y, f⟩
    · obtain ⟨m, hm⟩ := F1.ns; exact absurd hm.lt (by rw [← f]; exact Nat.lt_irrefl _)
    · obtain ⟨o, v, ho, _⟩ := F1.cel y _ f; rw [hI1] at ho; cases ho
  have nbI : hb.get? h1.objs.size = none := by
    cases e : hb.get? h1.objs.size with
    | none => rfl
    | some o' => rw [F1.base _ _ e] at hI1; cases hI1
  refine codeAny_forLoop (fun k s' => ∃ (i : Nat) (τ : Sg) (α' : Al) (h' : Heap) (tk : Nat), s' = { s with heap := h', toks := tk } ∧ 1 ≤ tk ∧ k = xs.length + 1 - i ∧ i ≤ xs.length ∧ I i τ ∧ Fst hb pr env τ.l τ.c α' h' ∧
      LeS pr env c1 α1 h1 τ.c α' h' ∧ ¬ OwnC τ.c α' h1.objs.size ∧ St i h') ?_ (xs.length + 1) ⟨0, ⟨l, c1⟩, α1, h1.push o, tk1, rfl, htk1, rfl, Nat.zero_le _, hI0, F2, LS2, new_not_own F1.toCst, st0⟩
  rintro k s' ⟨i, τ, α', h', tk, rfl, htk, rfl, hle, hI, F, L, noI, st⟩
  obtain ⟨⟨oI, hoI⟩, hnz⟩ := hns i h' st
  have L0 : ∀ {c' : Cells} {α' : Al} {h' : Heap} {l' : Loc}, Fst hb pr env l' c' α' h' → LeS pr env c1 α1 h1 c' α' h' → LeS pr env c α s.heap c' α' h' := fun F' L' =>
    LS1.trans L' (fun b f => (F'.fr b f).2)
  by_cases hlt : i < xs.length
  · refine wpAny_tk htk (wpAny_no ((W A hh).item i _ _ no hlt st fun v h2 tk2 hPv st2 hk2 => ?_))
    intro htk2
    have ks : ∀ a o, a ≠ h1.objs.size → h'.get? a = some o → h2.get? a = some o := fun a o n e => hk2 a o (by simpa using n) e
    have F3 : Fst hb pr env τ.l τ.c α' h2 := Fst.but hnz ks F noI nfI nbI
    have L3 : LeS pr env c1 α1 h1 τ.c α' h2 := ⟨L.agree, fun b o' e nf n => ks b o' (fun q => by rw [q, hI1] at e; cases e) (L.kept b o' e nf n), L.grow⟩
    have hd : xs[i]? = some xs[i] := List.getElem?_eq_getElem hlt
    have iv : IsV τ.c α' h2 (.d xs[i]) v := L3.isD F1 (hP i v hPv _ hd)
    refine wpAny_assign_Name (wpAny_tk htk2 (wpAny_no (store_ok (s := { s with heap := h2, toks := tk2 }) EO F3 hx iv fun h3 tk3 F4 L4 => ?_)))
    intro htk3
    refine wpAny_no (turn i _ τ hd hI α' _ _ htk3 F4 fun f υ α5 g5 h5 tk5 htk5 hK5 F5 L5 ig => ?_)
    have L05 : LeS pr env c1 α1 h1 υ.c α5 h5 := (L3.trans L4 (fun b f => (F4.fr b f).2)).trans L5 (fun b f => (F5.fr b f).2)
    obtain ⟨⟨o2, ho2⟩, _⟩ := hns (i + 1) h2 st2
    have hI4 : ∀ q, h2.get? h1.objs.size = some q → h3.get? h1.objs.size = some q := fun q e => L4.kept _ _ e nfI noI
    have noI5 : ¬ OwnC υ.c α5 h1.objs.size := by
      rintro ⟨j, hj, e⟩
      rcases L5.grow j hj with q | q
      · rw [e] at q; exact noI q
      · rw [e] at q
        have q : h3.get? h1.objs.size = none := q
        rw [hI4 _ ho2] at q; cases q
    have st5 : St (i + 1) h5 := by
      refine (W A hh).frame _ h2 h5 st2 fun b hb' o' e => ?_
      have nf : ¬ FrA env b := by
        rcases hfp b hb' with rfl | ⟨o₁, hz, g, n⟩
        · exact nfI
        · exact fun f => not_froz_frame F1 f o₁ hz g
      have nn : ¬ OwnC τ.c α' b := by
        rcases hfp b hb' with rfl | ⟨o₁, hz, g, n⟩
        · exact noI
        · rintro ⟨j, hj, e'⟩
          rcases L.grow j hj with q | q
          · rw [e'] at q; exact n q
          · rw [e', g] at q; cases q
      exact L5.kept b o' (L4.kept b o' e nf nn) nf nn
    cases f with
    | next =>
      cases ig; obtain ⟨υ', W', hI'⟩ := hK5
      exact ⟨_, by omega, i + 1, υ', α5, h5, tk5, rfl, htk5, rfl, hlt, hI', W'.fst F5, W'.leS L05, fun q => noI5 (ownW (celW_dom W'.c) q), st5⟩
    | cont =>
      cases ig; obtain ⟨υ', W', hI'⟩ := hK5
      exact ⟨_, by omega, i + 1, υ', α5, h5, tk5, rfl, htk5, rfl, hlt, hI', W'.fst F5, W'.leS L05, fun q => noI5 (ownW (celW_dom W'.c) q), st5⟩
    | brk => cases ig; exact hq .next υ α5 .next h5 tk5 htk5 hK5 F5 (L0 F5 L05) rfl
    | ret v => obtain ⟨u, rfl, iu⟩ := ig; exact hq (.ret v) υ α5 (.ret u) h5 tk5 htk5 hK5 F5 (L0 F5 L05) ⟨u, rfl, iu⟩
  · have hin : i = xs.length := by omega
    subst hin
    refine wpAny_tk htk (wpAny_no ((W A hh).done _ _ no st fun h2 tk2 hk2 => ?_))
    intro htk2
    have ks : ∀ a o, a ≠ h1.objs.size → h'.get? a = some o → h2.get? a = some o := fun a o n e => hk2 a o (by simpa using n) e
    have F3 : Fst hb pr env τ.l τ.c α' h2 := Fst.but hnz ks F noI nfI nbI
    have L3 : LeS pr env c1 α1 h1 τ.c α' h2 := ⟨L.agree, fun b o' e nf n => ks b o' (fun q => by rw [q, hI1] at e; cases e) (L.kept b o' e nf n), L.grow⟩
    exact wpAny_execs_nil (hq .next τ α' .next h2 tk2 htk2 (fin τ hI) F3 (L0 F3 L3) rfl)
end
end Mine
end
section
set_option linter.unusedVariables false
namespace Mine
open PySem PyProof.Rows PySem.W

theorem closure_go {env : Env} : ∀ (names : List (Str × NameKind)) (acc : List (Str × Addr)), (∀ y, (y, NameKind.free) ∈ names → ∃ b, env.cells.lookup y = some b) → (∀ y b, acc.lookup y = some b → env.cells.lookup y = some b) →
    ∃ cl, (forIn names acc (fun (x : Str × NameKind) r => if (x.2 == NameKind.free) = true then cellOf env x.1 >>= fun a => pure (ForInStep.yield ((x.1, a) :: r)) else pure (ForInStep.yield r)) : Sem (List (Str × Addr))) = pure cl ∧
      (∀ y b, cl.lookup y = some b → env.cells.lookup y = some b) ∧ (∀ y, (y, NameKind.free) ∈ names ∨ (acc.lookup y).isSome = true → (cl.lookup y).isSome = true)
  | [], acc, _, h => ⟨acc, rfl, h, fun y q => q.elim (fun q => by cases q) id⟩
  | (n, k) :: r, acc, hf, h => by
    rw [List.forIn_cons]
    by_cases hk : (k == NameKind.free) = true
    · have hk' : k = .free := beq_iff_eq.mp hk
      subst hk'
      obtain ⟨b, hb⟩ := hf n (.head _)
      have e : cellOf env n = pure b := by unfold cellOf; rw [hb]
      obtain ⟨cl, h1, h2, h3⟩ := closure_go r ((n, b) :: acc) (fun y hy => hf y (.tail _ hy)) (fun y b' q => by
        rw [List.lookup_cons] at q
        cases hy : y == n with
        | true => rw [hy] at q; cases q; rw [beq_iff_eq.mp hy]; exact hb
        | false => rw [hy] at q; exact h y b' q)
      refine ⟨cl, ?_, h2, fun y q => h3 y ?_⟩
      · simp only [e]
        exact h1
      · rcases q with q | q
        · rcases List.mem_cons.mp q with q | q
          · cases q; right; simp
          · exact .inl q
        · right
          rw [List.lookup_cons]
          cases hy : y == n with
          | true => rfl
          | false => exact q
    · obtain ⟨cl, h1, h2, h3⟩ := closure_go r acc (fun y hy => hf y (.tail _ hy)) h
      refine ⟨cl, ?_, h2, fun y q => h3 y ?_⟩
      · dsimp only
        rw [if_neg hk]; exact h1
      · rcases q with q | q
        · rcases List.mem_cons.mp q with q | q
          · cases q; exact absurd rfl hk
          · exact .inl q
        · exact .inr q
theorem closure_ok {scope : Scope} {env : Env} (hf : ∀ y, (y, NameKind.free) ∈ scope.names → ∃ b, env.cells.lookup y = some b) :
    ∃ cl, closureFor scope env = pure cl ∧ (∀ y b, cl.lookup y = some b → env.cells.lookup y = some b) ∧ (∀ y, (y, NameKind.free) ∈ scope.names → (cl.lookup y).isSome = true) := by
  obtain ⟨cl, h1, h2, h3⟩ := closure_go scope.names [] hf (fun y b q => by cases q)
  refine ⟨cl, ?_, h2, fun y hy => h3 y (.inl hy)⟩
  unfold closureFor
  refine Eq.trans ?_ (congrArg (fun (t : Sem (List (Str × Addr))) => t >>= pure) h1)
  rfl

/- the names that a comprehension sees of the frame around -/
noncomputable def freeLoc (scope : Scope) (l : Loc) : Loc := l.filter fun p => scope.names.lookup p.1 == some .free
theorem look_filter {β : Type} {q : Str × β → Bool} (hq : ∀ x u v, q (x, u) = q (x, v)) : ∀ (l : List (Str × β)) (x : Str) (v : β), look (l.filter q) x = some v → look l x = some v ∧ q (x, v) = true
  | [], _, _, h => by cases h
  | (y, u) :: r, x, v, h => by
    rw [List.filter_cons] at h
    by_cases hy : q (y, u) = true
    · rw [if_pos hy] at h
      simp only [look] at h ⊢
      by_cases e : y = x
      · rw [if_pos e] at h ⊢; cases h; exact ⟨rfl, by rw [← e]; exact hy⟩
      · rw [if_neg e] at h ⊢; exact look_filter hq r x v h
    · rw [if_neg hy] at h
      obtain ⟨h1, h2⟩ := look_filter hq r x v h
      simp only [look]
      have : y ≠ x := fun e => hy (by rw [e, hq x u v]; exact h2)
      rw [if_neg this]; exact ⟨h1, h2⟩
theorem look_freeLoc {scope : Scope} {l : Loc} {x : Str} {v : V} (h : look (freeLoc scope l) x = some v) : look l x = some v ∧ scope.names.lookup x = some .free := by
  obtain ⟨h1, h2⟩ := look_filter (fun _ _ _ => rfl) l x v h
  exact ⟨h1, beq_iff_eq.mp h2⟩

theorem lookup_relabel_free {env : Env} (hk : env.scope.kind = .function) : ∀ {names : List (Str × NameKind)} {x : Str}, names.lookup x = some .free → env.kindOf x = some .cell →
    (names.map fun (n, k) => if (k == NameKind.free && env.scope.kind == .function && env.kindOf n == some .cell) then (n, NameKind.cell) else (n, k)).lookup x = some .cell
  | [], _, h, _ => by simp at h
  | (n, k) :: r, x, h, he => by
    have ih := @lookup_relabel_free env hk r x
    show List.lookup x ((if (k == NameKind.free && env.scope.kind == .function && env.kindOf n == some .cell) = true then (n, NameKind.cell) else (n, k)) :: _) = _
    cases hx : x == n with
    | true =>
      simp only [List.lookup_cons, hx] at h
      cases h
      have : x = n := beq_iff_eq.mp hx
      subst this
      rw [if_pos (by rw [hk, he]; rfl)]
      simp
    | false =>
      simp only [List.lookup_cons, hx] at h
      by_cases hc : (k == NameKind.free && env.scope.kind == .function && env.kindOf n == some .cell) = true
      · rw [if_pos hc]; simp only [List.lookup_cons, hx]; exact ih h he
      · rw [if_neg hc]; simp only [List.lookup_cons, hx]; exact ih h he

/- a comprehension's table of names, in a frame -/
structure ScopeOk (scope : Scope) (x : Str) (env : Env) : Prop where
  cell : ∀ y ∈ scope.names, y.2 ≠ .cell
  kind : scope.kind = .function
  names : ∀ y ∈ scope.names, y.2 = .local → scope.names.lookup y.1 = some .local
  x : scope.names.lookup x = some .local
  free : ∀ y, (y, NameKind.free) ∈ scope.names → env.kindOf y = some .cell ∧ ∃ b, env.cells.lookup y = some b

theorem cset_last {c : Cells} {k : Nat} {o : O} (hk : k ∉ dom c) (o' : O) : cset (c ++ [(k, o)]) k o' = c ++ [(k, o')] := by
  induction c with
  | nil => show (if k = k then _ else _) = _; rw [if_pos rfl]; rfl
  | cons p r ih =>
    obtain ⟨j, u⟩ := p
    have h1 : j ≠ k := fun e => hk (e ▸ .head _)
    have h2 : k ∉ dom r := fun e => hk (.tail _ e)
    show (if j = k then _ else (j, u) :: cset (r ++ [(k, o)]) k _) = _
    rw [if_neg h1, ih h2]; rfl

theorem mem_of_lookup' {names : List (Str × NameKind)} {x : Str} {k : NameKind} (h : names.lookup x = some k) : (x, k) ∈ names := mem_of_lookup h

section
variable {prog : Program} {w : World} {A : Around} {hb : Heap} {pr : List Nat} {env : Env}

noncomputable abbrev okB : Cells → Al → Heap → Bool → Bool → Prop := fun _ _ _ b g => g = b

theorem env_comp (EO : EnvOk env) {scope : Scope} {x : Str} (SO : ScopeOk scope x env) {cl : List (Str × Addr)} {C : Addr} (h2 : ∀ y b, cl.lookup y = some b → env.cells.lookup y = some b) (hC : ∀ y b, env.cells.lookup y = some b → b ≠ C) : EnvOk (compEnvC scope cl C env) :=
  ⟨SO.kind, fun y b e => hC y b (h2 y b e), fun y z b e1 e2 => EO.one y z b (h2 y b e1) (h2 z b e2), by show (scope.kind == .module && _) = false; rw [SO.kind]; rfl⟩

noncomputable def CompI (prog : Program) (w : World) (A : Around) (hb : Heap) (pr : List Nat) (env : Env) (l : Loc) (x : Str) (elt : Expr) (ifs : List Expr) (scope : Scope) (kk : Nat) (v : V) (c1 : Cells) (K : V → Cells → Prop) : Prop :=
  smallV v ∧ ∃ xs, iterItems v = some xs ∧ xs.length ≤ big ∧ kk ∉ dom c1 ∧ ∃ I : Nat → List D → Cells → Prop, I 0 [] c1 ∧
    (∀ i d acc c', xs[i]? = some d → I i acc c' → kk ∉ dom c' ∧ ∀ cl C, EnvOk (compEnvC scope cl C env) →
      OkE (model prog w) A hb pr (compEnvC scope cl C env) okB (put (freeLoc scope l) x (.d d)) (c' ++ [(kk, .list acc)])
        (forIn ifs true fun c r => if r = true then do let ok ← isTrue c (compEnvC scope cl C env) (eval c (compEnvC scope cl C env)); pure (ForInStep.yield ok) else pure (ForInStep.yield r)) (fun b c2 =>
          (b = true → OkE (model prog w) A hb pr (compEnvC scope cl C env) IsV (put (freeLoc scope l) x (.d d)) c2 (eval elt (compEnvC scope cl C env)) (fun v c3 => ∃ d' c4, v = .d d' ∧ c3 = c4 ++ [(kk, .list acc)] ∧ kk ∉ dom c4 ∧ I (i + 1) (acc ++ [d']) c4)) ∧
          (b = false → ∃ c4, c2 = c4 ++ [(kk, .list acc)] ∧ kk ∉ dom c4 ∧ I (i + 1) acc c4))) ∧
    (∀ acc c', I xs.length acc c' → kk ∉ dom c' ∧ celW (c' ++ [(kk, .list acc)]) c' c' ∧ K (.d (.lst acc)) c')

theorem comp_core (EO : EnvOk env) (hh : A.handled = none) {l : Loc} {c : Cells} {α : Al} {s : Shared} {x : Str} {px pos cpos : Pos} {elt iter : Expr} {ifs : List Expr} {scope : Scope} {kk : Nat} (SO : ScopeOk scope x env) {use : Option (Value → Sem Unit)}
    {Q' : Value → Shared → Prop} {K : V → Cells → Prop} (hs : 1 ≤ s.toks) (F0 : Fst hb pr env l c α s.heap) (hfold : ∀ v, foldedSetIterable iter env v = pure v)
    (hi : OkE (model prog w) A hb pr env IsV l c (eval iter env) (fun v c1 => CompI prog w A hb pr env l x elt ifs scope kk v c1 K))
    (hend : ∀ v c' α' g h' tk C, 1 ≤ tk → K v c' → Fst hb pr env l c' α' h' → Le c α s.heap c' α' h' → IsV c' α' h' v g → ¬ FrA env C → ¬ OwnC c' α' C → hb.get? C = none → s.heap.get? C = none → (∃ m, h'.Ns C m) →
      compPost (model prog w) A no use Q' g C (.ok .next) { s with heap := h', toks := tk }) :
    wpAny (model prog w) A (comprehension (.ListComp elt [⟨.Name x px, iter, ifs, 0⟩] scope pos) scope env cpos (newList []) false (eval iter env) use) Q' no s := by
  obtain ⟨cl, hcl, hcl2, hcl3⟩ := closure_ok (scope := scope) (env := env) (fun y hy => (SO.free y hy).2)
  refine wpAny_comprehension_free rfl hfold hcl SO.kind SO.names (hi α s _ hs F0 fun v c1 α1 g h1 tk1 htk1 hK F1 L1 iv => ?_)
  refine fold_goal fun G9 back9 => ?_
  obtain ⟨sm, xs, hxs, hlen, hkk, I, hI0, turn, fin⟩ := hK
  refine back9 ?_
  refine iter_ok (s := { s with heap := h1, toks := tk1 }) F1.toCst hxs sm iv (fun o pk => ?_)
  refine fold_goal fun G9 back9 => ?_
  obtain ⟨fp, P, St, W, st0, hns, hfp, hP⟩ := pk
  refine back9 ?_
  dsimp only at st0 hfp hP hns W
  obtain ⟨F2, L2⟩ := F1.push o
  refine wpAny_newObj_type (wpAny_newFunctionEnv SO.cell (by intro y hy; simp at hy) (fun h3 hns3 hsb3 => ?_) SO.kind)
  dsimp only at hns3 hsb3 ⊢
  -- the list that is built is owned
  obtain ⟨F3, L3⟩ := F2.new (k := kk) hkk (sobj "list" [] 0) (o := .list []) (fun L => ⟨[], 0, Heap.get?_push_size _ rfl, .nil⟩)
  have hD : upd α1 kk (h1.push o).objs.size kk = (h1.push o).objs.size := if_pos rfl
  generalize hα3 : upd α1 kk (h1.push o).objs.size = α3 at F3 L3 hD
  obtain ⟨H3, hH3⟩ : ∃ H, H = (h1.push o).push (sobj "list" [] 0) := ⟨_, rfl⟩
  rw [← hH3] at F3 L3
  obtain ⟨C, hCC⟩ : ∃ C, C = H3.objs.size := ⟨_, rfl⟩
  have hns3 : h3.Ns C (fun x => List.lookup x ([] : List (Str × Value)).reverse) := by rw [hCC, hH3]; exact hns3
  have hsb3 : Heap.SameBut C (H3.push { cls := .type (if (some env).isSome then "dict" else "frame"), data := .dict #[] }) h3 := by rw [hCC, hH3]; exact hsb3
  have I1 : h1.get? h1.objs.size = none := by
    cases e : h1.get? h1.objs.size with
    | none => rfl
    | some o' => exact absurd (Heap.lt_size e) (Nat.lt_irrefl _)
  have szI : h1.objs.size < C := by rw [hCC, hH3, Heap.size_push, Heap.size_push]; exact Nat.lt_of_lt_of_le (Nat.lt_succ_self _) (Nat.le_succ _)
  have C3 : H3.get? C = none := by
    cases e : H3.get? C with
    | none => rfl
    | some o' => exact absurd (Heap.lt_size e) (by rw [← hCC]; exact Nat.lt_irrefl _)
  have k3 : ∀ b o', H3.get? b = some o' → h3.get? b = some o' := fun b o' e => by
    rw [hsb3.2 b (fun q => by rw [q, C3] at e; cases e)]
    exact Heap.get?_push_of_some _ e
  obtain ⟨F4, L4⟩ := F3.keeps k3
  have L14 := L2.trans (L3.trans L4)
  have nfI : ¬ FrA env h1.objs.size := fun f => by
    rcases f with f | ⟨y, f⟩
    · obtain ⟨m, hm⟩ := F1.ns; exact absurd hm.lt (by rw [← f]; exact Nat.lt_irrefl _)
    · obtain ⟨o, v, ho, _⟩ := F1.cel y _ f; rw [I1] at ho; cases ho
  have nfC : ¬ FrA env C := fun f => by
    rcases f with f | ⟨y, f⟩
    · obtain ⟨m, hm⟩ := F3.ns; have := hm.lt; rw [← f, ← hCC] at this; exact absurd this (Nat.lt_irrefl _)
    · obtain ⟨o, v, ho, _⟩ := F3.cel y _ f; rw [C3] at ho; cases ho
  have nb : ∀ b, h1.get? b = none → hb.get? b = none := fun b q => by
    cases e : hb.get? b with
    | none => rfl
    | some o' => rw [F1.base _ _ e] at q; cases q
  have C1 : h1.get? C = none := by
    cases e : h1.get? C with
    | none => rfl
    | some o' => exact absurd (Heap.lt_size e) (Nat.lt_asymm szI)
  have cells : ∀ y b, env.cells.lookup y = some b → b ≠ C := fun y b e q => nfC (.inr ⟨y, q ▸ e⟩)
  have EC := env_comp EO SO hcl2 cells
  have frC : ∀ b, FrA (compEnvC scope cl C env) b → b = C ∨ FrA env b := by
    rintro b (f | ⟨y, f⟩)
    · exact .inl f
    · exact .inr (.inr ⟨y, hcl2 y b f⟩)
  have noC4 : ¬ OwnC (c1 ++ [(kk, .list [])]) α3 C := by
    rintro ⟨j, hj, e⟩
    obtain ⟨q, hq⟩ := F3.toCst.ex hj
    rw [e, C3] at hq; cases hq
  -- the comprehension's own frame
  have mkF : ∀ {c' : Cells} {α' : Al} {h' : Heap} {m : Str → Option Value}, Fst hb pr env l c' α' h' → h'.Ns C m → ¬ OwnC c' α' C → Fst hb pr (compEnvC scope cl C env) (freeLoc scope l) c' α' h' := by
    intro c' α' h' m F hm hn
    refine ⟨F.toCst, ⟨m, hm⟩, fun y b e => F.cel y b (hcl2 y b e), fun y v e => ?_, fun b f => ?_⟩
    · obtain ⟨e1, e2⟩ := look_freeLoc e
      obtain ⟨g, H, i⟩ := F.loc y v e1
      obtain ⟨k1, b, hbb⟩ := SO.free y (mem_of_lookup e2)
      have hk : (compEnvC scope cl C env).kindOf y = some .cell := lookup_relabel_free EO.kind e2 k1
      have hlk : cl.lookup y = some b := by
        obtain ⟨b', hb'⟩ := Option.isSome_iff_exists.mp (hcl3 y (mem_of_lookup e2))
        have := hcl2 y b' hb'; rw [hbb] at this; cases this; exact hb'
      cases H with
      | loc m' a _ _ => rw [k1] at a; cases a
      | cel b' o' a q1 q2 q3 => rw [hbb] at q1; cases q1; exact ⟨g, .cel b o' hk hlk q2 q3, i⟩
      | free b' o' a _ _ _ => rw [k1] at a; cases a
    · rcases frC b f with rfl | f
      · exact ⟨nb _ C1, hn⟩
      · exact F.fr b f
  have fins : ∀ (r : Result) (s' : Shared), (∃ (c' : Cells) (α' : Al) (h' : Heap) (tk : Nat) (acc : List D) (m : Str → Option Value), r = .ok .next ∧ s' = { s with heap := h', toks := tk } ∧ 1 ≤ tk ∧ I xs.length acc c' ∧ kk ∉ dom c' ∧
      Fst hb pr env l (c' ++ [(kk, .list acc)]) α' h' ∧ Le c1 α1 h1 (c' ++ [(kk, .list acc)]) α' h' ∧ ¬ OwnC (c' ++ [(kk, .list acc)]) α' C ∧ h'.Ns C m ∧ α' kk = (h1.push o).objs.size) →
      compPost (model prog w) A no use Q' (.ref (h1.push o).objs.size) C r s' := by
    intro r s' h9
    refine fold_goal fun G9 back9 => ?_
    obtain ⟨c', α', h', tk, acc, m, rfl, rfl, htk, hI, hk', F, L, nC, hm, hkk'⟩ := h9
    refine back9 ?_
    obtain ⟨hk2, hcel, hK⟩ := fin acc c' hI
    have hsub : ∀ k ∈ dom c', k ∈ dom (c' ++ [(kk, .list acc)]) := celW_dom hcel
    have W' : Weak pr ⟨l, c' ++ [(kk, .list acc)]⟩ ⟨[], c'⟩ := ⟨trivial, hcel, fun k hk => by
      have h1 := L.dom k (F1.prs k hk)
      rw [dom_append] at h1
      rcases List.mem_append.mp h1 with h1 | h1
      · exact h1
      · have : k = kk := by simpa using h1
        subst this; exact absurd (F1.prs k hk) hkk⟩
    have Cs := (W'.fst F).toCst
    have LL : Le c1 α1 h1 c' α' h' := by
      refine ⟨fun k hk => ?_, L.agree, L.kept, fun k hk => L.grow k (hsub k hk)⟩
      have h1 := L.dom k hk
      rw [dom_append] at h1
      rcases List.mem_append.mp h1 with h1 | h1
      · exact h1
      · have : k = kk := by simpa using h1
        subst this; exact absurd hk hkk
    have F' : Fst hb pr env l c' α' h' := F1.le LL Cs
    have ig : IsV c' α' h' (.d (.lst acc)) (.ref (h1.push o).objs.size) := by
      have := vW_ok (c' := c') F.toCst hsub (v := .obj kk) (v' := .d (.lst acc)) (g := .ref (α' kk)) (.inr ⟨kk, acc, rfl, by rw [cget_append hk', if_pos rfl], rfl, hk'⟩) ⟨rfl, by rw [dom_append]; simp⟩
      rw [hkk'] at this; exact this
    exact hend _ c' α' _ h' tk C htk hK F' (L1.trans LL) ig nfC (fun q => nC (ownW hsub q)) (nb _ C1) (by
      cases e : s.heap.get? C with
      | none => rfl
      | some o' =>
        by_cases q : OwnC c α C
        · obtain ⟨j, hj, e'⟩ := q
          obtain ⟨q', hq'⟩ := F1.toCst.ex (L1.dom j hj)
          rw [L1.agree j hj, e', C1] at hq'; cases hq'
        · rw [L1.kept _ _ e q] at C1; cases C1) ⟨m, hm⟩
  have st3 : St 0 h3 := (W A hh).frame 0 _ _ st0 fun b _ o' e => k3 b o' (by rw [hH3]; exact Heap.get?_push_of_some _ e)
  have noI4 : ¬ OwnC (c1 ++ [(kk, .list [])]) α3 h1.objs.size := by
    rintro ⟨j, hj, e⟩
    rcases L3.grow j hj with q | q
    · rw [e] at q; exact new_not_own F1.toCst q
    · obtain ⟨⟨o', e'⟩, _⟩ := hns 0 _ st0
      rw [e, e'] at q; cases q
  have hIC : h1.objs.size ≠ C := Nat.ne_of_lt szI
  have nfIc : ¬ FrA (compEnvC scope cl C env) h1.objs.size := fun f => (frC _ f).elim hIC nfI
  have loop : codeAny (model prog w) A (.compLoop (.ListComp elt [⟨.Name x px, iter, ifs, 0⟩] scope pos) 0 (.ref h1.objs.size) (.ref (h1.push o).objs.size) (compEnvC scope cl C env)) (compPost (model prog w) A no use Q' (.ref (h1.push o).objs.size) C)
      { s with heap := h3, toks := tk1 + ([] : List (Str × Value)).length } := by
    refine codeAny_compLoop_tests (fun k s' => ∃ (i : Nat) (acc : List D) (c' : Cells) (α' : Al) (h' : Heap) (tk : Nat) (m : Str → Option Value), s' = { s with heap := h', toks := tk } ∧ 1 ≤ tk ∧ k = xs.length + 1 - i ∧ i ≤ xs.length ∧ acc.length ≤ i ∧ I i acc c' ∧ kk ∉ dom c' ∧
      Fst hb pr env l (c' ++ [(kk, .list acc)]) α' h' ∧ Le c1 α1 h1 (c' ++ [(kk, .list acc)]) α' h' ∧ ¬ OwnC (c' ++ [(kk, .list acc)]) α' C ∧ h'.Ns C m ∧ α' kk = (h1.push o).objs.size ∧ ¬ OwnC (c' ++ [(kk, .list acc)]) α' h1.objs.size ∧ St i h') ?_ (xs.length + 1)
      ⟨0, [], c1, α3, h3, _, _, rfl, htk1, rfl, Nat.zero_le _, Nat.le_refl _, hI0, hkk, F4, L14, noC4, hns3, hD, noI4, st3⟩
    intro k s' h9
    refine fold_goal fun G9 back9 => ?_
    obtain ⟨i, acc, c', α', h', tk, m, rfl, htk, rfl, hle, hacc, hI, hkk', F, L, nC, hm, hkD, nI, st⟩ := h9
    refine back9 ?_
    obtain ⟨⟨oI, hoI⟩, hnz⟩ := hns i h' st
    have L01 : ∀ {b o'}, h1.get? b = some o' → ¬ OwnC c1 α1 b → ¬ OwnC (c' ++ [(kk, .list acc)]) α' b := fun e n => L.not_own e n
    by_cases hlt : i < xs.length
    · refine wpAny_tk htk (wpAny_no ((W A hh).item i _ _ no hlt st fun v h2 tk2 hPv st2 hk2 => ?_))
      intro htk2
      have ks : ∀ a o, a ≠ h1.objs.size → h'.get? a = some o → h2.get? a = some o := fun a o n e => hk2 a o (by simpa using n) e
      have F2' : Fst hb pr env l (c' ++ [(kk, .list acc)]) α' h2 := Fst.but hnz ks F nI nfI (nb _ I1)
      have L2' : Le c1 α1 h1 (c' ++ [(kk, .list acc)]) α' h2 := ⟨L.dom, L.agree, fun b o' e n => ks b o' (fun q => by rw [q, I1] at e; cases e) (L.kept b o' e n), L.grow⟩
      have hm2 : h2.Ns C m := let ⟨o', es, ep, e, r⟩ := hm; ⟨o', es, ep, ks C o' (Ne.symm hIC) e, r⟩
      have hd : xs[i]? = some xs[i] := List.getElem?_eq_getElem hlt
      have iv2 : IsV (c' ++ [(kk, .list acc)]) α' h2 (.d xs[i]) v := L2'.isD (hP i v hPv _ hd)
      have FC := mkF F2' hm2 nC
      refine wpAny_assign_Name (wpAny_tk htk2 (wpAny_no (store_loc_ok (s := { s with heap := h2, toks := tk2 }) EC FC (lookup_relabel_local SO.x) iv2 fun h5 tk5 F5 hs5 => ?_)))
      intro htk5
      have hs5 : Heap.SameBut C h2 h5 := hs5
      have nzC : ∀ o, Froz o = true → h2.get? C ≠ some o := fun o' hz e => not_froz_frame FC (.inl rfl) o' hz e
      have F5' : Fst hb pr env l (c' ++ [(kk, .list acc)]) α' h5 := Fst.but nzC (same_ext hs5) F2' nC nfC (nb _ C1)
      have L5' : Le c1 α1 h1 (c' ++ [(kk, .list acc)]) α' h5 := ⟨L.dom, L.agree, fun b o' e n => same_ext hs5 b o' (fun q => by rw [q, C1] at e; cases e) (L2'.kept b o' e n), L.grow⟩
      have st5 : St (i + 1) h5 := (W A hh).frame _ h2 h5 st2 fun b hb' o' e => same_ext hs5 b o' (fun q => by
        rcases hfp b hb' with rfl | ⟨o₁, hz, g, n⟩
        · exact hIC q
        · rw [q, C1] at g; cases g) e
      obtain ⟨_, tr⟩ := turn i _ acc c' hd hI
      -- what stays while the test and the element run
      have stay : ∀ {c2 : Cells} {α2 : Al} {h6 : Heap}, Le (c' ++ [(kk, .list acc)]) α' h5 c2 α2 h6 → Cst hb pr c2 α2 h6 → Fst hb pr env l c2 α2 h6 ∧ Le c1 α1 h1 c2 α2 h6 ∧ ¬ OwnC c2 α2 C ∧ (∃ m, h6.Ns C m) ∧ α2 kk = (h1.push o).objs.size ∧ ¬ OwnC c2 α2 h1.objs.size ∧ St (i + 1) h6 := by
        intro c2 α2 h6 L6 C6
        have hkkm : kk ∈ dom (c' ++ [(kk, .list acc)]) := by rw [dom_append]; simp
        refine fold_goal fun G9 back9 => ?_
        obtain ⟨mC, oC, es, ep, eC, rC⟩ := F5.ns
        refine back9 ?_
        obtain ⟨⟨oI5, eI5⟩, _⟩ := hns (i + 1) h5 st5
        refine ⟨F5'.le L6 C6, L5'.trans L6, L6.not_own eC nC, ⟨mC, oC, es, ep, L6.kept _ _ eC nC, rC⟩, (L6.agree kk hkkm).trans hkD, L6.not_own eI5 nI, ?_⟩
        refine (W A hh).frame _ h5 h6 st5 fun b hb' o' e => L6.kept b o' e ?_
        rcases hfp b hb' with rfl | ⟨o₁, hz, g, n⟩
        · exact nI
        · exact L.not_own g n
      refine wpAny_no (tr cl C EC α' _ _ htk5 F5 fun b c2 α2 gb h6 tk6 htk6 hK6 F6 L6 eb => ?_)
      subst eb
      refine fold_goal fun G9 back9 => ?_
      obtain ⟨F6', L6', nC6, ⟨m6, hm6⟩, hkD6, nI6, st6⟩ := stay L6 F6.toCst
      refine back9 ?_
      cases gb with
      | false =>
        rw [if_neg (by decide)]
        obtain ⟨c4, rfl, hk4, hI4⟩ := hK6.2 rfl
        exact ⟨_, by omega, i + 1, acc, c4, α2, h6, tk6, m6, rfl, htk6, rfl, hlt, by omega, hI4, hk4, F6', L6', nC6, hm6, hkD6, nI6, st6⟩
      | true =>
        rw [if_pos rfl]
        refine wpAny_no (hK6.1 rfl α2 _ _ htk6 F6 fun v7 c3 α3' g7 h7 tk7 htk7 hK7 F7 L7 i7 => ?_)
        refine fold_goal fun G9 back9 => ?_
        obtain ⟨d', c4, rfl, rfl, hk4, hI4⟩ := hK7
        refine back9 ?_
        refine fold_goal fun G9 back9 => ?_
        obtain ⟨F7', L7', nC7, ⟨m7, hm7⟩, hkD7, nI7, st7⟩ := stay (L6.trans L7) F7.toCst
        refine back9 ?_
        obtain ⟨ws, ep, gk, rk⟩ := F7.toCst.cell kk (.list acc) (by rw [cget_append hk4, if_pos rfl])
        rw [hkD7] at gk
        refine wpAny_list_append_plain (items := ws.toArray) ⟨ep, gk⟩ (fun h8 hl8 hs8 => ?_) (by rw [List.size_toArray, ← rk.length]; exact sizeLine_ge (by omega))
        have hkkm : kk ∈ dom (c4 ++ [(kk, .list acc)]) := by rw [dom_append]; simp
        rw [← hkD7] at hs8
        have ecs := cset_last (o := .list acc) hk4 (.list (acc ++ [d']))
        obtain ⟨F8, L8⟩ := F7'.set hkkm (o := .list (acc ++ [d'])) hs8 (fun L => by
          obtain ⟨ep8, g8⟩ := hl8
          refine ⟨ws ++ [g7], ep8, ?_, (IsDs.append (.cons (L.isD i7) .nil) (L.isDs rk))⟩
          rw [hkD7, g8]; simp)
        rw [ecs] at F8 L8
        have nzk : ∀ b, ¬ OwnC (c4 ++ [(kk, .list acc)]) α3' b → b ≠ α3' kk := fun b n e => n ⟨kk, hkkm, e.symm⟩
        refine ⟨_, by omega, i + 1, acc ++ [d'], c4, α3', h8, tk7, m7, rfl, htk7, rfl, hlt, ?_, hI4, hk4, F8, L7'.trans L8, ?_, hm7.sameBut hs8 (nzk _ nC7), hkD7, ?_, ?_⟩
        · rw [List.length_append, List.length_singleton]; omega
        · rintro ⟨j, hj, e⟩; exact nC7 ⟨j, by rw [dom_append] at hj ⊢; exact hj, e⟩
        · rintro ⟨j, hj, e⟩; exact nI7 ⟨j, by rw [dom_append] at hj ⊢; exact hj, e⟩
        · refine (W A hh).frame _ h7 h8 st7 fun b hb' o' e => L8.kept b o' e ?_
          rcases hfp b hb' with rfl | ⟨o₁, hz, g, n⟩
          · exact nI7
          · exact L7'.not_own g n
    · have hin : i = xs.length := by omega
      subst hin
      refine wpAny_tk htk (wpAny_no ((W A hh).done _ _ no st fun h2 tk2 hk2 => ?_))
      intro htk2
      have ks : ∀ a o, a ≠ h1.objs.size → h'.get? a = some o → h2.get? a = some o := fun a o n e => hk2 a o (by simpa using n) e
      have F2' : Fst hb pr env l (c' ++ [(kk, .list acc)]) α' h2 := Fst.but hnz ks F nI nfI (nb _ I1)
      have L2' : Le c1 α1 h1 (c' ++ [(kk, .list acc)]) α' h2 := ⟨L.dom, L.agree, fun b o' e n => ks b o' (fun q => by rw [q, I1] at e; cases e) (L.kept b o' e n), L.grow⟩
      have hm2 : h2.Ns C m := let ⟨o', es, ep, e, r⟩ := hm; ⟨o', es, ep, ks C o' (Ne.symm hIC) e, r⟩
      exact fins _ _ ⟨c', α', h2, tk2, acc, m, rfl, rfl, htk2, hI, hkk', F2', L2', nC, hm2, hkD⟩
  have R := codeAny_compStart_list loop ((W A hh).self 0 _ _ (notedBy (model prog w) A (compEnvC scope cl C env) fun x s' => compPost (model prog w) A no use Q' (.ref (h1.push o).objs.size) C (.error x) s') st3 loop)
  subst hCC hH3
  exact R
end
end Mine
end
section
set_option linter.unusedVariables false
namespace Mine
open PySem PyProof.Rows PySem.W

noncomputable def isStar : Expr → Bool
  | .Starred .. => true
  | _ => false
theorem star_plain (env : Env) (pos : Pos) : ∀ {args : List Expr}, args.all (fun e => !isStar e) = true → backTo pos (starEach args env) = args.map fun e => (false, eval e env)
  | [], _ => rfl
  | e :: r, h => by
    simp only [List.all_cons, Bool.and_eq_true] at h
    have ih := star_plain env pos h.2
    have : starEach (e :: r) env = (false, eval e env) :: starEach r env := by
      cases e <;> first | rfl | exact absurd h.1 Bool.false_ne_true
    rw [this]
    show (false, if false = true then _ else eval e env) :: backTo pos (starEach r env) = _
    rw [ih]; rfl

/- a call whose function is of any make -/
theorem callWith_any {M : Model} {A : Around} {pos : Pos} {f : Value} {first : List Value} {args : List (Bool × Sem Value)} {Q : Value → Shared → Prop} {E : Value → Shared → Prop} {s : Shared} (hplain : args.any (·.1) = false)
    (h : wpAny M A (evalArgs f true args []) (fun a s₁ => (∃ k, Looks M s₁.heap (keeperOf f) k) ∧ wpAny M A (call f (first ++ a.pos) a.kw) Q E s₁) E s) : wpAny M A (callWith pos f first args []) Q E s := by
  unfold callWith
  refine wpAny_bind (wpAny_holding (wpAny_mono h (fun x s₁ h₁ => wpAny_bind (wpAny_standAt ?_)) fun _ _ x => x))
  obtain ⟨⟨k, hk⟩, hc⟩ := h₁
  have tail : ∀ {t : Sem Value}, wpAny M A t Q E s₁ → wpAny M A (t >>= fun r => holding [r] point >>= fun _ => pure r) Q E s₁ :=
    fun ht => wpAny_bind (wpAny_mono ht (fun r s₂ hr => wpAny_bind (wpAny_holding (wpAny_point (wpAny_pure hr)))) fun _ _ x => x)
  have mk : ∀ v, wpAny M A (callMarked v f (first ++ x.pos) x.kw) Q E s₁ := fun v => by unfold callMarked; exact Calls.wpAny_keep hc
  simp only [hplain, List.any_nil, Bool.or_false]
  refine wpAny_bind (hk.here ?_)
  cases k
  · dsimp only
    split
    · exact tail hc
    · exact tail (mk _)
  · dsimp only
    split
    · exact tail hc
    · exact tail (mk _)
  · exact tail hc
  · exact tail (wpAny_operating hc)

noncomputable def notSuper : Expr → Bool
  | .Call (.Name id _) [] [] _ => id != ("super" : Str)
  | _ => true
theorem base_of {M : Model} {A : Around} {Q : Value → Shared → Prop} {E : Value → Shared → Prop} {s : Shared} {o : Expr} {nm : Str} {env : Env} {t : Sem Value} (h : notSuper o = true) (ht : wpAny M A t Q E s) : wpAny M A (attributeBase o nm env t) Q E s := by
  unfold attributeBase
  split
  · rename_i id p pos
    have h : (id != ("super" : Str)) = true := h
    simp only [h, Bool.true_or, if_true]
    exact ht
  · exact ht

theorem call_attr {M : Model} {A : Around} {Q : Value → Shared → Prop} {E : Value → Shared → Prop} {s : Shared} {o : Expr} {nm : Str} {apos pos : Pos} {args : List Expr} {env : Env} (hsup : notSuper o = true) (hst : args.all (fun e => !isStar e) = true)
    (hfew : args.length < 30) (hline : (apos.endLine == pos.line) = true)
    (h : wpAny M A (eval o env) (fun ov s₁ => wpAny M A (getMethod ov nm (do return (← importBound o env).getD true)) (fun fx s₂ => wpAny M A (callWith pos fx.1 fx.2 (args.map fun e => (false, eval e env)) []) Q E s₂) E s₁) E s) :
    wpAny M A (eval (.Call (.Attribute o nm apos) args [] pos) env) Q E s := by
  rw [arm_eval_Call, star_plain env pos hst]
  refine wpAny_bind (base_of hsup (wpAny_mono h (fun ov s₁ h₁ => wpAny_bind (wpAny_standAt ?_)) fun _ _ e => e))
  have hform : methodCallForm (args.length + ([] : List Keyword).length) (args.map fun e => (false, eval e env)) (backToKw pos (keywordEach [] env)) = true := by
    unfold methodCallForm
    have h1 : (args.map fun e => (false, eval e env)).all (fun x => !x.1) = true := by simp
    rw [h1]
    simp [backToKw, keywordEach, hfew]
  have hpos : methodCallPos true o env apos pos = pure pos := by unfold methodCallPos; simp [hline]
  unfold methodCall
  rw [hform]
  refine wpAny_bind (wpAny_holding (wpAny_mono h₁ (fun fx s₂ h₂ => ?_) fun _ _ e => e))
  exact wpAny_bind (wpAny_of_eq hpos h₂)

section
variable {prog : Program} {w : World} {A : Around} {hb : Heap} {pr : List Nat} {env : Env}

noncomputable def OkArgs (prog : Program) (w : World) (A : Around) (hb : Heap) (pr : List Nat) (env : Env) (l : Loc) : List Expr → Cells → (List V → Cells → Prop) → Prop
  | [], c, K => K [] c
  | e :: r, c, K => OkE (model prog w) A hb pr env IsV l c (eval e env) (fun v c' => OkArgs prog w A hb pr env l r c' (fun vs c'' => K (v :: vs) c''))

theorem args_ok {l : Loc} : ∀ {args : List Expr} {c : Cells} {K : List V → Cells → Prop}, OkArgs prog w A hb pr env l args c K → OkE (model prog w) A hb pr env IsVs l c (spliced (args.map fun e => (false, eval e env))) K
  | [], c, K, h => fun α s Q hs F hq => Calls.spliced_nil (hq [] c α [] s.heap s.toks hs h F (.refl ..) .nil)
  | e :: r, c, K, h => fun α s Q hs F hq => by
    refine Calls.spliced_cons (h α s _ hs F fun v c1 α1 g h1 tk1 htk1 hK F1 L1 i1 => ?_)
    refine args_ok hK α1 _ _ htk1 F1 fun vs c2 α2 gs h2 tk2 htk2 hK2 F2 L2 i2 => ?_
    exact hq _ _ _ _ _ _ htk2 hK2 F2 (L1.trans L2) (.cons (L2.isV i1) i2)

/- the call itself, its function known -/
theorem callWith_ok {l : Loc} {c : Cells} {f : Value} {first : List Value} {fs : List V} {args : List Expr} {pos : Pos} {K : V → Cells → Prop} {α : Al} {s : Shared} {Q : Value → Shared → Prop} (hs : 1 ≤ s.toks) (F : Fst hb pr env l c α s.heap) (hfs : IsVs c α s.heap fs first)
    (hargs : OkArgs prog w A hb pr env l args c (fun vs c' => ∀ α' (s' : Shared) ws, 1 ≤ s'.toks → Fst hb pr env l c' α' s'.heap → Le c α s.heap c' α' s'.heap → IsVs c' α' s'.heap (fs ++ vs) ws →
      (∃ k, Looks (model prog w) s'.heap (keeperOf f) k) ∧ ∀ (Q : Value → Shared → Prop),
      (∀ v c'' α'' g h'' tk, 1 ≤ tk → K v c'' → Fst hb pr env l c'' α'' h'' → Le c' α' s'.heap c'' α'' h'' → IsV c'' α'' h'' v g → Q g { s' with heap := h'', toks := tk }) → wpAny (model prog w) A (call f ws) Q no s'))
    (hq : ∀ b c' α' g h' tk, 1 ≤ tk → K b c' → Fst hb pr env l c' α' h' → Le c α s.heap c' α' h' → IsV c' α' h' b g → Q g { s with heap := h', toks := tk }) :
    wpAny (model prog w) A (callWith pos f first (args.map fun e => (false, eval e env)) []) Q no s := by
  have app : ∀ {c : Cells} {α : Al} {h : Heap} {fs vs : List V} {first ws : List Value}, IsVs c α h fs first → IsVs c α h vs ws → IsVs c α h (fs ++ vs) (first ++ ws) := by
    intro c α h fs vs first ws a b
    induction a with
    | nil => exact b
    | cons x _ ih => exact .cons x ih
  refine callWith_any (by simp) ?_
  have fin : wpAny (model prog w) A (spliced (args.map fun e => (false, eval e env))) (fun ws s₁ => (∃ k, Looks (model prog w) s₁.heap (keeperOf f) k) ∧ wpAny (model prog w) A (call f (first ++ ws)) Q no s₁) no s := by
    refine args_ok hargs α s _ hs F fun vs c1 α1 ws h1 tk1 htk1 hK F1 L1 i1 => ?_
    obtain ⟨hk, hc⟩ := hK α1 { s with heap := h1, toks := tk1 } _ htk1 F1 L1 (app (L1.isVs hfs) i1)
    exact ⟨hk, hc Q fun v c2 α2 g h2 tk2 htk2 hK2 F2 L2 i2 => hq v c2 α2 g h2 tk2 htk2 hK2 F2 (L1.trans L2) i2⟩
  cases args with
  | nil =>
    obtain ⟨hk, hc⟩ := hargs α s _ hs F (.refl ..) (app hfs .nil)
    exact PySem.evalArgs_none ⟨hk, hc Q fun v c2 α2 g h2 tk2 htk2 hK2 F2 L2 i2 => hq v c2 α2 g h2 tk2 htk2 hK2 F2 L2 i2⟩
  | cons e r => exact Calls.evalArgs_plain fin
end
end Mine
end
section
set_option linter.unusedVariables false
namespace Mine
open PySem PyProof.Rows PySem.W

noncomputable def isiK (d : D) (b : Bi) : Option Bool := match d, b with
  | .int _, .bool => some false
  | .int _, .int => some true
  | .bool _, .bool => some true
  | .bool _, .int => some true
  | .str _, .bool => some false
  | .str _, .int => some false
  | _, _ => none

/- a new list: to be owned, or not -/
noncomputable def newListK (c : Cells) (k : Option Nat) (xs : List D) (K : V → Cells → Prop) : Prop := match k with
  | none => K (.d (.lst xs)) c
  | some k => k ∉ dom c ∧ K (.obj k) (c ++ [(k, .list xs)])

noncomputable def v1 (vs : List V) (f : V → Prop) : Prop := match vs with
  | [] => False
  | v :: r => (match r with
    | [] => f v
    | _ :: _ => False)
noncomputable def v2 (vs : List V) (f : V → V → Prop) : Prop := match vs with
  | [] => False
  | u :: r => v1 r fun v => f u v
theorem v1_ok {vs : List V} {f : V → Prop} (h : v1 vs f) : ∃ v, vs = [v] ∧ f v := by
  cases vs with
  | nil => exact h.elim
  | cons v r => cases r with
    | nil => exact ⟨v, rfl, h⟩
    | cons _ _ => exact h.elim
theorem v2_ok {vs : List V} {f : V → V → Prop} (h : v2 vs f) : ∃ u v, vs = [u, v] ∧ f u v := by
  cases vs with
  | nil => exact h.elim
  | cons u r => obtain ⟨v, rfl, h⟩ := v1_ok h; exact ⟨u, v, rfl, h⟩
noncomputable def strOf : V → Option Str
  | .d x => (match x with
    | .str u => some u
    | _ => none)
  | _ => none
theorem strOf_ok {v : V} {x : Str} (h : strOf v = some x) : v = .d (.str x) := by
  cases v with
  | d y => cases y <;> first | (cases h; rfl) | cases h
  | _ => cases h
noncomputable def lenK (c : Cells) (v : V) (K : V → Cells → Prop) : Prop := match strOf v with
  | some x => x.length ≤ big ∧ K (.d (.int x.length)) c
  | none => (match seqOf c v with | some (_, xs) => xs.length ≤ big ∧ K (.d (.int xs.length)) c | none => False)
noncomputable def isiV (c : Cells) (u v : V) (K : V → Cells → Prop) : Prop := match u with
  | .d d => (match v with
    | .bi b => (match isiK d b with | some r => K (.d (.bool r)) c | none => False)
    | _ => False)
  | _ => False
theorem isiV_ok {c : Cells} {u v : V} {K : V → Cells → Prop} (h : isiV c u v K) : ∃ d b r, u = .d d ∧ v = .bi b ∧ isiK d b = some r ∧ K (.d (.bool r)) c := by
  cases u with
  | d d =>
    cases v with
    | bi b =>
      have h : (match isiK d b with | some r => K (.d (.bool r)) c | none => False) := h
      cases q : isiK d b with
      | none => rw [q] at h; exact h.elim
      | some r => rw [q] at h; exact ⟨d, b, r, rfl, rfl, q, h⟩
    | _ => exact h.elim
  | _ => exact h.elim
noncomputable def rangeK (c : Cells) (vs : List V) (K : V → Cells → Prop) : Prop := match vs with
  | [] => False
  | u :: r => (match r with
    | [] => int2 u u fun b _ => K (.rng 0 b) c
    | _ :: _ => v2 vs fun u v => int2 u v fun a b => K (.rng a b) c)
noncomputable def biK (c : Cells) (k : Option Nat) (b : Bi) (vs : List V) (K : V → Cells → Prop) : Prop := match b with
  | .len => v1 vs fun v => lenK c v K
  | .isinstance => v2 vs fun u v => isiV c u v K
  | .max => v2 vs fun u v => int2 u v fun a b => K (.d (.int (if b > a then b else a))) c
  | .min => v2 vs fun u v => int2 u v fun a b => K (.d (.int (if b < a then b else a))) c
  | .list => v1 vs fun v => match seqOf c v with | some (_, xs) => xs.length ≤ big ∧ newListK c k xs K | none => False
  | .tuple => v1 vs fun v => match seqOf c v with | some (b, xs) => b = false ∧ xs.length ≤ big ∧ K (.d (.tup xs)) c | none => False
  | .range => rangeK c vs K
  | _ => False

section
variable {prog : Program} {w : World} {A : Around} {hb : Heap} {pr : List Nat} {env : Env} {l : Loc} {c : Cells} {α : Al} {s : Shared}

theorem IsVs.one {h : Heap} {v : V} {ws : List Value} (i : IsVs c α h [v] ws) : ∃ w, ws = [w] ∧ IsV c α h v w := by
  cases i with | cons i r => cases r; exact ⟨_, rfl, i⟩
theorem IsVs.two {h : Heap} {v v' : V} {ws : List Value} (i : IsVs c α h [v, v'] ws) : ∃ w w', ws = [w, w'] ∧ IsV c α h v w ∧ IsV c α h v' w' := by
  cases i with | cons i r => cases r with | cons j r => cases r; exact ⟨_, _, rfl, i, j⟩

/- a new owned object in a heap that keeps all -/
theorem Fst.new' {h h' : Heap} (F : Fst hb pr env l c α h) {k : Nat} (hk : k ∉ dom c) {a : Addr} (ha : h.get? a = none) (hkeep : ∀ b o, h.get? b = some o → h'.get? b = some o) {o : O}
    (hq : Le c α h (c ++ [(k, o)]) (upd α k a) h' → IsO (c ++ [(k, o)]) (upd α k a) h' a o) :
    Fst hb pr env l (c ++ [(k, o)]) (upd α k a) h' ∧ Le c α h (c ++ [(k, o)]) (upd α k a) h' := by
  have ag : ∀ j ∈ dom c, upd α k a j = α j := fun j hj => by
    show (if j = k then _ else _) = _
    rw [if_neg (fun (e : j = k) => hk (e ▸ hj))]
  have ak : upd α k a k = a := if_pos rfl
  have L : Le c α h (c ++ [(k, o)]) (upd α k a) h' := by
    refine ⟨fun j hj => by rw [dom_append]; exact List.mem_append_left _ hj, ag, fun b o e _ => hkeep b o e, fun j hj => ?_⟩
    rw [dom_append] at hj
    rcases List.mem_append.mp hj with hj | hj
    · rw [ag j hj]; exact .inl ⟨j, hj, rfl⟩
    · have : j = k := by simpa using hj
      rw [this, ak]; exact .inr ha
  have C : Cst hb pr (c ++ [(k, o)]) (upd α k a) h' := by
    refine ⟨fun b o e => hkeep _ _ (F.base b o e), fun j u e => ?_, fun j hj => ?_, fun i hi j hj e => ?_, fun j hj => L.dom j (F.prs j hj)⟩
    · rw [cget_append hk] at e
      by_cases hj : j = k
      · rw [if_pos hj] at e; cases e; rw [hj, ak]; exact hq L
      · rw [if_neg hj] at e
        rw [ag j (cget_mem e)]
        exact L.isO (fun q e => hkeep _ _ e) (F.cell j u e)
    · rw [dom_append] at hj
      rcases List.mem_append.mp hj with hj | hj
      · rw [ag j hj]; exact F.fresh j hj
      · have : j = k := by simpa using hj
        rw [this, ak]
        cases e : hb.get? a with
        | none => rfl
        | some o' => rw [F.base _ _ e] at ha; cases ha
    · rw [dom_append] at hi hj
      have ne : ∀ j ∈ dom c, α j ≠ a := fun j hj e => by obtain ⟨q, hq⟩ := F.toCst.ex hj; rw [e, ha] at hq; cases hq
      rcases List.mem_append.mp hi with hi | hi <;> rcases List.mem_append.mp hj with hj | hj
      · rw [ag i hi, ag j hj] at e; exact F.inj i hi j hj e
      · have : j = k := by simpa using hj
        rw [this, ak, ag i hi] at e; exact absurd e (ne i hi)
      · have : i = k := by simpa using hi
        rw [this, ak, ag j hj] at e; exact absurd e.symm (ne j hj)
      · have h1 : i = k := by simpa using hi
        have h2 : j = k := by simpa using hj
        rw [h1, h2]
  exact ⟨F.le L C, L⟩

theorem none_at (h : Heap) : h.get? h.objs.size = none := by
  cases e : h.get? h.objs.size with
  | none => rfl
  | some o' => exact absurd (Heap.lt_size e) (Nat.lt_irrefl _)

theorem newList_ok (F : Fst hb pr env l c α s.heap) {k : Option Nat} {xs : List D} {ws : List Value} {ep : Nat} {h' : Heap} {K : V → Cells → Prop} (h : newListK c k xs K) (r : IsDs s.heap (OwnC c α) xs ws)
    (hkeep : ∀ b o, s.heap.get? b = some o → h'.get? b = some o) (hg : h'.get? s.heap.objs.size = some (sobj "list" ws ep)) {Q : Value → Shared → Prop}
    (hq : ∀ v c' α' g h' tk, K v c' → Fst hb pr env l c' α' h' → Le c α s.heap c' α' h' → IsV c' α' h' v g → Q g { s with heap := h', toks := tk }) (tk : Nat) : Q (.ref s.heap.objs.size) { s with heap := h', toks := tk } := by
  cases k with
  | none =>
    obtain ⟨F', L'⟩ := F.keeps hkeep
    exact hq _ c α _ h' tk h F' L' (.lst hg (new_not_own F.toCst) (L'.isDs r))
  | some k =>
    obtain ⟨F', L'⟩ := F.new' h.1 (none_at s.heap) hkeep (o := .list xs) (fun L => ⟨ws, ep, hg, L.isDs r⟩)
    exact hq _ _ _ _ h' tk h.2 F' L' ⟨by rw [show upd α k s.heap.objs.size k = s.heap.objs.size from if_pos rfl], by rw [dom_append]; simp⟩

section
variable (F : Fst hb pr env l c α s.heap) {K : V → Cells → Prop} {Q : Value → Shared → Prop} (hq : ∀ v c' α' g h' tk, K v c' → Fst hb pr env l c' α' h' → Le c α s.heap c' α' h' → IsV c' α' h' v g → Q g { s with heap := h', toks := tk })
include F hq
theorem len_ok {v : V} {g : Value} (h : lenK c v K) (i : IsV c α s.heap v g) : wpAny (model prog w) A (call (.builtin "len") [g]) Q no s := by
  have rf := Le.refl c α s.heap
  unfold lenK at h
  cases q : strOf v with
  | some x =>
    rw [q] at h
    cases strOf_ok q
    cases i
    exact PySem.P.len_str (by have := h.1; unfold big at this; omega) (hq _ c α _ s.heap _ h.2 F rf (.int _ _))
  | none =>
    rw [q] at h
    cases e : seqOf c v with
    | none => rw [e] at h; exact h.elim
    | some p =>
      obtain ⟨b, xs⟩ := p
      rw [e] at h
      obtain ⟨a, ws, ep, rfl, g', r⟩ := seqOf_ok F.toCst e i
      have hl : ws.toArray.size = xs.length := by rw [List.size_toArray, ← r.length]
      have h1 := h.1
      unfold big at h1
      cases b with
      | true => exact len_tuple ⟨_, g', rfl, _, rfl⟩ (by omega) (by rw [hl]; exact hq _ c α _ s.heap _ h.2 F rf (.int _ _))
      | false => exact len_list ⟨_, g', rfl, _, rfl⟩ (by omega) (by rw [hl]; exact hq _ c α _ s.heap _ h.2 F rf (.int _ _))
theorem isi_ok {u v : V} {g g' : Value} (h : isiV c u v K) (i : IsV c α s.heap u g) (j : IsV c α s.heap v g') : wpAny (model prog w) A (call (.builtin "isinstance") [g, g']) Q no s := by
  have rf := Le.refl c α s.heap
  obtain ⟨d, b, r, rfl, rfl, e, h⟩ := isiV_ok h
  cases j
  cases d with
  | int n =>
    cases i
    cases b <;> first | cases e | skip
    · exact IsiPair.int_bool (hq _ c α _ s.heap _ h F rf (.bool _))
    · exact IsiPair.int_int (hq _ c α _ s.heap s.toks h F rf (.bool _))
  | bool n =>
    cases i
    cases b <;> first | cases e | skip
    · exact IsiPair.bool_bool (hq _ c α _ s.heap s.toks h F rf (.bool _))
    · exact IsiPair.bool_int (hq _ c α _ s.heap s.toks h F rf (.bool _))
  | str x =>
    cases i
    cases b <;> first | cases e | skip
    · exact IsiPair.str_bool (hq _ c α _ s.heap _ h F rf (.bool _))
    · exact IsiPair.str_int (hq _ c α _ s.heap _ h F rf (.bool _))
  | _ => cases e
theorem list_ok {k : Option Nat} {v : V} {g : Value} (h : match seqOf c v with | some (_, xs) => xs.length ≤ big ∧ newListK c k xs K | none => False) (i : IsV c α s.heap v g) : wpAny (model prog w) A (call (.type "list") [g]) Q no s := by
  cases e : seqOf c v with
  | none => rw [e] at h; exact h.elim
  | some p =>
    obtain ⟨b, xs⟩ := p
    rw [e] at h
    obtain ⟨a, ws, ep, rfl, g', r⟩ := seqOf_ok F.toCst e i
    refine call_list_seq a (T := if b then "tuple" else "list") (by cases b <;> simp) g' rfl rfl (fun h' c' hk hD => newList_ok F h.2 r hk hD hq s.toks) (by rw [List.size_toArray, ← r.length]; exact sizeLine_ge h.1)
theorem tuple_ok {v : V} {g : Value} (h : match seqOf c v with | some (b, xs) => b = false ∧ xs.length ≤ big ∧ K (.d (.tup xs)) c | none => False) (i : IsV c α s.heap v g) : wpAny (model prog w) A (call (.type "tuple") [g]) Q no s := by
  cases e : seqOf c v with
  | none => rw [e] at h; exact h.elim
  | some p =>
    obtain ⟨b, xs⟩ := p
    rw [e] at h
    obtain ⟨rfl, h1, h2⟩ := h
    obtain ⟨a, ws, ep, rfl, g', r⟩ := seqOf_ok F.toCst e i
    refine call_tuple_list ⟨_, g', rfl, _, rfl⟩ (fun h' hk => ?_) (by rw [List.size_toArray, ← r.length]; exact sizeLine_ge h1)
    obtain ⟨F', L'⟩ := F.keeps hk
    obtain ⟨F2, L2⟩ := F'.push (sobj "tuple" ws 0)
    exact hq _ c α _ _ s.toks h2 F2 (L'.trans L2) (.tup (Heap.get?_push_size _ rfl) (new_not_own F'.toCst) ((L'.trans L2).isDs r))
theorem range_ok {vs : List V} {ws : List Value} (h : rangeK c vs K) (iv : IsVs c α s.heap vs ws) : wpAny (model prog w) A (call (.type "range") ws) Q no s := by
  cases vs with
  | nil => exact h.elim
  | cons u r =>
    cases r with
    | nil =>
      obtain ⟨b, _, rfl, _, h⟩ := int2_ok h
      obtain ⟨w, rfl, i⟩ := iv.one
      cases i
      refine call_range_1 ?_
      obtain ⟨F', L'⟩ := F.push (robj 0 _ s.toks _ (s.toks + 1))
      exact hq _ c α _ _ _ h F' L' ⟨_, _, _, _, rfl, Heap.get?_push_size _ rfl, new_not_own F.toCst⟩
    | cons v r =>
      obtain ⟨u', v', e, h⟩ := v2_ok (vs := u :: v :: r) (f := fun u v => int2 u v fun a b => K (.rng a b) c) h
      cases e
      obtain ⟨a, b, rfl, rfl, h⟩ := int2_ok h
      obtain ⟨w, w', rfl, i, j⟩ := iv.two
      cases i; cases j
      refine call_range_2 ?_
      obtain ⟨F', L'⟩ := F.push (robj _ _ _ _ s.toks)
      exact hq _ c α _ _ _ h F' L' ⟨_, _, _, _, rfl, Heap.get?_push_size _ rfl, new_not_own F.toCst⟩
theorem max_ok (hh : A.handled = none) {vs : List V} {ws : List Value} (h : v2 vs fun u v => int2 u v fun a b => K (.d (.int (if b > a then b else a))) c) (iv : IsVs c α s.heap vs ws) : wpAny (model prog w) A (call (.builtin "max") ws) Q no s := by
  obtain ⟨u, v, rfl, h⟩ := v2_ok h
  obtain ⟨a, b, rfl, rfl, h⟩ := int2_ok h
  obtain ⟨w, w', rfl, i, j⟩ := iv.two
  cases i; cases j
  refine max_two_ints hh fun h' tk hk => ?_
  obtain ⟨F', L'⟩ := F.keeps hk
  refine hq _ c α _ h' tk h F' L' ?_
  by_cases q : b > a
  · rw [if_pos q, if_pos q]; exact .int _ _
  · rw [if_neg q, if_neg q]; exact .int _ _
theorem min_ok (hh : A.handled = none) {vs : List V} {ws : List Value} (h : v2 vs fun u v => int2 u v fun a b => K (.d (.int (if b < a then b else a))) c) (iv : IsVs c α s.heap vs ws) : wpAny (model prog w) A (call (.builtin "min") ws) Q no s := by
  obtain ⟨u, v, rfl, h⟩ := v2_ok h
  obtain ⟨a, b, rfl, rfl, h⟩ := int2_ok h
  obtain ⟨w, w', rfl, i, j⟩ := iv.two
  cases i; cases j
  refine min_two_ints hh fun h' tk hk => ?_
  obtain ⟨F', L'⟩ := F.keeps hk
  refine hq _ c α _ h' tk h F' L' ?_
  by_cases q : b < a
  · rw [if_pos q, if_pos q]; exact .int _ _
  · rw [if_neg q, if_neg q]; exact .int _ _
end
theorem bi_ok (hh : A.handled = none) (F : Fst hb pr env l c α s.heap) {k : Option Nat} {b : Bi} {vs : List V} {ws : List Value} {K : V → Cells → Prop} (h : biK c k b vs K) (iv : IsVs c α s.heap vs ws) {Q : Value → Shared → Prop}
    (hq : ∀ v c' α' g h' tk, K v c' → Fst hb pr env l c' α' h' → Le c α s.heap c' α' h' → IsV c' α' h' v g → Q g { s with heap := h', toks := tk }) : wpAny (model prog w) A (call b.val ws) Q no s := by
  cases b with
  | len => obtain ⟨v, rfl, h⟩ := v1_ok h; obtain ⟨w, rfl, i⟩ := iv.one; exact len_ok F hq h i
  | isinstance => obtain ⟨u, v, rfl, h⟩ := v2_ok h; obtain ⟨w, w', rfl, i, j⟩ := iv.two; exact isi_ok F hq h i j
  | max => exact max_ok F hq hh h iv
  | min => exact min_ok F hq hh h iv
  | list => obtain ⟨v, rfl, h⟩ := v1_ok h; obtain ⟨w, rfl, i⟩ := iv.one; exact list_ok F hq h i
  | tuple => obtain ⟨v, rfl, h⟩ := v1_ok h; obtain ⟨w, rfl, i⟩ := iv.one; exact tuple_ok F hq h i
  | range => exact range_ok F hq h iv
  | _ => exact h.elim
end
end Mine
end
section
set_option linter.unusedVariables false
namespace Mine
open PySem PyProof.Rows PySem.W PySem.Builtin PySem.Builtin.ObjectAttr

theorem look_append : typeLookup (.type "list") "append" = pure (some (.builtin "list.append")) := PySem.slot_list_append.lookup
theorem type_append : typeOf (.builtin "list.append") = pure (.type "method_descriptor") := by show builtinType _ = _; rw [builtinType_eq_fast]; kernel_rfl
theorem slot_mdget : Slot "method_descriptor" "__get__" "method_descriptor.__get__" :=
  .of (owner := "method_descriptor") (n := "__get__") (by rw [typeLookup_type, builtinLookup_eq_fast]; kernel_rfl) (by decide +kernel) (by decide +kernel) (by decide +kernel)
    (by first | exact .inl (by decide +kernel) | exact .inr (by decide +kernel)) (by rw [isSubtype_type]; kernel_rfl)
theorem entry_mdget : entryFor table "method_descriptor.__get__" = some Builtin.«method_descriptor.__get__» := entryFor_of_tree (by kernel_rfl)
theorem args_mdget (a b c : Value) : argsOk "method_descriptor.__get__" ⟨[a, b, c], []⟩ := by unfold argsOk; kernel_rfl
theorem md_set : typeLookup (.type "method_descriptor") "__set__" = pure none := by rw [typeLookup_type, builtinLookup_eq_fast]; kernel_rfl
theorem md_delete : typeLookup (.type "method_descriptor") "__delete__" = pure none := by rw [typeLookup_type, builtinLookup_eq_fast]; kernel_rfl
theorem list_list : isSubtype (.type "list") (.type "list") = pure true := by rw [isSubtype_type]; kernel_rfl
theorem list_module : isSubtype (.type "list") (.type "module") = pure false := by rw [isSubtype_type]; kernel_rfl
theorem list_type : isSubtype (.type "list") (.type "type") = pure false := by rw [isSubtype_type]; kernel_rfl

theorem takes_append : takesStores (.builtin "list.append") = pure false := by
  unfold takesStores specialOf
  rw [type_append]
  show (typeLookup (.type "method_descriptor") "__set__" >>= _) = _
  rw [md_set]
  show (typeLookup (.type "method_descriptor") "__delete__" >>= _) = _
  rw [md_delete]; rfl
theorem get_append : specialOf (.builtin "list.append") "__get__" = pure (some (.builtin "method_descriptor.__get__")) := by
  unfold specialOf
  rw [type_append]
  exact slot_mdget.lookup

section
variable {prog : Program} {w : World} {A : Around} {E : Value → Shared → Prop} {s : Shared} {G : Addr} {xs : Array Value} {ep : Nat}
theorem isInst_list {T : String} {b : Bool} (hG : s.heap.get? G = some { cls := .type "list", data := .seq xs ep }) (hT : isSubtype (.type "list") (.type T) = pure b) {Q : Bool → Shared → Prop} (h : Q b s) : wpAny (model prog w) A (isInstance (.ref G) (.type T)) Q E s :=
  wpAny_isInstance (T := "list") (U := T) (b := b) ⟨_, hG, rfl⟩ hT h

theorem run_mdget {P : Fin → Shared → Prop} (hG : s.heap.get? G = some { cls := .type "list", data := .seq xs ep }) (h : P (.done (.ret (.ref s.heap.objs.size))) { s with heap := s.heap.push (bobj "list.append" G) }) :
    wpAny (model prog w) A (Builtin.«method_descriptor.__get__» ⟨[.builtin "list.append", .ref G, .type "list"], []⟩) P E s := by
  unfold Builtin.«method_descriptor.__get__»
  refine wpAny_bind (wpAny_of_eq (a := (.builtin "list.append", some (.ref G), some (.type "list"))) (by first | rfl | kernel_rfl) ?_)
  have hT : s.TypeIs (.ref G) "list" := ⟨_, hG, rfl⟩
  have l1 := list_list
  repeat (any_goals (first | assumption | wp_step))
  rw [show (".".intercalate ("list.append".cutAt '.').dropLast) = "list" from by decide +kernel]
  refine wpAny_of_eq (a := true) l1 ?_
  repeat (any_goals (first | assumption | wp_step))

theorem run_getattr {t : Tok} {R : Fin → Shared → Prop} (hG : s.heap.get? G = some { cls := .type "list", data := .seq xs ep }) (h : R (.done (.ret (.ref s.heap.objs.size))) { s with heap := s.heap.push (bobj "list.append" G) }) :
    wpAny (model prog w) A (Builtin.«object.__getattribute__» ⟨[.ref G, .str "append" t], []⟩) R E s := by
  have hT : s.TypeIs (.ref G) "list" := ⟨_, hG, rfl⟩
  have f1 := look_append
  have f2 := get_append
  have f3 := takes_append
  unfold Builtin.«object.__getattribute__»
  repeat (any_goals (first | assumption | ((with_reducible show wpAny _ _ (call (Value.builtin "method_descriptor.__get__") _ _) _ _ _); refine wpAny_call_entry slot_mdget type_append entry_mdget (run_mdget hG ⟨_, rfl, ?_⟩) (args_mdget _ _ _)) | wp_step))

theorem attr_append (hG : s.heap.get? G = some { cls := .type "list", data := .seq xs ep }) {Q : Value → Shared → Prop} (h : Q (.ref s.heap.objs.size) { s with heap := s.heap.push (bobj "list.append" G), toks := s.toks + 1 }) :
    wpAny (model prog w) A (getAttr (.ref G) "append" true) Q E s := by
  obtain ⟨hp, g, d, tk, os⟩ := s
  have hT : ∀ tk', (⟨hp, g, d, tk', os⟩ : Shared).TypeIs (.ref G) "list" := fun _ => ⟨_, hG, rfl⟩
  have f3 := F.slot_list_getattribute.lookup
  have f4 := F.slot_list_getattribute.bind (.ref G)
  unfold getAttr getAttrBy
  repeat (any_goals (first | assumption | exact hT _ | ((with_reducible show wpAny _ _ (call (Value.builtin "list.__getattribute__") _ _) _ _ _); refine wpAny_call_entry F.slot_list_getattribute (hT _) am_entry_list_getattribute (run_getattr hG ⟨_, rfl, ?_⟩) (F.args_list_getattribute_2 _ _)) | wp_step))

theorem check_tail (a b : Value) : (match Manifest.signature? "list.append" with | some sig => Bind.checkArgs "list.append" { sig with full := toString (Bind.lastOf "list") ++ toString "." ++ toString (Bind.lastOf "list.append") } ⟨[a, b], []⟩ | none => pure ()) = pure () := by kernel_rfl
theorem kind_append : builtinKind "list.append" = some .method := by decide +kernel
theorem isType_list (hG : s.heap.get? G = some { cls := .type "list", data := .seq xs ep }) {Q : Bool → Shared → Prop} (h : Q false s) : wpAny (model prog w) A (isType (.ref G)) Q E s := by
  have hT : s.TypeIs (.ref G) "list" := ⟨_, hG, rfl⟩
  have l2 := list_type
  unfold isType
  repeat (any_goals (first | assumption | wp_step))
theorem check_append {v : Value} (hG : s.heap.get? G = some { cls := .type "list", data := .seq xs ep }) {Q : Unit → Shared → Prop} (h : Q () s) : wpAny (model prog w) A (checkBoundCall "list.append" ⟨[.ref G, v], []⟩) Q E s := by
  have hT : s.TypeIs (.ref G) "list" := ⟨_, hG, rfl⟩
  have ht := check_tail (.ref G) v
  unfold checkBoundCall
  cases hsig : Manifest.signature? "list.append" with
  | none => exact wpAny_pure h
  | some sig =>
    rw [hsig] at ht
    simp only [kind_append]
    rw [if_neg (by decide)]
    refine wpAny_bind (isInst_list hG list_module ?_)
    rw [if_neg (by decide +kernel)]
    refine wpAny_bind (isType_list hG ?_)
    rw [if_neg (by decide)]
    refine wpAny_bind (wpAny_typeOf hT ?_)
    exact wpAny_of_eq ht h

theorem entry_append : entryFor table "list.append" = some Builtin.«list.append» := entryFor_of_tree (by kernel_rfl)
theorem keeper_bound {M : Model} {h : Heap} {p : Addr} (hp : h.get? p = some (bobj "list.append" G)) : Looks M h (keeperOf (.ref p)) .machine := by
  intro A Q E s k q
  unfold keeperOf
  refine wpAny_bind (wpAny_load (k _ _ hp) ?_)
  simp only [show (Value.type "builtin_function_or_method" != Value.type "method") = true by decide, show (Value.type "builtin_function_or_method" == Value.type "builtin_function_or_method" || Value.type "builtin_function_or_method" == Value.type "method-wrapper") = true by decide, if_true]
  exact wpAny_pure q

theorem call_bound {p : Addr} {v : Value} (hp : s.heap.get? p = some (bobj "list.append" G)) (hG : s.heap.get? G = some { cls := .type "list", data := .seq xs ep }) (hsz : xs.size ≤ sizeLine) {Q : Value → Shared → Prop}
    (h : ∀ h', h'.PlainList G (xs.push v) → Heap.SameBut G s.heap h' → Q .none { s with heap := h' }) : wpAny (model prog w) A (call (.ref p) [v]) Q E s := by
  refine wpAny_call (codeAny_of_tree ?_)
  show wpAny _ A.in1 (callAny (.ref p) ⟨[v], []⟩) _ _ s
  simp only [callAny]
  refine wpAny_bind (wpAny_load hp ?_)
  simp only [show (Value.type "builtin_function_or_method" == Value.type "method" || Value.type "builtin_function_or_method" == Value.type "builtin_function_or_method" || Value.type "builtin_function_or_method" == Value.type "method-wrapper") = true by decide, if_true]
  show wpAny _ A.in1 (if (Value.type "builtin_function_or_method" != Value.type "method") = true then (do checkBoundCall "list.append" ⟨[.ref G, v], []⟩; again (.builtin "list.append" ⟨[.ref G, v], []⟩)) else _) _ _ _
  rw [if_pos (by decide)]
  refine wpAny_bind (check_append hG (wpAny_pure ?_))
  refine ⟨Code.quiet_builtin _ (by decide +kernel), ?_⟩
  refine codeAny_builtin PySem.entry_list_append ?_
  show wpAny _ _ (updateSeq G (·.push v) >>= fun _ => ret .none) _ _ s
  refine wpAny_bind ?_
  refine wpAny_updateSeq hG rfl (wpAny_pure (h _ ⟨ep + 1, ?_⟩ (Heap.SameBut.update ..)))
  rw [Heap.get?_update_self _ hG (by rw [Obj.mapSeq_push_plain]; rfl), Obj.mapSeq_push_plain]
end
end Mine
end
section
set_option linter.unusedVariables false
namespace Mine
open PySem PyProof.Rows PySem.W PySem.Builtin

/- a table for translate: a dict of a class of the text, small ints to small ints -/
structure TabOk (K : Frag) (d C : Addr) (tr : Nat → Nat) : Prop where
  at_ : ∃ dd es ep sl, K.lookup d = some ⟨.ref C, dd, .dict es ep, sl⟩ ∧ IntKeys es ∧ ∀ c : Nat, c < 128 → ∃ t, findBy Value.isInt es (c : Int) = some (.int (tr c : Nat) t) ∧ tr c < 128
  seq : noSeq K C = true
  item : findIn K (.ref C) "__getitem__" = some (some (.builtin "dict.__getitem__"))
  sub : mroIn K C (.type "dict") = some true

section
variable {prog : Program} {w : World} {A : Around} {s : Shared} {K : Frag} {d C : Addr} {tr : Nat → Nat}

theorem kind_dgi : builtinKind "dict.__getitem__" = some .method := by decide +kernel
theorem split_dgi : splitId "dict.__getitem__" = some ("dict", "__getitem__") := by decide +kernel

theorem check_meth {M : Model} {E : Value → Shared → Prop} {i owner n : String} {self : Value} {rest : List Value} {kw : List (Str × Value)} {Q : Unit → Shared → Prop}
    (hk : builtinKind i = some .method) (hs : splitId i = some (owner, n)) (hi : Looks M s.heap (isInstance self (.type owner)) true) (ha : argsOk i ⟨self :: rest, kw⟩) (q : Q () s) :
    wpAny M A (checkBuiltinCall i ⟨self :: rest, kw⟩) Q E s := by
  simp only [checkBuiltinCall, hk, hs]
  refine wpAny_bind (hi.here ?_)
  simp only [Bool.not_true, Bool.false_eq_true, if_false]
  cases hsig : Manifest.signature? i with
  | none => exact wpAny_pure q
  | some sig =>
    simp only [argsOk, hsig] at ha
    have h2 : Bind.checkArgs i sig ⟨self :: rest, kw⟩ = pure () := ha
    show wpAny M A (Bind.checkArgs i sig ⟨self :: rest, kw⟩) Q E s
    rw [h2]; exact wpAny_pure q

theorem run_dgi {E : Value → Shared → Prop} {k : Int} {t : Tok} {o : Obj} {es : Array DictEntry} {ep : Nat} {v : Value} {R : PySem.Fin → Shared → Prop} (ho : s.heap.get? d = some o) (hd : o.data = .dict es ep) (hk : PySem.IntKeys es) (hf : findBy Value.isInt es k = some v)
    (h : R (.done (.ret v)) { s with toks := s.toks + 1 }) : wpAny (model prog w) A (Builtin.«dict.__getitem__» ⟨[.ref d, .int k t], []⟩) R E s := by
  show wpAny _ _ (dictGet d (.int k t) >>= _) _ _ s
  refine wpAny_bind ?_
  unfold dictGet
  refine wpAny_holding (wpAny_bind (wpAny_pyHash_int (wpAny_bind (wpAny_dictFind_int (s := { s with toks := s.toks + 1 }) ho hd hk ?_))))
  rw [findBy_of_findIdx?] at hf
  cases hi : es.findIdx? fun e => Value.isInt k e.key with
  | none => rw [hi] at hf; cases hf
  | some i =>
    rw [hi] at hf
    refine wpAny_bind (wpAny_dictEntries (s := { s with toks := s.toks + 1 }) ho hd (wpAny_pure ?_))
    dsimp only at hf
    rw [hf]
    exact wpAny_pure h

theorem table_ok (T : TabOk K d C tr) (X : K.In s.heap) {c : Nat} (hc : c < 128) {Q : Str.Mapped → Shared → Prop} (hq : ∀ tk, Q (.char (tr c)) { s with toks := tk }) : wpAny (model prog w) A (Str.tableLookup (.ref d) c) Q no s := by
  obtain ⟨dd, es, ep, sl, hl, hk, hes⟩ := T.at_
  obtain ⟨t, hf, htr⟩ := hes c hc
  have ho := X _ _ hl
  have ty : ∀ {M : Model}, Looks M s.heap (typeOf (.ref d)) (.ref C) := (Looks.ld ho).andThen .now
  have inst : ∀ {M : Model}, Looks M s.heap (isInstance (.ref d) (.type "dict")) true := ty.andThen (looks_mroIn X T.sub)
  unfold Str.tableLookup
  refine wpAny_bind (wpAny_attempt (wpAny_bind (wpAny_mkInt ?_)))
  unfold getItem sequenceKey
  refine wpAny_holding (wpAny_bind (wpAny_bind (Looks.here (s := { s with toks := s.toks + 1 }) ty ?_)))
  refine wpAny_bind (Looks.here (s := { s with toks := s.toks + 1 }) (anyM_none X T.seq) ?_)
  rw [if_pos (show (!false) = true from rfl)]
  refine wpAny_pure (wpAny_bind ?_)
  unfold callSpecial? specialOf
  refine wpAny_bind (wpAny_bind (Looks.here (s := { s with toks := s.toks + 1 }) ty (Looks.here (s := { s with toks := s.toks + 1 }) (looks_findIn X T.item) ?_)))
  refine wpAny_holding ?_
  rw [slot_dict_getitem.bind]
  refine wpAny_bind (wpAny_pure (wpAny_bind (wpAny_call ?_)))
  show codeAny _ _ (Code.call (.builtin "dict.__getitem__") ⟨[.ref d, .int (c : Int) s.toks], []⟩) _ _
  refine codeAny_call_builtin slot_dict_getitem.plain entry_dict_getitem ?_
  refine check_meth (s := { s with toks := s.toks + 1 }) (i := "dict.__getitem__") (owner := "dict") (n := "__getitem__") (self := .ref d) (rest := [.int (c : Int) s.toks]) (kw := []) kind_dgi split_dgi inst (args_dict_getitem _ _) ?_
  refine run_dgi (s := { s with toks := s.toks + 1 }) ho rfl hk hf ?_
  refine wpAny_pure (wpAny_pure ?_)
  have h1 : ¬ ((tr c : Nat) : Int) < 0 := by omega
  have h2 : ¬ ((tr c : Nat) : Int) > 1114111 := by omega
  refine wpAny_bind (wpAny_of_eq (a := some ((tr c : Nat) : Int)) rfl ?_)
  show wpAny _ _ (if (decide (((tr c : Nat) : Int) < 0) || decide (((tr c : Nat) : Int) > 1114111)) = true then _ else pure (Str.Mapped.char ((tr c : Nat) : Int).toNat)) _ _ _
  rw [decide_eq_false h1, decide_eq_false h2]
  exact wpAny_pure (hq _)

theorem translate_ok (T : TabOk K d C tr) (X : K.In s.heap) {x : PySem.Str} {t : Tok} (hx : ∀ c ∈ x.cps.toList, c < 128) (hl : x.length ≤ big) {Q : Value → Shared → Prop} (hq : ∀ t' tk, Q (.str ⟨x.cps.map tr⟩ t') { s with toks := tk }) :
    wpAny (model prog w) A (call (.builtin "str.translate") [.str x t, .ref d]) Q no s := by
  refine wpAny_call_entry PySem.F.slot_str_translate (typeIs_str _ _ _) PySem.F.entry_str_translate ?_ (PySem.F.args_str_translate_2 _ _)
  unfold Builtin.«str.translate»
  refine wpAny_bind (wpAny_of_eq (a := (.str x t, x, .ref d)) rfl ?_)
  dsimp only
  have hsz : ∀ n, n ≤ x.length → Str.tooLong n = false := fun n hn => by
    unfold Str.tooLong sizeLine
    unfold big at hl
    exact decide_eq_false (by omega)
  by_cases h0 : x.length = 0
  · rw [if_pos (by simpa using h0)]
    have hx0 : x.cps = #[] := Array.eq_empty_of_size_eq_zero h0
    refine wpAny_bind (wpAny_rule (wpAny_bind ?_))
    have e : (⟨x.cps.map tr⟩ : PySem.Str) = x := by
      cases x with | mk cps => simp only at hx0; subst hx0; simp
    refine wpAny_of_eq (a := .str x t) rfl (wpAny_pure ⟨_, rfl, ?_⟩)
    have := hq t s.toks
    rw [e] at this; exact this
  · rw [if_neg (by simpa using h0)]
    have hall : (x.cps.all fun c => decide (c < 128)) = true := by
      rw [← Array.all_toList, List.all_eq_true]
      intro c hc; exact decide_eq_true (hx c hc)
    rw [hall]
    refine wpAny_bind ?_
    rw [← Array.forIn_toList]
    refine wpAny_forIn_list _ (fun rest b s' => ∃ done tk, x.cps.toList = done ++ rest ∧ s' = { s with toks := tk } ∧ b.1 = (done.map fun c => (⟨#[tr c]⟩ : PySem.Str)).reverse ∧ b.2.1 = done.length ∧ b.2.2.1 = true ∧
      (∀ c a, List.lookup c b.2.2.2.1 = some a → a = some (tr c)) ∧ b.2.2.2.2 = false) _ ?_ ?_ _ _ ⟨[], s.toks, rfl, rfl, rfl, rfl, rfl, (fun c a e => by simp at e), rfl⟩
    · intro c rest b s' h
      refine fold_goal fun G9 back9 => ?_
      obtain ⟨done, tk, hsp, hs', hp, ht, hf, hk, hd⟩ := h
      obtain ⟨pieces, e1⟩ : ∃ p, p = b.1 := ⟨_, rfl⟩
      obtain ⟨known, e2⟩ : ∃ p, p = b.2.2.2.1 := ⟨_, rfl⟩
      rw [← e1] at hp
      rw [← e2] at hk
      have hbe : b = (pieces, done.length, true, known, false) := by rw [e1, e2, ← ht, ← hf, ← hd]
      clear e1 e2 ht hf hd
      refine back9 ?_
      clear back9
      rw [hbe, hs']
      clear hbe hs'
      have hc : c < 128 := hx c (by rw [hsp]; simp)
      have hlen : done.length ≤ x.length := by
        have : x.cps.toList.length = (done ++ c :: rest).length := by rw [hsp]
        rw [List.length_append] at this
        show done.length ≤ x.cps.size
        rw [Array.length_toList] at this
        omega
      dsimp only
      rw [hsz _ hlen]
      simp only [Bool.false_eq_true, if_false, if_true]
      have fin : ∀ tk' kn, (∀ c' a, List.lookup c' kn = some a → a = some (tr c')) → ∃ done' tk'', x.cps.toList = done' ++ rest ∧ ({ s with toks := tk' } : Shared) = { s with toks := tk'' } ∧
          (⟨#[tr c]⟩ : PySem.Str) :: pieces = (done'.map fun c => (⟨#[tr c]⟩ : PySem.Str)).reverse ∧ done.length + 1 = done'.length ∧ true = true ∧ (∀ c' a, List.lookup c' kn = some a → a = some (tr c')) ∧ false = false := by
        intro tk' kn hkn
        exact ⟨done ++ [c], tk', by rw [hsp]; simp, rfl, by rw [hp]; simp, by simp, rfl, hkn, rfl⟩
      cases hlk : List.lookup c known with
      | some a =>
        have ha := hk c a hlk
        subst ha
        exact wpAny_bind (wpAny_pure (wpAny_pure (fin tk known hk)))
      | none =>
        obtain ⟨_, _, _, _, _, _, hes⟩ := T.at_
        obtain ⟨_, _, htr⟩ := hes c hc
        refine wpAny_bind (table_ok (s := { s with toks := tk }) T X hc fun tk' => ?_)
        simp only [htr, if_true]
        refine wpAny_bind (wpAny_pure (wpAny_pure (fin tk' _ fun c' a e => ?_)))
        rw [List.lookup_cons] at e
        cases hcc : c' == c with
        | true => rw [hcc] at e; cases e; rw [beq_iff_eq.mp hcc]
        | false => rw [hcc] at e; exact hk c' a e
    · intro b s' h
      refine fold_goal fun G9 back9 => ?_
      obtain ⟨done, tk, hsp, hs', hp, ht, hf, hk, hd⟩ := h
      have hbe : b = ((done.map fun c => (⟨#[tr c]⟩ : PySem.Str)).reverse, done.length, true, b.2.2.2.1, false) := by rw [← hp, ← ht, ← hf, ← hd]
      rw [List.append_nil] at hsp
      have hlen : done.length = x.length := by rw [← hsp]; rfl
      clear hp ht hf hd
      refine back9 ?_
      clear back9
      rw [hbe, hs']
      dsimp only
      rw [hsz _ (by omega)]
      simp only [Bool.false_eq_true, if_false]
      have e : ((done.map fun c => (⟨#[tr c]⟩ : PySem.Str)).reverse.reverse.foldl (fun acc p => acc ++ p.cps) #[]) = x.cps.map tr := by
        rw [List.reverse_reverse]
        have g : ∀ (l : List Nat) (acc : Array Nat), (l.map fun c => (⟨#[tr c]⟩ : PySem.Str)).foldl (fun acc p => acc ++ p.cps) acc = acc ++ (l.map tr).toArray := by
          intro l
          induction l with
          | nil => intro acc; simp
          | cons c r ih => intro acc; simp only [List.map_cons, List.foldl_cons, ih]; apply Array.ext'; simp
        rw [g, ← hsp]; apply Array.ext'; simp
      rw [e]
      unfold retStr
      refine wpAny_bind (wpAny_mkStr (wpAny_pure ⟨_, rfl, hq _ _⟩) ?_)
      show (x.cps.map tr).size ≤ sizeLine
      rw [Array.size_map]; exact sizeLine_ge hl
end
end Mine
end
section
set_option linter.unusedVariables false
set_option maxRecDepth 100000
namespace Mine
open PySem PyProof.Rows PySem.W PySem.Builtin PySem.Builtin.Str

/- the methods of texts and lists that the text calls -/
inductive Mn where
  | find | append | pop
noncomputable def Mn.nm : Mn → PySem.Str
  | .find => "find"
  | .append => "append"
  | .pop => "pop"

noncomputable def strMeth (m : Mn) (x : PySem.Str) (vs : List V) (c : Cells) (K : V → Cells → Prop) : Prop := match m, vs with
  | .find, [.d (.str y), .d (.int i)] => K (.d (.int (Txt.find3 x y i))) c
  | _, _ => False

noncomputable def lstMeth (m : Mn) (k : Nat) (xs : List D) (vs : List V) (c : Cells) (K : V → Cells → Prop) : Prop := match m, vs with
  | .pop, [.d (.int i)] => i = 0 ∧ xs.length ≤ big ∧ ∃ d r, xs = d :: r ∧ K (.d d) (cset c k (.list r))
  | _, _ => False

section
variable {prog : Program} {w : World} {A : Around} {hb : Heap} {pr : List Nat} {env : Env} {l : Loc} {c : Cells} {α : Al} {s : Shared}

/- the built-in behind a method of a text -/
noncomputable def Mn.sid : Mn → String
  | .find => "str.find"
  | _ => ""
noncomputable def Mn.isS : Mn → Bool
  | .find => true
  | _ => false
theorem getm_str {m : Mn} (hm : m.isS = true) {x : PySem.Str} {t : Tok} {pl : Sem Bool} {Q : Value × List Value → Shared → Prop} {E : Value → Shared → Prop} (h : Q (.builtin m.sid, [.str x t]) s) : wpAny (model prog w) A (getMethod (.str x t) m.nm pl) Q E s := by
  cases m with
  | find => exact GM.find h
  | _ => cases hm

theorem strMeth_ok (F : Fst hb pr env l c α s.heap) {m : Mn} {x : PySem.Str} {t : Tok} {vs : List V} {ws : List Value} {K : V → Cells → Prop} (h : strMeth m x vs c K) (iv : IsVs c α s.heap vs ws) {Q : Value → Shared → Prop}
    (hq : ∀ v c' α' g h' tk, K v c' → Fst hb pr env l c' α' h' → Le c α s.heap c' α' h' → IsV c' α' h' v g → Q g { s with heap := h', toks := tk }) : wpAny (model prog w) A (call (.builtin m.sid) (.str x t :: ws)) Q no s := by
  have rf := Le.refl c α s.heap
  unfold strMeth at h
  split at h
  · obtain ⟨w, w', rfl, i, j⟩ := iv.two
    cases i; cases j
    exact SC.find3 (hq _ c α _ s.heap _ h F rf (.int _ _))
  · exact h.elim

/- the built-in behind a method of a list -/
noncomputable def Mn.lid : Mn → String
  | .pop => "list.pop"
  | _ => ""
noncomputable def Mn.isLi : Mn → Bool
  | .pop => true
  | _ => false
theorem getm_pop {M : Model} {v : Value} {pl : Sem Bool} {Q : Value × List Value → Shared → Prop} {E : Value → Shared → Prop} (hT : s.TypeIs v "list") (hd : ∀ a, v = .ref a → ∃ o, s.heap.get? a = some o ∧ o.dict = none) (h : Q (.builtin "list.pop", [v]) s) :
    wpAny M A (getMethod v "pop" pl) Q E s := by
  with_reducible exact getMethod_builtin hT PySem.F.plainAttrs_list PySem.F.slot_list_pop PySem.F.type_list_pop hd h
theorem getm_lst {m : Mn} (hm : m.isLi = true) {a : Addr} {ws : List Value} {ep : Nat} (ha : s.heap.get? a = some (sobj "list" ws ep)) {pl : Sem Bool} {Q : Value × List Value → Shared → Prop} {E : Value → Shared → Prop} (h : Q (.builtin m.lid, [.ref a]) s) :
    wpAny (model prog w) A (getMethod (.ref a) m.nm pl) Q E s := by
  have hT : s.TypeIs (.ref a) "list" := ⟨_, ha, rfl⟩
  cases m with
  | pop => exact getm_pop hT (fun _ e => by cases e; exact ⟨_, ha, rfl⟩) h
  | _ => cases hm

theorem lstMeth_ok (F : Fst hb pr env l c α s.heap) {m : Mn} {k : Nat} {xs : List D} (hk : cget c k = some (.list xs)) {vs : List V} {ws : List Value} {K : V → Cells → Prop} (h : lstMeth m k xs vs c K) (iv : IsVs c α s.heap vs ws) {Q : Value → Shared → Prop}
    (hq : ∀ v c' α' g h' tk, K v c' → Fst hb pr env l c' α' h' → Le c α s.heap c' α' h' → IsV c' α' h' v g → Q g { s with heap := h', toks := tk }) : wpAny (model prog w) A (call (.builtin m.lid) (.ref (α k) :: ws)) Q no s := by
  obtain ⟨us, ep, gk, rk⟩ := F.toCst.cell k _ hk
  have hkm := cget_mem hk
  unfold lstMeth at h
  split at h
  · obtain ⟨w, rfl, i⟩ := iv.one
    cases i
    obtain ⟨rfl, hlen, d, r, rfl, hK⟩ := h
    cases rk with
    | @cons _ u0 _ us' i0 r0 =>
      have hsz : (u0 :: us').toArray.size ≤ sizeLine := by rw [List.size_toArray]; have := r0.length; simp only [List.length_cons] at hlen ⊢; rw [← this]; exact sizeLine_ge hlen
      refine call_meets PySem.F.slot_list_pop ⟨_, gk, rfl⟩ PySem.F.entry_list_pop (PySem.F.args_list_pop_2 _ _) (PySem.MeetsSeq.list_pop_at (α k) (u0 :: us').toArray ep 0 _ 0 u0 (by decide) (by rw [List.size_toArray]; simp [seqIndex?]) (by simp) hsz) ⟨gk, ?_⟩
      have g8 : (s.heap.update (α k) (Obj.mapSeq fun xs => xs.eraseIdxIfInBounds 0)).get? (α k) = some (sobj "list" us' (ep + 1)) := by
        rw [Heap.get?_update_self _ gk (by rfl)]
        simp [Obj.mapSeq]
      obtain ⟨F8, L8⟩ := F.set hkm (o := .list r) (Heap.SameBut.update s.heap (α k) (Obj.mapSeq fun xs => xs.eraseIdxIfInBounds 0)) (fun L => ⟨us', ep + 1, g8, L.isDs r0⟩)
      exact hq _ _ _ _ _ s.toks hK F8 L8 (L8.isD i0)
  · exact h.elim
end
end Mine
end
section
set_option linter.unusedVariables false
namespace Mine
open PySem PyProof.Rows PySem.W

/- expressions with their names looked up -/
inductive IE where
  | c (d : D) | v (i : Nat) | g (u : V)
  | bin (op : Operator) (a b : IE)
  | cmp (op : CmpOp) (a b : IE)
  | not (a : IE)
  | and (a b : IE) | or (a b : IE)
  | ite (t a b : IE)
  | item (a i : IE)
  | slice (a lo hi : IE)
  | attr (a : IE) (nm : Str)
  | bnd (a : IE) (k : Nat)
  | tup (es : List IE) | lst (es : List IE) (k : Option Nat)
  | call (f : IE) (es : List IE) (k : Option Nat)
  | meth (o : IE) (m : Mn) (es : List IE)
  | umeth (o : IE) (f : Addr) (nm : Str) (es : List IE)
  | make (C : Addr) (es : List IE) (k dk : Nat)
  | repl (o : IE) (y z : Str)
  | trans (o : IE) (d : Addr)
  | comp (elt iter : IE) (test : Option IE) (frees : List Nat) (kk : Nat)
  | dict (kvs : List (Str × Int)) (k : Nat)
  | inD (a b : IE)
  | itemD (a i : IE)

inductive IS where
  | asg (i : Nat) (e : IE)
  | asg2 (i j : Nat) (e : IE)
  | asgA2 (o : IE) (nm : Str) (j : Nat) (e : IE)
  | asgA (o : IE) (nm : Str) (e : IE)
  | asgC (i : Nat) (e : IE)
  | unp2 (i j : Nat) (a b : IE)
  | if_ (t : IE) (a b : List IS)
  | while_ (t : IE) (a b : List IS)
  | for_ (i : Nat) (it : IE) (a : List IS)
  | ret (e : Option IE)
  | assert (t : IE)
  | expr (e : IE)
  | cont | brk

structure Tb where
  names : List Str
  kinds : List (Str × NameKind)
  G : Str → Option V
  cell : Pos → Option Nat
  mak : Str → Pos → Option (Addr × Nat × Nat)
  meth : Str → Option Addr
  dicts : Str → Bool := fun _ => false

/- a name that is known to be a dict's -/
noncomputable def dictE (T : Tb) : Expr → Bool
  | .Name x _ => T.dicts x
  | _ => false
noncomputable def dictLit : List (Option Expr) → List Expr → Option (List (Str × Int))
  | [], [] => some []
  | some (.Constant (.str x) _ _) :: ks, .Constant (.int i) _ _ :: vs => (dictLit ks vs).map ((x, i) :: ·)
  | _, _ => none
noncomputable def dictOk (kvs : List (Str × Int)) : Bool := decide ((kvs.map (·.1)).Nodup) && !kvs.isEmpty && decide (kvs.length ≤ 15)

noncomputable def slotOf : List Str → Str → Option Nat
  | [], _ => none
  | y :: r, x => if y = x then some 0 else (slotOf r x).map (· + 1)

noncomputable def okName (x : Str) : Bool := !(x == ("__debug__" : Str)) && !(x == ("__classdict__" : Str))
noncomputable def nameE (T : Tb) (x : Str) : Option IE :=
  if okName x then (match slotOf T.names x with
    | some i => some (.v i)
    | none => if T.kinds.lookup x = some .globalImplicit then (T.G x).map .g else none) else none

noncomputable def mnOf (nm : Str) : Option Mn :=
  if nm = Mn.find.nm then some .find else if nm = Mn.pop.nm then some .pop else none
noncomputable def noStar (es : List Expr) : Bool := es.all fun e => !isStar e

noncomputable def freesOf (T : Tb) (x : Str) (scope : Scope) : Option (List Str × List Nat) :=
  let fs := (scope.names.filter fun p => p.2 == .free).map (·.1)
  (fs.mapM (slotOf T.names)).map fun is => (fs, is)
noncomputable def scopeOk (T : Tb) (x : Str) (scope : Scope) : Bool :=
  (scope.names.all fun p => p.2 != .cell) && scope.kind == .function && (scope.names.all fun p => p.2 != .local || scope.names.lookup p.1 == some .local) && scope.names.lookup x == some .local &&
  (scope.names.all fun p => p.2 != .free || (T.kinds.lookup p.1 == some .cell && scope.names.lookup p.1 == some .free)) &&
  decide ((x :: (scope.names.filter fun p => p.2 == .free).map (·.1)).Nodup)
noncomputable def foldOk : Expr → Bool
  | .Set .. => false
  | _ => true
noncomputable def notSet : Expr → Bool
  | .Set .. => false
  | _ => true

noncomputable def constE : Const → Option IE
  | .int i => some (.c (.int i))
  | .str x => some (.c (.str x))
  | .bool b => some (.c (.bool b))
  | .none => some (.c .none)
  | _ => none
/- parts of an expression of one make -/
noncomputable def constP : Expr → Option Const
  | .Constant k _ _ => some k
  | _ => none
noncomputable def nameP : Expr → Option (Str × Pos)
  | .Name x p => some (x, p)
  | _ => none
noncomputable def attrP : Expr → Option (Expr × Str × Pos)
  | .Attribute o nm p => some (o, nm, p)
  | _ => none
noncomputable def sliceP : Expr → Option (Option Expr × Option Expr × Option Expr)
  | .Slice lo hi st _ => some (lo, hi, st)
  | _ => none
noncomputable def negE (a : Expr) : Option IE := match constP a with
  | some (.int i) => some (.c (.int (-i)))
  | _ => none
noncomputable def unE (f : Expr → Option IE) (op : UnaryOp) (a : Expr) : Option IE := match op with
  | .Not => do return .not (← f a)
  | .USub => negE a
  | _ => none
noncomputable def boolL (f : Expr → Option IE) (op : BoolOp) : List Expr → Option IE
  | [] => none
  | a :: r => match r with
    | [] => f a
    | _ :: _ => match op with
      | .And => do return .and (← f a) (← boolL f op r)
      | .Or => do return .or (← f a) (← boolL f op r)
noncomputable def boolE (f : Expr → Option IE) (op : BoolOp) (es : List Expr) : Option IE := match es with
  | _ :: _ :: _ => boolL f op es
  | _ => none
noncomputable def cmpE (f : Expr → Option IE) (T : Tb) (a : Expr) (ops : List CmpOp) (bs : List Expr) : Option IE := match ops, bs with
  | [op], [b] => if dictE T b then (if op = .In then do return .inD (← f a) (← f b) else none) else if notSet b then do return .cmp op (← f a) (← f b) else none
  | _, _ => none
noncomputable def optE (f : Expr → Option IE) : Option Expr → Option IE
  | none => some (.c .none)
  | some e => f e
noncomputable def subE (f : Expr → Option IE) (T : Tb) (a i : Expr) : Option IE :=
  if notSlice i then (if dictE T a then do return .itemD (← f a) (← f i) else do return .item (← f a) (← f i))
  else match sliceP i with
    | some (lo, hi, none) => do return .slice (← f a) (← optE f lo) (← optE f hi)
    | _ => none
noncomputable def attrE (f : Expr → Option IE) (T : Tb) (a : Expr) (nm : Str) (pos : Pos) : Option IE :=
  if notSuper a then (if nm = Mn.append.nm then do return .bnd (← f a) (← T.cell pos) else do return .attr (← f a) nm) else none
noncomputable def compL (f : Expr → Option IE) : List Expr → Option (List IE)
  | [] => some []
  | e :: r => do return (← f e) :: (← compL f r)
noncomputable def two (args : List Expr) : Option (Expr × Expr) := match args with
  | [a, b] => some (a, b)
  | _ => none
noncomputable def one (args : List Expr) : Option Expr := match args with
  | [a] => some a
  | _ => none
noncomputable def strP (a : Expr) : Option Str := match constP a with
  | some (.str x) => some x
  | _ => none
/- a method's call -/
noncomputable def methE (f : Expr → Option IE) (T : Tb) (o : Expr) (nm : Str) (args : List Expr) : Option IE :=
  if nm = Str.ofString "replace" then (do
    let (a, b) ← two args
    let y ← strP a
    let z ← strP b
    return .repl (← f o) y z)
  else if nm = Str.ofString "translate" then (do
    let (t, _) ← nameP (← one args)
    match nameE T t with
    | some (.g (.val (.ref d))) => do return .trans (← f o) d
    | _ => none)
  else match mnOf nm with
    | some m => do return .meth (← f o) m (← compL f args)
    | none => do return .umeth (← f o) (← T.meth nm) nm (← compL f args)
noncomputable def fnE (f : Expr → Option IE) (T : Tb) (x : Str) (args : List Expr) (pos : Pos) : Option IE := match T.mak x pos with
  | some (C, k, dk) => (match nameE T x with
    | some (.g (.val (.ref C'))) => if C' = C then do return .make C (← compL f args) k dk else none
    | _ => none)
  | none => do return .call (← nameE T x) (← compL f args) (T.cell pos)
noncomputable def callE (f : Expr → Option IE) (T : Tb) (g : Expr) (args : List Expr) (kws : List Keyword) (pos : Pos) : Option IE :=
  if kws.isEmpty && noStar args then (match attrP g with
    | some (o, nm, apos) => if notSuper o && decide (args.length < 30) && (apos.endLine == pos.line) then methE f T o nm args else none
    | none => match nameP g with
      | some (x, _) => fnE f T x args pos
      | none => none)
  else none
noncomputable def compT (T : Tb) (x : Str) (fs : List Str) (scope : Scope) : Tb := { T with names := x :: fs, kinds := scope.names }
noncomputable def lcE (f : Tb → Expr → Option IE) (T : Tb) (elt : Expr) (gs : List Comprehension) (scope : Scope) (pos : Pos) : Option IE := match gs with
  | [g] => do
    let (x, _) ← nameP g.target
    if g.is_async == 0 && scopeOk T x scope && foldOk g.iter && okName x then do
      let (fs, is) ← freesOf T x scope
      let k ← T.cell pos
      let e ← f (compT T x fs scope) elt
      let it ← f T g.iter
      match g.ifs with
      | [] => some (.comp e it none is k)
      | t :: r => if r.isEmpty then do return .comp e it (some (← f (compT T x fs scope) t)) is k else none
    else none
  | _ => none
noncomputable def dicE (T : Tb) (keys : List (Option Expr)) (values : List Expr) (pos : Pos) : Option IE := match dictLit keys values with
  | some kvs => if dictOk kvs then do return .dict kvs (← T.cell pos) else none
  | none => none

noncomputable def compE : Nat → Tb → Expr → Option IE
  | 0, _, _ => none
  | n + 1, T, e => match e with
    | .Constant k _ _ => constE k
    | .Name x _ => nameE T x
    | .BinOp a op b _ => do return .bin op (← compE n T a) (← compE n T b)
    | .UnaryOp op a _ => unE (compE n T) op a
    | .BoolOp op es _ => boolE (compE n T) op es
    | .Compare a ops bs _ => cmpE (compE n T) T a ops bs
    | .Subscript a i _ => subE (compE n T) T a i
    | .Attribute a nm pos => attrE (compE n T) T a nm pos
    | .Tuple es _ _ => if noStar es then do return .tup (← compL (compE n T) es) else none
    | .List es pos => if noStar es then do return .lst (← compL (compE n T) es) (T.cell pos) else none
    | .Call g args kws pos => callE (compE n T) T g args kws pos
    | .ListComp elt gs scope pos => lcE (compE n) T elt gs scope pos
    | .Dict keys values pos => dicE T keys values pos
    | _ => none

noncomputable def storeOk (T : Tb) (x : Str) : Bool := T.kinds.lookup x == some .local || T.kinds.lookup x == some .cell
noncomputable def isComp : Expr → Bool
  | .ListComp .. | .SetComp .. | .DictComp .. => true
  | _ => false
noncomputable def slotS (T : Tb) (x : Str) : Option Nat := if storeOk T x then slotOf T.names x else none
/- the swap of a comprehension with its store -/
noncomputable def swaps (T : Tb) (x : Str) (pos' : Pos) (value : Expr) : Bool := match value with
  | .ListComp _ _ scope pos => T.kinds.lookup x == some .local && pos'.line == pos.line && !(scope.names.any fun (n, k) => n == x && (k == .local || k == .cell))
  | _ => false

/- two names stored at once -/
noncomputable def swap2 (T : Tb) (x : Str) (px : Pos) (y : Str) (py : Pos) (a b : Expr) : Bool :=
  T.kinds.lookup x == some .local && T.kinds.lookup y == some .local && py.line == px.line && !(x == y) && !isStar a && !isStar b && !([a, b].all (foldedForSure 8)) && !([a, b].all (constantsAlone 8))

noncomputable def tupP : Expr → Option (List Expr)
  | .Tuple es _ _ => some es
  | _ => none
/- two names at once -/
noncomputable def asgT (f : Expr → Option IE) (T : Tb) (t value : Expr) : Option IS :=
  tupP t >>= fun es => two es >>= fun q => nameP q.1 >>= fun q1 => nameP q.2 >>= fun q2 => tupP value >>= fun vs => two vs >>= fun r =>
    if swap2 T q1.1 q1.2 q2.1 q2.2 r.1 r.2 then (do return .unp2 (← slotS T q1.1) (← slotS T q2.1) (← f r.1) (← f r.2)) else none
/- an assignment to one target -/
noncomputable def asg1 (f : Expr → Option IE) (T : Tb) (t value : Expr) : Option IS := match nameP t with
  | some (x, p') => if isComp value then (if swaps T x p' value then do return .asgC (← slotS T x) (← f value) else none) else do return .asg (← slotS T x) (← f value)
  | none => match attrP t with
    | some (o, nm, _) => if isComp value then none else do return .asgA (← f o) nm (← f value)
    | none => asgT f T t value
noncomputable def asg2 (f : Expr → Option IE) (T : Tb) (t1 t2 value : Expr) : Option IS := do
  let (y, _) ← nameP t2
  if isComp value then none else match nameP t1 with
    | some (x, _) => do return .asg2 (← slotS T x) (← slotS T y) (← f value)
    | none => do
      let (o, nm, _) ← attrP t1
      return .asgA2 (← f o) nm (← slotS T y) (← f value)
noncomputable def asgE (f : Expr → Option IE) (T : Tb) (ts : List Expr) (value : Expr) : Option IS := match ts with
  | [t] => asg1 f T t value
  | [t1, t2] => asg2 f T t1 t2 value
  | _ => none
noncomputable def forE (f : Expr → Option IE) (g : List Stmt → Option (List IS)) (T : Tb) (t it : Expr) (a b : List Stmt) : Option IS := do
  let (x, _) ← nameP t
  if b.isEmpty && foldOk it then do return .for_ (← slotS T x) (← f it) (← g a) else none
noncomputable def retE (f : Expr → Option IE) : Option Expr → Option IS
  | none => some (.ret none)
  | some e => do return .ret (some (← f e))

mutual
noncomputable def compS : Nat → Tb → Stmt → Option IS
  | 0, _, _ => none
  | n + 1, T, st => match st with
    | .Assign ts value _ => asgE (compE n T) T ts value
    | .If t a b _ => do return .if_ (← compE n T t) (← compB n T a) (← compB n T b)
    | .While t a b _ => do return .while_ (← compE n T t) (← compB n T a) (← compB n T b)
    | .For t it a b _ => forE (compE n T) (compB n T) T t it a b
    | .Return e _ => retE (compE n T) e
    | .Assert t m _ => if m.isNone then do return .assert (← compE n T t) else none
    | .Expr e _ => if isComp e then none else do return .expr (← compE n T e)
    | .Continue _ => some .cont
    | .Break _ => some .brk
    | _ => none
noncomputable def compB : Nat → Tb → List Stmt → Option (List IS)
  | 0, _, _ => none
  | _ + 1, _, [] => some []
  | n + 1, T, st :: r => do return (← compS n T st) :: (← compB n T r)
end
end Mine
end
section
set_option linter.unusedVariables false
namespace Mine
open PySem PyProof.Rows PySem.W

noncomputable abbrev Sl := List (Option V)
noncomputable def lget (l : Sl) (i : Nat) : Option V := match l[i]? with
  | some o => o
  | none => none

/- what the text's defs and classes do -/
structure Pm where
  C : Addr
  attr : Str → Bool
  fn : Addr → Spec
  isFn : Addr → Bool
  init : Addr
  td : Addr
  tr : Nat → Nat
  hash : Str → Int

noncomputable def domOk (c c' : Cells) : Prop := ∀ k ∈ dom c, k ∈ dom c'

noncomputable def asD : V → Option D
  | .d x => some x
  | _ => none
noncomputable def asDs : List V → Option (List D)
  | [] => some []
  | .d x :: r => (asDs r).map (x :: ·)
  | _ :: _ => none

noncomputable def callK (P : Pm) (c : Cells) (k : Option Nat) (u : V) (vs : List V) (K : V → Cells → Prop) : Prop := match u with
  | .bi b => biK c k b vs K
  | .val (.ref a) => P.isFn a = true ∧ P.fn a vs c (fun v c' => domOk c c' ∧ K v c')
  | .obj j => match cget c j, vs with
    | some (.bound id g), [.d d] => id = "list.append" ∧ (match cget c g with
      | some (.list xs) => xs.length ≤ big ∧ K (.d .none) (cset c g (.list (xs ++ [d])))
      | _ => False)
    | _, _ => False
  | _ => False
noncomputable def methK (c : Cells) (u : V) (m : Mn) (vs : List V) (K : V → Cells → Prop) : Prop := match u with
  | .d (.str x) => m.isS = true ∧ strMeth m x vs c K
  | .obj k => m.isLi = true ∧ match cget c k with
    | some (.list xs) => lstMeth m k xs vs c K
    | _ => False
  | _ => False
noncomputable def methable (c : Cells) (u : V) (m : Mn) : Bool := match u with
  | .d (.str _) => m.isS
  | .obj k => m.isLi && (match cget c k with | some (.list _) => true | _ => false)
  | _ => false
/- an instance's attributes -/
noncomputable def instK (P : Pm) (c : Cells) (u : V) (K : List (Str × V) → Prop) : Prop := match u with
  | .obj k => match cget c k with
    | some (.inst C dk) => C = P.C ∧ match cget c dk with
      | some (.ns fs) => K fs
      | _ => False
    | _ => False
  | _ => False

noncomputable def inDK (P : Pm) (c : Cells) (u v : V) (K : Bool → Prop) : Prop := match u, v with
  | .d (.str x), .obj j => (match cget c j with
    | some (.dic hf fs) => hf = P.hash ∧ K (look fs x).isSome
    | _ => False)
  | _, _ => False
noncomputable def itemDK (P : Pm) (c : Cells) (u v : V) (K : D → Prop) : Prop := match u, v with
  | .obj j, .d (.str x) => (match cget c j with
    | some (.dic hf fs) => hf = P.hash ∧ ∃ i, look fs x = some i ∧ K (.int i)
    | _ => False)
  | _, _ => False

mutual
noncomputable def wpE (P : Pm) : Nat → IE → Sl → Cells → (V → Cells → Prop) → Prop
  | 0, _, _, _, _ => False
  | n + 1, e, l, c, K => match e with
    | .c d => K (.d d) c
    | .v i => match lget l i with | some v => K v c | none => False
    | .g u => K u c
    | .bin op a b => wpE P n a l c fun u c1 => wpE P n b l c1 fun v c2 => binK c2 op u v fun d => K (.d d) c2
    | .cmp op a b => wpE P n a l c fun u c1 => wpE P n b l c1 fun v c2 => cmpK c2 op u v fun r => K (.d (.bool r)) c2
    | .not a => wpE P n a l c fun u c1 => truthK c1 u fun r => K (.d (.bool !r)) c1
    | .and a b => wpE P n a l c fun u c1 => truthK c1 u fun r => (r = false → K u c1) ∧ (r = true → wpE P n b l c1 K)
    | .or a b => wpE P n a l c fun u c1 => truthK c1 u fun r => (r = true → K u c1) ∧ (r = false → wpE P n b l c1 K)
    | .item a i => wpE P n a l c fun u c1 => wpE P n i l c1 fun v c2 => itemK c2 u v fun d => K (.d d) c2
    | .slice a lo hi => wpE P n a l c fun u c1 => wpE P n lo l c1 fun v c2 => wpE P n hi l c2 fun w c3 => sliceK c3 u v w fun d => K (.d d) c3
    | .attr a nm => wpE P n a l c fun u c1 => P.attr nm = true ∧ instK P c1 u fun fs => match look fs nm with | some v => handV v = true ∧ K v c1 | none => False
    | .bnd a k => wpE P n a l c fun u c1 => match u with
      | .obj j => (match cget c1 j with | some (.list _) => k ∉ dom c1 ∧ K (.obj k) (c1 ++ [(k, .bound "list.append" j)]) | _ => False)
      | _ => False
    | .tup es => wpEs P n es l c fun vs c1 => match asDs vs with | some ds => ds.length ≤ big ∧ K (.d (.tup ds)) c1 | none => False
    | .lst es k => wpEs P n es l c fun vs c1 => match asDs vs with | some ds => ds.length ≤ big ∧ newListK c1 k ds K | none => False
    | .call f es k => wpE P n f l c fun u c1 => wpEs P n es l c1 fun vs c2 => callK P c2 k u vs K
    | .meth o m es => wpE P n o l c fun u c1 => methable c1 u m = true ∧ wpEs P n es l c1 fun vs c2 => methK c2 u m vs K
    | .umeth o f nm es => wpE P n o l c fun u c1 => (instK P c1 u fun fs => look fs nm = none) ∧ wpEs P n es l c1 fun vs c2 => P.isFn f = true ∧ P.fn f (u :: vs) c2 (fun v c3 => domOk c2 c3 ∧ K v c3)
    | .make C es _ _ => C = P.C ∧ wpEs P n es l c fun vs c1 => ∃ k dk, k ∉ dom c1 ∧ dk ∉ dom c1 ∧ k ≠ dk ∧ P.fn P.init (.obj k :: vs) (c1 ++ [(dk, .ns [])] ++ [(k, .inst C dk)]) (fun v c2 => v = .d .none ∧ domOk (c1 ++ [(dk, .ns [])] ++ [(k, .inst C dk)]) c2 ∧ K (.obj k) c2)
    | .repl o y z => wpE P n o l c fun u c1 => match u with
      | .d (.str x) => x.length ≤ big ∧ z.length ≤ 14 ∧ (y == z) = false ∧ K (.d (.str (Txt.replace x y z))) c1
      | _ => False
    | .trans o d => wpE P n o l c fun u c1 => match u with
      | .d (.str x) => d = P.td ∧ (∀ ch ∈ x.cps.toList, ch < 128) ∧ x.length ≤ big ∧ K (.d (.str ⟨x.cps.map P.tr⟩)) c1
      | _ => False
    | .comp elt iter test frees kk => wpE P n iter l c fun v c1 => smallV v ∧ ∃ xs, iterItems v = some xs ∧ xs.length ≤ big ∧ kk ∉ dom c1 ∧ ∃ I : Nat → List D → Cells → Prop, I 0 [] c1 ∧
        (∀ i d acc c', xs[i]? = some d → I i acc c' → kk ∉ dom c' ∧
          (match test with
            | none => wpE P n elt (some (.d d) :: frees.map (lget l)) (c' ++ [(kk, .list acc)]) fun v c3 => ∃ d' c4, v = .d d' ∧ c3 = c4 ++ [(kk, .list acc)] ∧ kk ∉ dom c4 ∧ I (i + 1) (acc ++ [d']) c4
            | some t => wpT P n t (some (.d d) :: frees.map (lget l)) (c' ++ [(kk, .list acc)]) fun r c2 =>
              (r = true → wpE P n elt (some (.d d) :: frees.map (lget l)) c2 fun v c3 => ∃ d' c4, v = .d d' ∧ c3 = c4 ++ [(kk, .list acc)] ∧ kk ∉ dom c4 ∧ I (i + 1) (acc ++ [d']) c4) ∧
              (r = false → ∃ c4, c2 = c4 ++ [(kk, .list acc)] ∧ kk ∉ dom c4 ∧ I (i + 1) acc c4))) ∧
        (∀ acc c', I xs.length acc c' → kk ∉ dom c' ∧ celW (c' ++ [(kk, .list acc)]) c' c' ∧ K (.d (.lst acc)) c')
    | .dict kvs k => k ∉ dom c ∧ K (.obj k) (c ++ [(k, .dic P.hash kvs)])
    | .inD a b => wpE P n a l c fun u c1 => wpE P n b l c1 fun v c2 => inDK P c2 u v fun r => K (.d (.bool r)) c2
    | .itemD a i => wpE P n a l c fun u c1 => wpE P n i l c1 fun v c2 => itemDK P c2 u v fun d => K (.d d) c2
    | .ite .. => False
noncomputable def wpT (P : Pm) : Nat → IE → Sl → Cells → (Bool → Cells → Prop) → Prop
  | 0, _, _, _, _ => False
  | n + 1, e, l, c, K => match e with
    | .cmp op a b => wpE P n a l c fun u c1 => wpE P n b l c1 fun v c2 => cmpK c2 op u v fun r => K r c2
    | .inD a b => wpE P n a l c fun u c1 => wpE P n b l c1 fun v c2 => inDK P c2 u v fun r => K r c2
    | .not a => wpT P n a l c fun r c1 => K (!r) c1
    | .and a b => wpT P n a l c fun r c1 => (r = false → K false c1) ∧ (r = true → wpT P n b l c1 K)
    | .or a b => wpT P n a l c fun r c1 => (r = true → K true c1) ∧ (r = false → wpT P n b l c1 K)
    | .c .. => False
    | .ite .. => False
    | e => wpE P n e l c fun u c1 => truthK c1 u fun r => K r c1
noncomputable def wpEs (P : Pm) : Nat → List IE → Sl → Cells → (List V → Cells → Prop) → Prop
  | 0, _, _, _, _ => False
  | _ + 1, [], _, c, K => K [] c
  | n + 1, e :: r, l, c, K => wpE P n e l c fun v c1 => wpEs P n r l c1 fun vs c2 => K (v :: vs) c2
end

structure Sg' where
  l : Sl
  c : Cells

/- less is known of the slots -/
noncomputable def slW (l : Sl) (c c' : Cells) : Nat → Sl → Prop
  | _, [] => True
  | i, none :: r => slW l c c' (i + 1) r
  | i, some v' :: r => (∃ v, lget l i = some v ∧ vW c c' v v') ∧ slW l c c' (i + 1) r
structure Wk (pr : List Nat) (σ τ : Sg') : Prop where
  l : slW σ.l σ.c τ.c 0 τ.l
  len : τ.l.length = σ.l.length
  c : celW σ.c τ.c τ.c
  pr : ∀ k ∈ pr, k ∈ dom τ.c

noncomputable def setattrK (P : Pm) (c : Cells) (u : V) (nm : Str) (v : V) (K : Cells → Prop) : Prop := match u with
  | .obj k => match cget c k with
    | some (.inst C dk) => C = P.C ∧ P.attr nm = true ∧ match cget c dk with
      | some (.ns fs) => fs.length ≤ 1000 ∧ K (cset c dk (.ns (put fs nm v)))
      | _ => False
    | _ => False
  | _ => False

mutual
noncomputable def wpS (P : Pm) (pr : List Nat) : Nat → IS → Sg' → (F → Sg' → Prop) → Prop
  | 0, _, _, _ => False
  | n + 1, st, σ, K => match st with
    | .asg i e => wpE P n e σ.l σ.c fun v c1 => K .next ⟨σ.l.set i (some v), c1⟩
    | .asgC i e => wpE P n e σ.l σ.c fun v c1 => K .next ⟨σ.l.set i (some v), c1⟩
    | .asg2 i j e => wpE P n e σ.l σ.c fun v c1 => K .next ⟨(σ.l.set i (some v)).set j (some v), c1⟩
    | .asgA o nm e => wpE P n e σ.l σ.c fun v c1 => wpE P n o σ.l c1 fun u c2 => setattrK P c2 u nm v fun c3 => K .next ⟨σ.l, c3⟩
    | .asgA2 o nm j e => wpE P n e σ.l σ.c fun v c1 => wpE P n o σ.l c1 fun u c2 => setattrK P c2 u nm v fun c3 => K .next ⟨σ.l.set j (some v), c3⟩
    | .unp2 i j a b => wpE P n a σ.l σ.c fun u c1 => wpE P n b σ.l c1 fun v c2 => (∃ x y, u = .d x ∧ v = .d y) ∧ K .next ⟨(σ.l.set j (some v)).set i (some u), c2⟩
    | .if_ t a b => wpT P n t σ.l σ.c fun r c1 => (r = true → wpB P pr n a ⟨σ.l, c1⟩ K) ∧ (r = false → wpB P pr n b ⟨σ.l, c1⟩ K)
    | .while_ t a b => ∃ (I : Nat → Sg' → Prop) (k : Nat), I k σ ∧ ∀ k τ, I k τ → wpT P n t τ.l τ.c fun r c1 =>
        (r = true → wpB P pr n a ⟨τ.l, c1⟩ fun f υ => match f with
          | .next | .cont => ∃ k' υ', k' < k ∧ Wk pr υ υ' ∧ I k' υ'
          | .brk => K .next υ
          | .ret v => K (.ret v) υ) ∧ (r = false → wpB P pr n b ⟨τ.l, c1⟩ K)
    | .for_ i it a => wpE P n it σ.l σ.c fun v c1 => smallV v ∧ ∃ xs, iterItems v = some xs ∧ ∃ I : Nat → Sg' → Prop, I 0 ⟨σ.l, c1⟩ ∧
        (∀ j d τ, xs[j]? = some d → I j τ → i < τ.l.length ∧ wpB P pr n a ⟨τ.l.set i (some (.d d)), τ.c⟩ fun f υ => match f with
          | .next | .cont => ∃ υ', Wk pr υ υ' ∧ I (j + 1) υ'
          | .brk => K .next υ
          | .ret v => K (.ret v) υ) ∧ ∀ τ, I xs.length τ → K .next τ
    | .ret none => K (.ret (.d .none)) σ
    | .ret (some e) => wpE P n e σ.l σ.c fun v c1 => K (.ret v) ⟨σ.l, c1⟩
    | .assert t => wpT P n t σ.l σ.c fun r c1 => r = true ∧ K .next ⟨σ.l, c1⟩
    | .expr e => wpE P n e σ.l σ.c fun v c1 => K .next ⟨σ.l, c1⟩
    | .cont => K .cont σ
    | .brk => K .brk σ
noncomputable def wpB (P : Pm) (pr : List Nat) : Nat → List IS → Sg' → (F → Sg' → Prop) → Prop
  | 0, _, _, _ => False
  | _ + 1, [], σ, K => K .next σ
  | n + 1, st :: r, σ, K => wpS P pr n st σ fun f τ => match f with | .next => wpB P pr n r τ K | f => K f τ
end
end Mine
end
section
set_option linter.unusedVariables false
set_option maxRecDepth 100000
namespace Mine
open PySem PyProof.Rows PySem.W

noncomputable def toLoc : List Str → Sl → Loc
  | x :: xs, some v :: l => (x, v) :: toLoc xs l
  | _ :: xs, none :: l => toLoc xs l
  | _, _ => []
theorem look_none {names : List Str} : ∀ (l : Sl) (x : Str), x ∉ names → look (toLoc names l) x = none := by
  induction names with
  | nil => intro l x _; cases l <;> rfl
  | cons y ys ih =>
    intro l x h
    have h1 : y ≠ x := fun e => h (e ▸ .head _)
    have h2 : x ∉ ys := fun e => h (.tail _ e)
    cases l with
    | nil => rfl
    | cons o l =>
      cases o with
      | none => exact ih l x h2
      | some v => show (if y = x then _ else _) = _; rw [if_neg h1]; exact ih l x h2
theorem slotOf_mem {names : List Str} : ∀ {x : Str} {i : Nat}, slotOf names x = some i → x ∈ names ∧ i < names.length := by
  induction names with
  | nil => intro x i h; cases h
  | cons y ys ih =>
    intro x i h
    simp only [slotOf] at h
    by_cases e : y = x
    · rw [if_pos e] at h; cases h; exact ⟨e ▸ .head _, by simp⟩
    · rw [if_neg e] at h
      obtain ⟨j, hj, rfl⟩ := Option.map_eq_some_iff.mp h
      obtain ⟨h1, h2⟩ := ih hj
      exact ⟨.tail _ h1, by simp; exact h2⟩
theorem slotOf_none {names : List Str} : ∀ {x : Str}, slotOf names x = none → x ∉ names := by
  induction names with
  | nil => intro x _ h; cases h
  | cons y ys ih =>
    intro x h hm
    simp only [slotOf] at h
    by_cases e : y = x
    · rw [if_pos e] at h; cases h
    · rw [if_neg e] at h
      rcases List.mem_cons.mp hm with q | q
      · exact e q.symm
      · exact ih (Option.map_eq_none_iff.mp h) q
theorem look_slot {names : List Str} (nd : names.Nodup) : ∀ (l : Sl) {x : Str} {i : Nat}, slotOf names x = some i → look (toLoc names l) x = lget l i := by
  induction names with
  | nil => intro l x i h; cases h
  | cons y ys ih =>
    intro l x i h
    obtain ⟨hn, nd'⟩ := List.nodup_cons.mp nd
    simp only [slotOf] at h
    by_cases e : y = x
    · rw [if_pos e] at h; cases h
      cases l with
      | nil => rfl
      | cons o l =>
        cases o with
        | none => show look (toLoc ys l) x = none; exact look_none l x (e ▸ hn)
        | some v => show (if y = x then _ else _) = _; rw [if_pos e]; rfl
    · rw [if_neg e] at h
      obtain ⟨j, hj, rfl⟩ := Option.map_eq_some_iff.mp h
      cases l with
      | nil => rfl
      | cons o l =>
        have := ih nd' l hj
        cases o with
        | none => exact this
        | some v => show (if y = x then _ else _) = _; rw [if_neg e]; exact this
theorem lget_set (l : Sl) (i j : Nat) (v : Option V) (h : i < l.length) : lget (l.set i v) j = if j = i then v else lget l j := by
  unfold lget
  rw [List.getElem?_set]
  by_cases e : i = j
  · subst e; simp [h]
  · rw [if_neg e, if_neg (fun q => e q.symm)]
theorem slotOf_inj {names : List Str} : ∀ {x y : Str} {i : Nat}, slotOf names x = some i → slotOf names y = some i → x = y := by
  induction names with
  | nil => intro x y i h; cases h
  | cons z zs ih =>
    intro x y i h1 h2
    simp only [slotOf] at h1 h2
    by_cases e1 : z = x <;> by_cases e2 : z = y
    · exact e1.symm.trans e2
    · rw [if_pos e1] at h1; rw [if_neg e2] at h2; cases h1
      obtain ⟨j, _, q⟩ := Option.map_eq_some_iff.mp h2; cases q
    · rw [if_neg e1] at h1; rw [if_pos e2] at h2; cases h2
      obtain ⟨j, _, q⟩ := Option.map_eq_some_iff.mp h1; cases q
    · rw [if_neg e1] at h1; rw [if_neg e2] at h2
      obtain ⟨j, hj, rfl⟩ := Option.map_eq_some_iff.mp h1
      obtain ⟨j', hj', q⟩ := Option.map_eq_some_iff.mp h2
      cases q; exact ih hj hj'
theorem look_set {names : List Str} (nd : names.Nodup) {l : Sl} (hl : l.length = names.length) {x : Str} {i : Nat} (h : slotOf names x = some i) (v : V) (y : Str) :
    look (toLoc names (l.set i (some v))) y = look (put (toLoc names l) x v) y := by
  rw [look_put]
  obtain ⟨hx, hi⟩ := slotOf_mem h
  cases hy : slotOf names y with
  | none =>
    have hn := slotOf_none hy
    rw [look_none _ _ hn, look_none _ _ hn, if_neg (fun (e : y = x) => hn (e ▸ hx))]
  | some j =>
    rw [look_slot nd _ hy, look_slot nd _ hy, lget_set _ _ _ _ (by rw [hl]; exact hi)]
    by_cases e : y = x
    · subst e; rw [hy] at h; cases h; rw [if_pos rfl, if_pos rfl]
    · rw [if_neg e, if_neg (fun (q : j = i) => e (slotOf_inj (q ▸ hy) h))]

theorem Fst.look {hb h : Heap} {pr : List Nat} {env : Env} {l l' : Loc} {c : Cells} {α : Al} (F : Fst hb pr env l c α h) (e : ∀ x v, look l' x = some v → Mine.look l x = some v) : Fst hb pr env l' c α h :=
  ⟨F.toCst, F.ns, F.cel, fun x v q => F.loc x v (e x v q), F.fr⟩
theorem OkE.look {M : Model} {A : Around} {hb : Heap} {pr : List Nat} {env : Env} {l l' : Loc} {c : Cells} {β γ : Type} {I : Cells → Al → Heap → β → γ → Prop} {t : Sem γ} {K : β → Cells → Prop} (e : ∀ x, Mine.look l' x = Mine.look l x)
    (h : OkE M A hb pr env I l c t K) : OkE M A hb pr env I l' c t K :=
  fun α s Q hs F hq => h α s Q hs (F.look fun x v q => by rw [e]; exact q) fun b c' α' g h' tk ht k f le i => hq b c' α' g h' tk ht k (f.look fun x v q => by rw [← e]; exact q) le i
theorem OkE.mono {M : Model} {A : Around} {hb : Heap} {pr : List Nat} {env : Env} {l : Loc} {c : Cells} {β γ : Type} {I : Cells → Al → Heap → β → γ → Prop} {t : Sem γ} {K K' : β → Cells → Prop}
    (h : OkE M A hb pr env I l c t K) (hK : ∀ b c', K b c' → K' b c') : OkE M A hb pr env I l c t K' :=
  fun α s Q hs F hq => h α s Q hs F fun b c' α' g h' tk ht k f le i => hq b c' α' g h' tk ht (hK b c' k) f le i

/- a global name of the text -/
noncomputable def GlobOk (prog : Program) (w : World) (hb : Heap) (x : Str) (v : V) : Prop :=
  ∃ g, (∀ c α h, IsV c α h v g) ∧ ∀ (env : Env) (A : Around) (s : Shared) (Q : Value → Shared → Prop), EnvOk env → env.globals = mainGlobals → env.builtins = builtinsNs → env.kindOf x = some .globalImplicit →
    (∀ b o, hb.get? b = some o → s.heap.get? b = some o) → Q g s → wpAny (model prog w) A (loadName env x) Q no s

structure Cx0 (prog : Program) (w : World) (hb : Heap) (K : Frag) (T : Tb) (P : Pm) (dep : Nat) : Prop where
  kin : K.In hb
  glob : ∀ x v, T.G x = some v → GlobOk prog w hb x v
  cls : ClsOk K P.C
  attr : ∀ nm, P.attr nm = true → findIn K (.ref P.C) nm = some none
  meth : ∀ nm f, T.meth nm = some f → findIn K (.ref P.C) nm = some (some (.ref f)) ∧ typeIn K (.ref f) = some (.type "function")
  fn : ∀ a, P.isFn a = true → (∃ o fd, hb.get? a = some o ∧ o.data = .func fd) ∧ FnOk prog w hb dep a (P.fn a)
  makes : makesIn K P.C = true
  ini : findIn K (.ref P.C) "__init__" = some (some (.ref P.init)) ∧ typeIn K (.ref P.init) = some (.type "function")
  inif : FnOk prog w hb dep P.init (P.fn P.init)
  keep : keepIn K (.ref P.C) = true
  tab : ∃ C', TabOk K P.td C' P.tr
  hash : P.hash = hashStr w
  sys : ∃ b o, sysModules < b ∧ hb.get? b = some o

structure CxE (env : Env) (T : Tb) : Prop where
  eo : EnvOk env
  gl : env.globals = mainGlobals
  bl : env.builtins = builtinsNs
  kg : ∀ x, T.kinds.lookup x = some .globalImplicit → env.kindOf x = some .globalImplicit
  kl : ∀ x, T.kinds.lookup x = some .local → env.kindOf x = some .local
  kc : ∀ x, T.kinds.lookup x = some .cell → env.kindOf x = some .cell ∧ ∃ b, env.cells.lookup x = some b
  nd : T.names.Nodup

section
variable {prog : Program} {w : World} {A : Around} {hb : Heap} {pr : List Nat} {env : Env} {T : Tb} {P : Pm} {K₀ : Frag} {dep : Nat}

theorem okName_split {x : Str} (h : okName x = true) : (x == ("__debug__" : Str)) = false ∧ (x == ("__classdict__" : Str)) = false := by
  unfold okName at h
  simp only [Bool.and_eq_true, Bool.not_eq_true'] at h
  exact h

theorem name_ok (X : Cx0 prog w hb K₀ T P dep) (E : CxE env T) {x : Str} {p : Pos} {e : IE} (h : nameE T x = some e) {n : Nat} {l : Sl} {c : Cells} {K : V → Cells → Prop} (hw : wpE P n e l c K) :
    OkE (model prog w) A hb pr env IsV (toLoc T.names l) c (eval (.Name x p) env) K := by
  unfold nameE at h
  split at h
  · rename_i hn
    obtain ⟨n1, n2⟩ := okName_split hn
    split at h
    · rename_i i hi
      cases h
      cases n with
      | zero => exact hw.elim
      | succ n =>
        simp only [wpE] at hw
        cases hv : lget l i with
        | none => rw [hv] at hw; exact hw.elim
        | some v =>
          rw [hv] at hw
          intro α s Q hs F hq
          refine wpAny_Name (load_ok E.eo F (by rw [look_slot E.nd _ hi]; exact hv) n2 fun g i => ?_) n1
          exact hq v c α g s.heap s.toks hs hw F (.refl ..) i
    · split at h
      · rename_i hk
        obtain ⟨v, hv, rfl⟩ := Option.map_eq_some_iff.mp h
        cases n with
        | zero => exact hw.elim
        | succ n =>
          simp only [wpE] at hw
          obtain ⟨g, ig, ld⟩ := X.glob x v hv
          intro α s Q hs F hq
          refine wpAny_Name (ld env A s Q E.eo E.gl E.bl (E.kg x hk) F.base ?_) n1
          exact hq v c α g s.heap s.toks hs hw F (.refl ..) (ig _ _ _)
      · cases h
  · cases h

theorem asDs_ok {c : Cells} {α : Al} {h : Heap} : ∀ {vs : List V} {ds : List D} {ws : List Value}, asDs vs = some ds → IsVs c α h vs ws → IsDs h (OwnC c α) ds ws
  | [], ds, ws, e, i => by cases e; cases i; exact .nil
  | .d x :: r, ds, ws, e, i => by
    simp only [asDs] at e
    obtain ⟨ds', h1, rfl⟩ := Option.map_eq_some_iff.mp e
    cases i with | cons i1 i2 => exact .cons i1 (asDs_ok h1 i2)
  | .obj _ :: _, _, _, e, _ => by cases e
  | .val _ :: _, _, _, e, _ => by cases e
  | .rng _ _ :: _, _, _, e, _ => by cases e
  | .bi _ :: _, _, _, e, _ => by cases e

theorem bind2 {α β γ : Type} {a : Option α} {b : Option β} {f : α → β → γ} {r : γ} (h : (do return f (← a) (← b)) = some r) : ∃ x y, a = some x ∧ b = some y ∧ r = f x y := by
  cases a with
  | none => cases h
  | some x => cases b with
    | none => cases h
    | some y => cases h; exact ⟨x, y, rfl, rfl, rfl⟩
theorem bind1 {α γ : Type} {a : Option α} {f : α → γ} {r : γ} (h : (do return f (← a)) = some r) : ∃ x, a = some x ∧ r = f x := by
  cases a with
  | none => cases h
  | some x => cases h; exact ⟨x, rfl, rfl⟩
theorem bind3 {α β δ γ : Type} {a : Option α} {b : Option β} {d : Option δ} {f : α → β → δ → γ} {r : γ} (h : (do return f (← a) (← b) (← d)) = some r) : ∃ x y z, a = some x ∧ b = some y ∧ d = some z ∧ r = f x y z := by
  cases a with
  | none => cases h
  | some x => cases b with
    | none => cases h
    | some y => cases d with
      | none => cases h
      | some z => cases h; exact ⟨x, y, z, rfl, rfl, rfl, rfl⟩
end
end Mine
end
section
set_option linter.unusedVariables false
set_option maxRecDepth 100000
namespace Mine
open PySem PyProof.Rows PySem.W

section
variable {prog : Program} {w : World} {A : Around} {hb : Heap} {pr : List Nat} {env : Env} {T : Tb} {P : Pm} {K₀ : Frag} {dep : Nat}

theorem OkE.prim {l : Loc} {c : Cells} {t : Sem Value} {K : V → Cells → Prop}
    (h : ∀ (α : Al) (s : Shared) (Q : Value → Shared → Prop), 1 ≤ s.toks → Fst hb pr env l c α s.heap →
      (∀ b c' α' g h' tk, K b c' → Fst hb pr env l c' α' h' → Le c α s.heap c' α' h' → IsV c' α' h' b g → Q g { s with heap := h', toks := tk }) → wpAny (model prog w) A t Q no s) : OkE (model prog w) A hb pr env IsV l c t K := OkE.mk h

theorem const_ok {l : Loc} {c : Cells} {K : V → Cells → Prop} {d : D} {k : Const} {n : Nat} {p : Pos} (hd : (match k with | .int i => d = .int i | .str x => d = .str x | .bool b => d = .bool b | .none => d = .none | _ => False)) (h : K (.d d) c) :
    OkE (model prog w) A hb pr env IsV l c (eval (.Constant k n p) env) K := by
  refine OkE.mk fun α s Q hs F hq => ?_
  cases k with
  | int i => cases hd; exact wpAny_Constant_int (hq _ c α _ s.heap _ h F (.refl ..) (.int _ _))
  | str x => cases hd; exact wpAny_Constant_str (hq _ c α _ s.heap _ h F (.refl ..) (.str _ _))
  | bool b => cases hd; exact wpAny_pure (hq _ c α _ s.heap s.toks h F (.refl ..) (.bool _))
  | none => cases hd; exact wpAny_pure (hq _ c α _ s.heap s.toks h F (.refl ..) .none)
  | _ => exact hd.elim

/- a call's own step, for each make of function -/
theorem callK_ok (X : Cx0 prog w hb K₀ T P dep) (R : Room (dep + 1) A) {l : Loc} {c : Cells} {k : Option Nat} {u : V} {vs : List V} {K : V → Cells → Prop} (h : callK P c k u vs K) {f : Value} {ws : List Value} {α : Al} {s : Shared} (hs : 1 ≤ s.toks)
    (F : Fst hb pr env l c α s.heap) (hf : IsV c α s.heap u f) (iv : IsVs c α s.heap vs ws) {Q : Value → Shared → Prop}
    (hq : ∀ v c'' α'' g h'' tk, 1 ≤ tk → K v c'' → Fst hb pr env l c'' α'' h'' → Le c α s.heap c'' α'' h'' → IsV c'' α'' h'' v g → Q g { s with heap := h'', toks := tk }) : wpAny (model prog w) A (call f ws) Q no s := by
  refine wpAny_tk hs ?_
  unfold callK at h
  split at h
  · cases hf
    exact bi_ok R.handled F h iv fun v c' α' g h' tk hK F' L' i ht => hq v c' α' g h' tk ht hK F' L' i
  · rename_i a
    cases hf
    obtain ⟨hfn, h⟩ := h
    obtain ⟨_, FO⟩ := X.fn a hfn
    refine wpAny_call ?_
    refine FO A (R.less (Nat.le_succ _)) vs ws c α s _ _ hs ⟨F.base, F.cell, F.fresh, F.inj, fun _ hk => by cases hk⟩ iv h fun v c' α' g h' tk hK C' L' i => ?_
    intro ht
    have C'' : Cst hb pr c' α' h' := ⟨C'.base, C'.cell, C'.fresh, C'.inj, fun k hk => hK.1 k (F.prs k hk)⟩
    exact hq v c' α' g h' tk ht hK.2 (F.le L' C'') L' i
  · rename_i j
    split at h
    · rename_i id g d hj
      obtain ⟨rfl, h⟩ := h
      split at h
      · rename_i xs hg
        obtain ⟨w', rfl, i⟩ := iv.one
        obtain ⟨rfl, hjm⟩ := hf
        obtain ⟨hb', hgm⟩ := F.toCst.cell j _ hj
        obtain ⟨us, ep, gk, rk⟩ := F.toCst.cell g _ hg
        refine call_bound (xs := us.toArray) hb' gk (by rw [List.size_toArray, ← rk.length]; exact sizeLine_ge h.1) fun h8 hl8 hs8 => ?_
        intro ht
        obtain ⟨F8, L8⟩ := F.set hgm (o := .list (xs ++ [d])) hs8 (fun L => by
          obtain ⟨ep8, g8⟩ := hl8
          exact ⟨us ++ [w'], ep8, by rw [g8]; simp, (IsDs.append (.cons (L.isD i) .nil) (L.isDs rk))⟩)
        exact hq _ _ _ _ _ s.toks ht h.2 F8 L8 .none
      · exact h.elim
    · exact h.elim
  · exact h.elim

/- what kind of function is called: known at every later state -/
theorem keeper_ok (X : Cx0 prog w hb K₀ T P dep) {c : Cells} {u : V} {f : Value} {α : Al} {h : Heap} (C : Cst hb pr c α h) (hf : IsV c α h u f) (hu : (∃ b, u = .bi b) ∨ (∃ a, u = .val (.ref a) ∧ P.isFn a = true) ∨ ∃ j g, u = .obj j ∧ cget c j = some (.bound "list.append" g)) :
    ∃ k, Looks (model prog w) h (keeperOf f) k := by
  rcases hu with ⟨b, rfl⟩ | ⟨a, rfl, ha⟩ | ⟨j, g, rfl, hj⟩
  · cases hf; exact ⟨.machine, by cases b <;> exact Looks.of_pure rfl⟩
  · cases hf
    obtain ⟨⟨o, fd, ho, hd⟩, _⟩ := X.fn a ha
    refine ⟨.frame, fun A Q E s k q => ?_⟩
    unfold keeperOf
    refine wpAny_bind (wpAny_load (k _ _ (C.base _ _ ho)) ?_)
    rw [hd]; exact wpAny_pure q
  · obtain ⟨rfl, _⟩ := hf
    obtain ⟨hb', _⟩ := C.cell j _ hj
    exact ⟨.machine, keeper_bound hb'⟩

/- the bound method that a call's own arguments leave as it is -/
noncomputable def callable (P : Pm) (c : Cells) (u : V) : Prop := (∃ b, u = .bi b) ∨ (∃ a, u = .val (.ref a) ∧ P.isFn a = true) ∨ ∃ j g, u = .obj j ∧ cget c j = some (.bound "list.append" g)
theorem callK_callable {c : Cells} {k : Option Nat} {u : V} {vs : List V} {K : V → Cells → Prop} (h : callK P c k u vs K) : callable P c u := by
  unfold callK at h
  split at h
  · exact .inl ⟨_, rfl⟩
  · exact .inr (.inl ⟨_, rfl, h.1⟩)
  · split at h
    · rename_i hj; obtain ⟨rfl, _⟩ := h; exact .inr (.inr ⟨_, _, rfl, hj⟩)
    · exact h.elim
  · exact h.elim
end
end Mine
end
section
set_option linter.unusedVariables false
set_option maxRecDepth 100000
namespace Mine
open PySem PyProof.Rows PySem.W

section
variable {prog : Program} {w : World} {A : Around} {hb : Heap} {pr : List Nat} {env : Env} {T : Tb} {P : Pm} {K₀ : Frag} {dep : Nat} {l : Loc} {c : Cells}

noncomputable abbrev Ev (prog : Program) (w : World) (A : Around) (hb : Heap) (pr : List Nat) (env : Env) (l : Loc) (c : Cells) (e : Expr) (K : V → Cells → Prop) : Prop := OkE (model prog w) A hb pr env IsV l c (eval e env) K
noncomputable abbrev Tst (prog : Program) (w : World) (A : Around) (hb : Heap) (pr : List Nat) (env : Env) (l : Loc) (c : Cells) (e : Expr) (K : Bool → Cells → Prop) : Prop := OkE (model prog w) A hb pr env okB l c (isTrue e env (eval e env)) K

theorem okBin {a b : Expr} {op : Operator} {p : Pos} {K : V → Cells → Prop} (h : Ev prog w A hb pr env l c a fun u c1 => Ev prog w A hb pr env l c1 b fun v c2 => binK c2 op u v fun d => K (.d d) c2) : Ev prog w A hb pr env l c (.BinOp a op b p) K := by
  intro α s Q hs F hq
  refine wpAny_BinOp (h α s _ hs F fun u c1 α1 g1 h1 t1 ht1 k1 F1 L1 i1 => ?_)
  refine k1 α1 _ _ ht1 F1 fun v c2 α2 g2 h2 t2 ht2 k2 F2 L2 i2 => ?_
  refine wpAny_tk (s := { s with heap := h2, toks := t2 }) ht2 (bin_ok (s := { s with heap := h2, toks := t2 }) F2 k2 (L2.isV i1) i2 fun d g h' tk hK F' L' i ht => ?_)
  exact hq _ c2 α2 g h' tk ht hK F' ((L1.trans L2).trans L') i

theorem notSet_marks {op : CmpOp} {e : Expr} (h : notSet e = true) : behindInMarks op e = false := by
  cases e <;> first | rfl | exact absurd h Bool.false_ne_true

theorem okCmp (R : Room (dep + 1) A) {a b : Expr} {op : CmpOp} {p : Pos} (hb' : notSet b = true) {K : V → Cells → Prop} (h : Ev prog w A hb pr env l c a fun u c1 => Ev prog w A hb pr env l c1 b fun v c2 => cmpK c2 op u v fun r => K (.d (.bool r)) c2) :
    Ev prog w A hb pr env l c (.Compare a [op] [b] p) K := by
  intro α s Q hs F hq
  refine wpAny_Compare1 (h α s _ hs F fun u c1 α1 g1 h1 t1 ht1 k1 F1 L1 i1 => ?_) (notSet_marks hb')
  refine k1 α1 _ _ ht1 F1 fun v c2 α2 g2 h2 t2 ht2 k2 F2 L2 i2 => ?_
  exact cmp_ok (s := { s with heap := h2, toks := t2 }) F2.toCst R.hu k2 (L2.isV i1) i2 fun r hK => hq _ c2 α2 _ h2 t2 ht2 hK F2 (L1.trans L2) (.bool _)
theorem okCmpT (R : Room (dep + 1) A) {a b : Expr} {op : CmpOp} {p : Pos} (hb' : notSet b = true) {K : Bool → Cells → Prop} (h : Ev prog w A hb pr env l c a fun u c1 => Ev prog w A hb pr env l c1 b fun v c2 => cmpK c2 op u v fun r => K r c2) :
    Tst prog w A hb pr env l c (.Compare a [op] [b] p) K := by
  intro α s Q hs F hq
  refine wpAny_isTrue_Compare1 (h α s _ hs F fun u c1 α1 g1 h1 t1 ht1 k1 F1 L1 i1 => ?_) (notSet_marks hb')
  refine k1 α1 _ _ ht1 F1 fun v c2 α2 g2 h2 t2 ht2 k2 F2 L2 i2 => ?_
  exact cmp_ok (s := { s with heap := h2, toks := t2 }) F2.toCst R.hu k2 (L2.isV i1) i2 fun r hK => wpAny_truthy_bool (hq _ c2 α2 _ h2 t2 ht2 hK F2 (L1.trans L2) rfl)

theorem okNot {a : Expr} {p : Pos} {K : V → Cells → Prop} (h : Ev prog w A hb pr env l c a fun u c1 => truthK c1 u fun r => K (.d (.bool !r)) c1) : Ev prog w A hb pr env l c (.UnaryOp .Not a p) K := by
  intro α s Q hs F hq
  refine PyProof.Rows.UnaryOp_ (h α s _ hs F fun u c1 α1 g1 h1 t1 ht1 k1 F1 L1 i1 => ?_)
  refine not_of (wpAny_tk (s := { s with heap := h1, toks := t1 }) ht1 (truth_ok (s := { s with heap := h1, toks := t1 }) F1.toCst k1 i1 fun r tk hK ht => ?_))
  exact hq _ c1 α1 _ h1 tk ht hK F1 L1 (.bool _)
theorem okNotT {a : Expr} {p : Pos} {K : Bool → Cells → Prop} (h : Tst prog w A hb pr env l c a fun r c1 => K (!r) c1) : Tst prog w A hb pr env l c (.UnaryOp .Not a p) K := by
  intro α s Q hs F hq
  refine isTrue_not (h α s _ hs F fun r c1 α1 g1 h1 t1 ht1 k1 F1 L1 i1 => ?_)
  cases i1
  exact hq _ c1 α1 _ h1 t1 ht1 k1 F1 L1 rfl
theorem okNeg {i : Int} {k : Nat} {p q : Pos} {K : V → Cells → Prop} (h : K (.d (.int (-i))) c) : Ev prog w A hb pr env l c (.UnaryOp .USub (.Constant (.int i) k q) p) K := by
  refine OkE.mk fun α s Q hs F hq => ?_
  refine PyProof.Rows.UnaryOp_ (wpAny_Constant_int ?_)
  exact PySem.P.neg_int (hq _ c α _ s.heap _ h F (.refl ..) (.int _ _))

/- and, or as values: of a list that is not a lone one -/
theorem BoolOp_ {M : Model} {E : Value → Shared → Prop} {s : Shared} {op : BoolOp} {a b : Expr} {r : List Expr} {p : Pos} {Q : Value → Shared → Prop}
    (h : wpAny M A (eval a env) (fun v s₁ => wpAny M A (truthy v) (fun t s₂ => match op, t with | .And, false | .Or, true => Q v s₂ | _, _ => wpAny M A (boolOp p op (evalEach (b :: r) env)) Q E s₂) E s₁) E s) : wpAny M A (eval (.BoolOp op (a :: b :: r) p) env) Q E s := by
  show wpAny M A (do let v ← eval a env; standAt p; let t ← holding [v] (truthy v); match op, t with | .And, false | .Or, true => pure v | _, _ => boolOp p op (evalEach (b :: r) env)) Q E s
  refine wpAny_bind (wpAny_mono h (fun v s₁ h₁ => wpAny_bind (wpAny_standAt (wpAny_bind (wpAny_holding (wpAny_mono h₁ (fun t s₂ h₂ => ?_) fun _ _ x => x))))) fun _ _ x => x)
  cases op <;> cases t <;> first | exact wpAny_pure h₂ | exact h₂
theorem boolOp_one {M : Model} {E : Value → Shared → Prop} {s : Shared} {op : BoolOp} {a : Expr} {p : Pos} {Q : Value → Shared → Prop} (h : wpAny M A (eval a env) Q E s) : wpAny M A (boolOp p op (evalEach [a] env)) Q E s := h
theorem boolOp_more {M : Model} {E : Value → Shared → Prop} {s : Shared} {op : BoolOp} {a b : Expr} {r : List Expr} {p : Pos} {Q : Value → Shared → Prop} (h : wpAny M A (eval (.BoolOp op (a :: b :: r) p) env) Q E s) : wpAny M A (boolOp p op (evalEach (a :: b :: r) env)) Q E s := h

theorem okAnd {a b : Expr} {r : List Expr} {p : Pos} {K : V → Cells → Prop} (h : Ev prog w A hb pr env l c a fun u c1 => truthK c1 u fun t => (t = false → K u c1) ∧ (t = true → OkE (model prog w) A hb pr env IsV l c1 (boolOp p .And (evalEach (b :: r) env)) K)) :
    Ev prog w A hb pr env l c (.BoolOp .And (a :: b :: r) p) K := by
  intro α s Q hs F hq
  refine BoolOp_ (h α s _ hs F fun u c1 α1 g1 h1 t1 ht1 k1 F1 L1 i1 => ?_)
  refine wpAny_tk (s := { s with heap := h1, toks := t1 }) ht1 (truth_ok (s := { s with heap := h1, toks := t1 }) F1.toCst k1 i1 fun t tk hK ht => ?_)
  cases t with
  | false => exact hq u c1 α1 g1 h1 tk ht (hK.1 rfl) F1 L1 i1
  | true => exact hK.2 rfl α1 { s with heap := h1, toks := tk } Q ht F1 fun v c2 α2 g2 h2 t2 ht2 k2 F2 L2 i2 => hq v c2 α2 g2 h2 t2 ht2 k2 F2 (L1.trans L2) i2
theorem okOr {a b : Expr} {r : List Expr} {p : Pos} {K : V → Cells → Prop} (h : Ev prog w A hb pr env l c a fun u c1 => truthK c1 u fun t => (t = true → K u c1) ∧ (t = false → OkE (model prog w) A hb pr env IsV l c1 (boolOp p .Or (evalEach (b :: r) env)) K)) :
    Ev prog w A hb pr env l c (.BoolOp .Or (a :: b :: r) p) K := by
  intro α s Q hs F hq
  refine BoolOp_ (h α s _ hs F fun u c1 α1 g1 h1 t1 ht1 k1 F1 L1 i1 => ?_)
  refine wpAny_tk (s := { s with heap := h1, toks := t1 }) ht1 (truth_ok (s := { s with heap := h1, toks := t1 }) F1.toCst k1 i1 fun t tk hK ht => ?_)
  cases t with
  | true => exact hq u c1 α1 g1 h1 tk ht (hK.1 rfl) F1 L1 i1
  | false => exact hK.2 rfl α1 { s with heap := h1, toks := tk } Q ht F1 fun v c2 α2 g2 h2 t2 ht2 k2 F2 L2 i2 => hq v c2 α2 g2 h2 t2 ht2 k2 F2 (L1.trans L2) i2

theorem okAndT {a : Expr} {r : List Expr} {p : Pos} {whole : Sem Value} {K : Bool → Cells → Prop} (h : Tst prog w A hb pr env l c a fun t c1 => (t = false → K false c1) ∧ (t = true → OkE (model prog w) A hb pr env okB l c1 (isTrue (.BoolOp .And r p) env whole) K)) :
    OkE (model prog w) A hb pr env okB l c (isTrue (.BoolOp .And (a :: r) p) env whole) K := by
  intro α s Q hs F hq
  refine isTrue_and (h α s _ hs F fun t c1 α1 g1 h1 t1 ht1 k1 F1 L1 i1 => ?_)
  cases i1
  cases t with
  | false => exact hq false c1 α1 _ h1 t1 ht1 (k1.1 rfl) F1 L1 rfl
  | true => exact k1.2 rfl α1 _ Q ht1 F1 fun v c2 α2 g2 h2 t2 ht2 k2 F2 L2 i2 => hq v c2 α2 g2 h2 t2 ht2 k2 F2 (L1.trans L2) i2
theorem okOrT {a : Expr} {r : List Expr} {p : Pos} {whole : Sem Value} {K : Bool → Cells → Prop} (h : Tst prog w A hb pr env l c a fun t c1 => (t = true → K true c1) ∧ (t = false → OkE (model prog w) A hb pr env okB l c1 (isTrue (.BoolOp .Or r p) env whole) K)) :
    OkE (model prog w) A hb pr env okB l c (isTrue (.BoolOp .Or (a :: r) p) env whole) K := by
  intro α s Q hs F hq
  refine isTrue_or (h α s _ hs F fun t c1 α1 g1 h1 t1 ht1 k1 F1 L1 i1 => ?_)
  cases i1
  cases t with
  | true => exact hq true c1 α1 _ h1 t1 ht1 (k1.1 rfl) F1 L1 rfl
  | false => exact k1.2 rfl α1 _ Q ht1 F1 fun v c2 α2 g2 h2 t2 ht2 k2 F2 L2 i2 => hq v c2 α2 g2 h2 t2 ht2 k2 F2 (L1.trans L2) i2
theorem okAndNil {p : Pos} {whole : Sem Value} {K : Bool → Cells → Prop} (h : K true c) : OkE (model prog w) A hb pr env okB l c (isTrue (.BoolOp .And [] p) env whole) K :=
  fun α s Q hs F hq => isTrue_and_nil (hq true c α true s.heap s.toks hs h F (.refl ..) rfl)
theorem okOrNil {p : Pos} {whole : Sem Value} {K : Bool → Cells → Prop} (h : K false c) : OkE (model prog w) A hb pr env okB l c (isTrue (.BoolOp .Or [] p) env whole) K :=
  fun α s Q hs F hq => isTrue_or_nil (hq false c α false s.heap s.toks hs h F (.refl ..) rfl)

/- a value as a test -/
theorem okPlainT {e : Expr} {K : Bool → Cells → Prop} (he : isTrue e env (eval e env) = (do let v ← eval e env; standAt e.pos; holding [v] (truthy v))) (h : Ev prog w A hb pr env l c e fun u c1 => truthK c1 u fun r => K r c1) : Tst prog w A hb pr env l c e K := by
  intro α s Q hs F hq
  refine isTrue_plain (h α s _ hs F fun u c1 α1 g1 h1 t1 ht1 k1 F1 L1 i1 => ?_) he
  refine wpAny_tk (s := { s with heap := h1, toks := t1 }) ht1 (truth_ok (s := { s with heap := h1, toks := t1 }) F1.toCst k1 i1 fun t tk hK ht => ?_)
  exact hq _ c1 α1 _ h1 tk ht hK F1 L1 rfl

theorem okItem {a i : Expr} {p : Pos} (hi : notSlice i = true) {K : V → Cells → Prop} (h : Ev prog w A hb pr env l c a fun u c1 => Ev prog w A hb pr env l c1 i fun v c2 => itemK c2 u v fun d => K (.d d) c2) : Ev prog w A hb pr env l c (.Subscript a i p) K := by
  intro α s Q hs F hq
  refine Subscript_ (h α s _ hs F fun u c1 α1 g1 h1 t1 ht1 k1 F1 L1 i1 => ?_)
  refine k1 α1 _ _ ht1 F1 fun v c2 α2 g2 h2 t2 ht2 k2 F2 L2 i2 => ?_
  refine wpAny_tk (s := { s with heap := h2, toks := t2 }) ht2 (item_ok (s := { s with heap := h2, toks := t2 }) F2.toCst hi k2 (L2.isV i1) i2 fun d g tk hK id ht => ?_)
  exact hq _ c2 α2 g h2 tk ht hK F2 (L1.trans L2) id

theorem okSlice {a : Expr} {lo hi : Option Expr} {p q : Pos} {K : V → Cells → Prop} (h : Ev prog w A hb pr env l c a fun u c1 => OkE (model prog w) A hb pr env IsV l c1 (evalPart lo env) fun v c2 => OkE (model prog w) A hb pr env IsV l c2 (evalPart hi env) fun x c3 => sliceK c3 u v x fun d => K (.d d) c3) :
    Ev prog w A hb pr env l c (.Subscript a (.Slice lo hi none q) p) K := by
  intro α s Q hs F hq
  refine Subscript_ (h α s _ hs F fun u c1 α1 g1 h1 t1 ht1 k1 F1 L1 i1 => ?_)
  refine wpAny_Slice (k1 α1 _ _ ht1 F1 fun v c2 α2 g2 h2 t2 ht2 k2 F2 L2 i2 => ?_)
  refine k2 α2 _ _ ht2 F2 fun x c3 α3 g3 h3 t3 ht3 k3 F3 L3 i3 => ?_
  refine evalPart_none_step ?_
  refine wpAny_tk (s := { s with heap := h3.push _, toks := t3 }) ht3 (slice_ok (s := { s with heap := h3, toks := t3 }) (lo := a) (hi := a) F3 k3 (L3.isV (L2.isV i1)) (L3.isV i2) i3 fun d g h' tk hK F' L' id ht => ?_)
  exact hq _ c3 α3 g h' tk ht hK F' (((L1.trans L2).trans L3).trans L') id

theorem okTup {es : List Expr} {k : Nat} {p : Pos} (hst : noStar es = true) {K : V → Cells → Prop} (h : OkArgs prog w A hb pr env l es c fun vs c1 => match asDs vs with | some ds => ds.length ≤ big ∧ K (.d (.tup ds)) c1 | none => False) : Ev prog w A hb pr env l c (.Tuple es k p) K := by
  intro α s Q hs F hq
  refine Tuple_ ?_
  rw [star_plain env p hst]
  refine args_ok h α s _ hs F fun vs c1 α1 ws h1 t1 ht1 k1 F1 L1 i1 => ?_
  split at k1
  · rename_i ds e
    have id := asDs_ok e i1
    refine wpAny_newObj_type ?_ (by show ws.toArray.size ≤ sizeLine; rw [List.size_toArray, ← id.length]; exact sizeLine_ge k1.1)
    obtain ⟨F', L'⟩ := F1.push (sobj "tuple" ws 0)
    exact hq _ c1 α1 _ _ t1 ht1 k1.2 F' (L1.trans L') (.tup (Heap.get?_push_size _ rfl) (new_not_own F1.toCst) (L'.isDs id))
  · exact k1.elim
theorem okLst {es : List Expr} {k : Option Nat} {p : Pos} (hst : noStar es = true) {K : V → Cells → Prop} (h : OkArgs prog w A hb pr env l es c fun vs c1 => match asDs vs with | some ds => ds.length ≤ big ∧ newListK c1 k ds K | none => False) : Ev prog w A hb pr env l c (.List es p) K := by
  intro α s Q hs F hq
  refine List_ ?_
  rw [star_plain env p hst]
  refine args_ok h α s _ hs F fun vs c1 α1 ws h1 t1 ht1 k1 F1 L1 i1 => ?_
  split at k1
  · rename_i ds e
    have id := asDs_ok e i1
    refine wpAny_newObj_type ?_ (by show ws.toArray.size ≤ sizeLine; rw [List.size_toArray, ← id.length]; exact sizeLine_ge k1.1)
    refine newList_ok (s := { s with heap := h1, toks := t1 }) (ep := 0) (K := fun v c' => K v c') (Q := fun g s' => 1 ≤ s'.toks → Q g s') F1 k1.2 id (fun _ _ e => Heap.get?_push_of_some _ e) (Heap.get?_push_size _ rfl) (fun v c' α' g h' tk hK F' L' i ht => ?_) t1 ht1
    exact hq v c' α' g h' tk ht hK F' (L1.trans L') i
  · exact k1.elim

theorem Attr_ {M : Model} {E : Value → Shared → Prop} {s : Shared} {a : Expr} {nm : Str} {p : Pos} (ha : notSuper a = true) {Q : Value → Shared → Prop} (h : wpAny (model prog w) A (eval a env) (fun o s₁ => wpAny (model prog w) A (getAttr o nm true) Q E s₁) E s) : wpAny (model prog w) A (eval (.Attribute a nm p) env) Q E s := by
  have e : eval (.Attribute a nm p) env = (do
      let o ← attributeBase a nm env (eval a env)
      standAt p.atName
      let r ← holding [o] (getAttr o nm true)
      letTemporaryGo a o r
      pure r) := rfl
  rw [e]
  exact wpAny_bind (base_of ha (wpAny_mono h (fun o s₁ h₁ => wpAny_bind (wpAny_standAt (wpAny_bind (wpAny_holding (wpAny_mono h₁ (fun r s₂ h₂ => wpAny_bind (wpAny_letTemporaryGo (wpAny_pure h₂))) fun _ _ x => x))))) fun _ _ x => x))

theorem instK_ok {u : V} {Kf : List (Str × V) → Prop} (h : instK P c u Kf) : ∃ k dk fs, u = .obj k ∧ cget c k = some (.inst P.C dk) ∧ cget c dk = some (.ns fs) ∧ Kf fs := by
  unfold instK at h
  split at h
  · split at h
    · rename_i hk
      obtain ⟨rfl, h⟩ := h
      split at h
      · rename_i hd; exact ⟨_, _, _, rfl, hk, hd, h⟩
      · exact h.elim
    · exact h.elim
  · exact h.elim

theorem okAttr (X : Cx0 prog w hb K₀ T P dep) {a : Expr} {nm : Str} {p : Pos} (ha : notSuper a = true) {K : V → Cells → Prop} (h : Ev prog w A hb pr env l c a fun u c1 => P.attr nm = true ∧ instK P c1 u fun fs => match look fs nm with | some v => handV v = true ∧ K v c1 | none => False) :
    Ev prog w A hb pr env l c (.Attribute a nm p) K := by
  intro α s Q hs F hq
  refine Attr_ (M := model prog w) ha (h α s _ hs F fun u c1 α1 g1 h1 t1 ht1 k1 F1 L1 i1 => ?_)
  obtain ⟨hn, k1⟩ := k1
  obtain ⟨k, dk, fs, rfl, hk, hdk, hv⟩ := instK_ok k1
  split at hv
  · rename_i v e
    obtain ⟨rfl, _⟩ := i1
    refine wpAny_tk (s := { s with heap := h1, toks := t1 }) ht1 (attr_ok (s := { s with heap := h1, toks := t1 }) F1 X.kin hk hdk X.cls (X.attr nm hn) e hv.1 fun g tk i ht => ?_)
    exact hq v c1 α1 g h1 tk ht hv.2 F1 L1 i
  · exact hv.elim

theorem okBnd {a : Expr} {k : Nat} {p : Pos} (ha : notSuper a = true) {K : V → Cells → Prop} (h : Ev prog w A hb pr env l c a fun u c1 => match u with
      | .obj j => (match cget c1 j with | some (.list _) => k ∉ dom c1 ∧ K (.obj k) (c1 ++ [(k, .bound "list.append" j)]) | _ => False)
      | _ => False) : Ev prog w A hb pr env l c (.Attribute a Mn.append.nm p) K := by
  intro α s Q hs F hq
  refine Attr_ (M := model prog w) ha (h α s _ hs F fun u c1 α1 g1 h1 t1 ht1 k1 F1 L1 i1 => ?_)
  dsimp only at k1
  split at k1
  · rename_i j
    split at k1
    · rename_i xs hj
      obtain ⟨rfl, hjm⟩ := i1
      obtain ⟨us, ep, gk, rk⟩ := F1.toCst.cell j _ hj
      refine attr_append gk ?_
      obtain ⟨F2, L2⟩ := F1.new k1.1 (bobj "list.append" (α1 j)) (o := .bound "list.append" j) (fun L => ⟨by rw [Heap.get?_push_size _ rfl, L.agree j hjm], L.dom j hjm⟩)
      exact hq _ _ _ _ _ (t1 + 1) (Nat.le_succ_of_le ht1) k1.2 F2 (L1.trans L2) ⟨by rw [show upd α1 k h1.objs.size k = h1.objs.size from if_pos rfl], by rw [dom_append]; simp⟩
    · exact k1.elim
  · exact k1.elim
end
end Mine
end
section
set_option linter.unusedVariables false
set_option maxRecDepth 100000
namespace Mine
open PySem PyProof.Rows PySem.W

noncomputable def Fits : List (Str × Value) → List (Str × Int) → Prop
  | [], [] => True
  | (x, v) :: r, (y, i) :: q => x = y ∧ (∃ t, v = .int i t) ∧ Fits r q
  | _, _ => False
theorem Fits.keys : ∀ {a : List (Str × Value)} {b : List (Str × Int)}, Fits a b → a.map (·.1) = b.map (·.1)
  | [], [], _ => rfl
  | (x, v) :: r, (y, i) :: q, ⟨h1, _, h2⟩ => by simp only [List.map_cons]; rw [h1, h2.keys]
  | [], _ :: _, h => h.elim
  | _ :: _, [], h => h.elim
theorem Fits.at_ : ∀ {a : List (Str × Value)} {b : List (Str × Int)}, Fits a b → ∀ x, match look b x with | some i => ∃ t, valueAt a x = some (.int i t) | none => valueAt a x = none
  | [], [], _, x => rfl
  | (y, v) :: r, (z, i) :: q, ⟨h1, ⟨t, h2⟩, h3⟩, x => by
    have ih := h3.at_ x
    subst h1; subst h2
    unfold valueAt at ih ⊢
    by_cases e : y = x
    · simp only [look, e, if_true, List.find?_cons, decide_true]; exact ⟨t, rfl⟩
    · simp only [look, e, if_false, List.find?_cons, decide_false]; exact ih
  | [], _ :: _, h, _ => h.elim
  | _ :: _, [], h, _ => h.elim

section
variable {prog : Program} {w : World} {A : Around} {hb : Heap} {pr : List Nat} {env : Env} {T : Tb} {P : Pm} {K₀ : Frag} {dep : Nat} {l : Loc} {c : Cells}

theorem dic_of {α : Al} {h : Heap} {a : Addr} {kvV : List (Str × Value)} {kvs : List (Str × Int)} (hs : (a == sysModules) = false) (d : h.DictOf (PySem.strKind prog w) a kvV) (f : Fits kvV kvs) : IsO c α h a (.dic (hashStr w) kvs) := by
  obtain ⟨o, es, ep, g, ex, dt, ks, m⟩ := d.mapOf
  refine ⟨hs, o, es, ep, g, ex, dt, ks, fun x => ?_⟩
  have h1 := f.at_ x
  have h2 : findBy Value.isStrOf es x = valueAt kvV x := m x
  rw [h2]; exact h1
theorem dic_map {α : Al} {h : Heap} {a : Addr} {kvs : List (Str × Int)} (i : IsO c α h a (.dic (hashStr w) kvs)) : (a == sysModules) = false ∧ ∃ f, h.MapOf (PySem.strKind prog w) a f ∧ ∀ x, match look kvs x with | some i => ∃ t, f x = some (.int i t) | none => f x = none := by
  obtain ⟨hs, o, es, ep, g, ex, dt, ks, m⟩ := i
  exact ⟨hs, fun x => findBy Value.isStrOf es x, ⟨o, es, ep, g, ex, dt, ks, fun _ => rfl⟩, m⟩

theorem lit_cons {k : Option Expr} {ks : List (Option Expr)} {values : List Expr} {kvs : List (Str × Int)} (h : dictLit (k :: ks) values = some kvs) :
    ∃ x a b i a' b' vs r, k = some (.Constant (.str x) a b) ∧ values = .Constant (.int i) a' b' :: vs ∧ dictLit ks vs = some r ∧ kvs = (x, i) :: r := by
  unfold dictLit at h
  split at h
  · rename_i heq; cases heq
  · rename_i x a b ks' i a' b' vs e1
    cases e1
    obtain ⟨r, hr, rfl⟩ := Option.map_eq_some_iff.mp h
    exact ⟨x, _, _, i, _, _, vs, r, rfl, rfl, hr, rfl⟩
  · cases h
theorem lit_nil {values : List Expr} {kvs : List (Str × Int)} (h : dictLit [] values = some kvs) : values = [] ∧ kvs = [] := by
  cases values with
  | nil => cases h; exact ⟨rfl, rfl⟩
  | cons v vs => cases h
theorem pairs_ok {keys : List (Option Expr)} : ∀ {values : List Expr} {kvs : List (Str × Int)} {pos : Pos} {s : Shared} {Q : List (Value × Value) → Shared → Prop}, dictLit keys values = some kvs →
    (∀ vs kvV tk, Carries (PySem.strKind prog w) vs kvV → Fits kvV kvs → Q vs { s with toks := tk }) → wpAny (model prog w) A (evalPairs (pairTrees keys values env pos)) Q no s := by
  induction keys with
  | nil =>
    intro values kvs pos s Q h hq
    obtain ⟨rfl, rfl⟩ := lit_nil h
    exact pairTrees_nil_walk (hq [] [] s.toks trivial trivial)
  | cons k ks ih =>
    intro values kvs pos s Q h hq
    obtain ⟨x, a, b, i, a', b', vs, r, rfl, rfl, hr, rfl⟩ := lit_cons h
    refine pairTrees_cons_walk (wpAny_Constant_str (wpAny_Constant_int ?_))
    refine ih hr fun vs kvV tk hc hf => ?_
    exact hq _ ((x, .int i _) :: kvV) tk ⟨strKind_is _ _ _ _, rfl, hc⟩ ⟨rfl, ⟨_, rfl⟩, hf⟩
theorem lit_len {keys : List (Option Expr)} : ∀ {values : List Expr} {kvs : List (Str × Int)}, dictLit keys values = some kvs → keys.all (·.isSome) = true ∧ keys.length = values.length ∧ kvs.length = keys.length := by
  induction keys with
  | nil => intro values kvs h; obtain ⟨rfl, rfl⟩ := lit_nil h; exact ⟨rfl, rfl, rfl⟩
  | cons k ks ih =>
    intro values kvs h
    obtain ⟨x, a, b, i, a', b', vs, r, rfl, rfl, hr, rfl⟩ := lit_cons h
    obtain ⟨h1, h2, h3⟩ := ih hr
    exact ⟨by simpa using h1, by simp [h2], by simp [h3]⟩

/- a dict display of constants -/
theorem okDict (X : Cx0 prog w hb K₀ T P dep) {keys : List (Option Expr)} {values : List Expr} {kvs : List (Str × Int)} {pos : Pos} {k : Nat} (h : dictLit keys values = some kvs) (hn : (kvs.map (·.1)).Nodup) (h0 : kvs ≠ []) (h15 : kvs.length ≤ 15) (hk : k ∉ dom c) {K : V → Cells → Prop}
    (hK : K (.obj k) (c ++ [(k, .dic P.hash kvs)])) : Ev prog w A hb pr env l c (.Dict keys values pos) K := by
  rw [X.hash] at hK
  refine OkE.mk fun α s Q hs F hq => ?_
  obtain ⟨a1, a2, a3⟩ := lit_len h
  have hsys : (s.heap.objs.size == sysModules) = false := by
    obtain ⟨b, o, hb1, hb2⟩ := X.sys
    have := Heap.lt_size (F.base _ _ hb2)
    refine beq_eq_false_iff_ne.mpr fun e => ?_
    rw [e] at this
    exact absurd (Nat.lt_trans hb1 this) (Nat.lt_irrefl _)
  refine wpAny_Dict_walk (knd := PySem.strKind prog w) a1 a2 (fun e => h0 (List.length_eq_zero_iff.mp (by rw [a3, e]; rfl))) (by omega) (pairs_ok h fun vs kvV tk hc hf => ?_)
  refine ⟨kvV, hc, Heap.DictOf.new s.heap, fun h' hd' hs' => ?_⟩
  rw [merged_nil_of_nodup kvV (by rw [hf.keys]; exact hn)] at hd'
  obtain ⟨F1, L1⟩ := F.new hk { cls := .type "dict", data := .dict #[] } (o := .dic (hashStr w) []) (fun L => dic_of (prog := prog) hsys (Heap.DictOf.new s.heap) trivial)
  have ek : upd α k s.heap.objs.size k = s.heap.objs.size := by simp [upd]
  obtain ⟨F2, L2⟩ := F1.set (k := k) (by rw [dom_append]; simp) (o := .dic (hashStr w) kvs) (h' := h') (by rw [ek]; exact hs') (fun L => by rw [ek]; exact dic_of hsys hd' hf)
  rw [cset_last hk] at F2 L2
  exact hq _ _ _ _ h' _ hK F2 (L1.trans L2) ⟨by rw [ek], by rw [dom_append]; simp⟩

theorem inDK_ok {u v : V} {K : Bool → Prop} (h : inDK P c u v K) : ∃ x j fs, u = .d (.str x) ∧ v = .obj j ∧ cget c j = some (.dic P.hash fs) ∧ K (look fs x).isSome := by
  unfold inDK at h
  split at h
  · rename_i x j
    split at h
    · rename_i hf fs e; obtain ⟨rfl, h⟩ := h; exact ⟨x, j, fs, rfl, rfl, e, h⟩
    · exact h.elim
  · exact h.elim
theorem itemDK_ok {u v : V} {K : D → Prop} (h : itemDK P c u v K) : ∃ x j fs i, v = .d (.str x) ∧ u = .obj j ∧ cget c j = some (.dic P.hash fs) ∧ look fs x = some i ∧ K (.int i) := by
  unfold itemDK at h
  split at h
  · rename_i j x
    split at h
    · rename_i hf fs e; obtain ⟨rfl, i, h1, h2⟩ := h; exact ⟨x, j, fs, i, rfl, rfl, e, h1, h2⟩
    · exact h.elim
  · exact h.elim

theorem okInD (X : Cx0 prog w hb K₀ T P dep) {a b : Expr} {p : Pos} (hb' : notSet b = true) {K : V → Cells → Prop} (h : Ev prog w A hb pr env l c a fun u c1 => Ev prog w A hb pr env l c1 b fun v c2 => inDK P c2 u v fun r => K (.d (.bool r)) c2) :
    Ev prog w A hb pr env l c (.Compare a [.In] [b] p) K := by
  intro α s Q hs F hq
  refine wpAny_Compare1 (h α s _ hs F fun u c1 α1 g1 h1 t1 ht1 k1 F1 L1 i1 => ?_) (notSet_marks hb')
  refine k1 α1 _ _ ht1 F1 fun v c2 α2 g2 h2 t2 ht2 k2 F2 L2 i2 => ?_
  obtain ⟨x, j, fs, rfl, rfl, e, hK⟩ := inDK_ok k2
  have i1' := L2.isV i1
  cases i1'
  obtain ⟨rfl, _⟩ := i2
  rw [X.hash] at e
  obtain ⟨hsys, f, m, hf⟩ := dic_map (prog := prog) (F2.cell j _ e)
  refine wpAny_tk (s := { s with heap := h2, toks := t2 }) ht2 (wpAny_in_of (knd := PySem.strKind prog w) (k := x) (strKind_is _ _ _ _) hsys m fun ht => ?_)
  have : (f x).isSome = (look fs x).isSome := by
    have := hf x
    cases hl : look fs x with
    | none => rw [hl] at this; rw [this]; rfl
    | some i => rw [hl] at this; obtain ⟨t, q⟩ := this; rw [q]; rfl
  rw [this]
  exact hq _ c2 α2 _ h2 _ ht hK F2 (L1.trans L2) (.bool _)

theorem okInDT (X : Cx0 prog w hb K₀ T P dep) {a b : Expr} {p : Pos} (hb' : notSet b = true) {K : Bool → Cells → Prop} (h : Ev prog w A hb pr env l c a fun u c1 => Ev prog w A hb pr env l c1 b fun v c2 => inDK P c2 u v fun r => K r c2) :
    Tst prog w A hb pr env l c (.Compare a [.In] [b] p) K := by
  intro α s Q hs F hq
  refine wpAny_isTrue_Compare1 (h α s _ hs F fun u c1 α1 g1 h1 t1 ht1 k1 F1 L1 i1 => ?_) (notSet_marks hb')
  refine k1 α1 _ _ ht1 F1 fun v c2 α2 g2 h2 t2 ht2 k2 F2 L2 i2 => ?_
  obtain ⟨x, j, fs, rfl, rfl, e, hK⟩ := inDK_ok k2
  have i1' := L2.isV i1
  cases i1'
  obtain ⟨rfl, _⟩ := i2
  rw [X.hash] at e
  obtain ⟨hsys, f, m, hf⟩ := dic_map (prog := prog) (F2.cell j _ e)
  refine wpAny_tk (s := { s with heap := h2, toks := t2 }) ht2 (wpAny_in_of (knd := PySem.strKind prog w) (k := x) (strKind_is _ _ _ _) hsys m fun ht => ?_)
  have : (f x).isSome = (look fs x).isSome := by
    have := hf x
    cases hl : look fs x with
    | none => rw [hl] at this; rw [this]; rfl
    | some i => rw [hl] at this; obtain ⟨t, q⟩ := this; rw [q]; rfl
  rw [this]
  exact wpAny_truthy_bool (hq _ c2 α2 _ h2 _ ht hK F2 (L1.trans L2) rfl)

theorem dictE_notSet {b : Expr} (h : dictE T b = true) : notSet b = true := by
  unfold dictE at h
  split at h
  · rfl
  · cases h
theorem okItemD (X : Cx0 prog w hb K₀ T P dep) {a i : Expr} {p : Pos} (hi : notSlice i = true) {K : V → Cells → Prop} (h : Ev prog w A hb pr env l c a fun u c1 => Ev prog w A hb pr env l c1 i fun v c2 => itemDK P c2 u v fun d => K (.d d) c2) : Ev prog w A hb pr env l c (.Subscript a i p) K := by
  intro α s Q hs F hq
  refine Subscript_ (h α s _ hs F fun u c1 α1 g1 h1 t1 ht1 k1 F1 L1 i1 => ?_)
  refine k1 α1 _ _ ht1 F1 fun v c2 α2 g2 h2 t2 ht2 k2 F2 L2 i2 => ?_
  obtain ⟨x, j, fs, n, rfl, rfl, e, hn, hK⟩ := itemDK_ok k2
  have i1' := L2.isV i1
  cases i2
  obtain ⟨rfl, _⟩ := i1'
  rw [X.hash] at e
  obtain ⟨hsys, f, m, hf⟩ := dic_map (prog := prog) (F2.cell j _ e)
  have := hf x
  rw [hn] at this
  obtain ⟨t, q⟩ := this
  refine wpAny_tk (s := { s with heap := h2, toks := t2 }) ht2 ?_
  exact tail_any (T := "dict") (m.typeIs (s := { s with heap := h2, toks := t2 })) slot_dict_getitem.lookup (wpAny_getItem_of (knd := PySem.strKind prog w) (k := x) (strKind_is _ _ _ _) m q fun ht => hq _ c2 α2 _ h2 _ ht hK F2 (L1.trans L2) (.int _ _)) (subscripted_plain hi _ _)
end
end Mine
end
section
set_option linter.unusedVariables false
set_option maxRecDepth 100000
namespace Mine
open PySem PyProof.Rows PySem.W

section
variable {prog : Program} {w : World} {A : Around} {hb : Heap} {pr : List Nat} {env : Env} {T : Tb} {P : Pm} {K₀ : Frag} {dep : Nat} {l : Loc} {c : Cells}

theorem OkArgs.mono : ∀ {args : List Expr} {c : Cells} {K K' : List V → Cells → Prop}, OkArgs prog w A hb pr env l args c K → (∀ vs c', K vs c' → K' vs c') → OkArgs prog w A hb pr env l args c K'
  | [], _, _, _, h, hK => hK _ _ h
  | e :: r, _, _, _, h, hK => OkE.mono h fun v c' q => OkArgs.mono q fun vs c'' k => hK _ _ k

theorem okCall (X : Cx0 prog w hb K₀ T P dep) (R : Room (dep + 1) A) {x : Str} {p pos : Pos} {args : List Expr} {k : Option Nat} (hst : noStar args = true) {K : V → Cells → Prop}
    (h : Ev prog w A hb pr env l c (.Name x p) fun u c1 => OkArgs prog w A hb pr env l args c1 fun vs c2 => callK P c2 k u vs K) : Ev prog w A hb pr env l c (.Call (.Name x p) args [] pos) K := by
  intro α s Q hs F hq
  refine Call_Name (star_plain env pos hst) (h α s _ hs F fun u c1 α1 g1 h1 t1 ht1 k1 F1 L1 i1 => ?_)
  refine callWith_ok (s := { s with heap := h1, toks := t1 }) (fs := []) ht1 F1 .nil (k1.mono fun vs c2 hk α2 s2 ws ht2 F2 L2 iv => ?_) fun v c' α' g h' tk ht hK F' L' i => hq v c' α' g h' tk ht hK F' (L1.trans L') i
  refine ⟨keeper_ok X F2.toCst (L2.isV i1) (callK_callable hk), fun Q hq' => ?_⟩
  exact callK_ok X R hk ht2 F2 (L2.isV i1) iv hq'

theorem keeper_builtin {M : Model} {h : Heap} (id : String) : ∃ k, Looks M h (keeperOf (.builtin id)) k := ⟨.machine, Looks.of_pure rfl⟩

theorem okMeth {o : Expr} {m : Mn} {apos pos : Pos} {args : List Expr} (hsup : notSuper o = true) (hst : noStar args = true) (hfew : args.length < 30) (hline : (apos.endLine == pos.line) = true) {K : V → Cells → Prop}
    (h : Ev prog w A hb pr env l c o fun u c1 => methable c1 u m = true ∧ OkArgs prog w A hb pr env l args c1 fun vs c2 => methK c2 u m vs K) : Ev prog w A hb pr env l c (.Call (.Attribute o m.nm apos) args [] pos) K := by
  intro α s Q hs F hq
  refine call_attr hsup hst hfew hline (h α s _ hs F fun u c1 α1 g1 h1 t1 ht1 k1 F1 L1 i1 => ?_)
  obtain ⟨hm, k1⟩ := k1
  unfold methable at hm
  split at hm
  · rename_i x
    have i1' := i1
    cases i1' with | str _ t =>
    refine getm_str hm ?_
    refine callWith_ok (s := { s with heap := h1, toks := t1 }) (fs := [.d (.str x)]) ht1 F1 (.cons i1 .nil) (k1.mono fun vs c2 hk α2 s2 ws ht2 F2 L2 iv => ?_) fun v c' α' g h' tk ht hK F' L' i => hq v c' α' g h' tk ht hK F' (L1.trans L') i
    refine ⟨keeper_builtin _, fun Q hq' => ?_⟩
    cases iv with
    | cons i0 ir =>
      cases i0
      exact wpAny_tk ht2 (strMeth_ok F2 hk.2 ir fun v c' α' g h' tk hK F' L' i ht => hq' v c' α' g h' tk ht hK F' L' i)
  · rename_i k
    simp only [Bool.and_eq_true] at hm
    obtain ⟨hm, hk⟩ := hm
    split at hk
    · rename_i xs hx
      obtain ⟨rfl, hkm⟩ := i1
      obtain ⟨us, ep, gk, rk⟩ := F1.toCst.cell k _ hx
      refine getm_lst hm gk ?_
      refine callWith_ok (s := { s with heap := h1, toks := t1 }) (fs := [.obj k]) ht1 F1 (.cons ⟨rfl, hkm⟩ .nil) (k1.mono fun vs c2 hk2 α2 s2 ws ht2 F2 L2 iv => ?_) fun v c' α' g h' tk ht hK F' L' i => hq v c' α' g h' tk ht hK F' (L1.trans L') i
      refine ⟨keeper_builtin _, fun Q hq' => ?_⟩
      cases iv with
      | cons i0 ir =>
        obtain ⟨rfl, _⟩ := i0
        obtain ⟨_, hk2⟩ := hk2
        split at hk2
        · rename_i ys hy
          exact wpAny_tk ht2 (lstMeth_ok F2 hy hk2 ir fun v c' α' g h' tk hK F' L' i ht => hq' v c' α' g h' tk ht hK F' L' i)
        · exact hk2.elim
    · cases hk
  · cases hm

theorem okUmeth (X : Cx0 prog w hb K₀ T P dep) (R : Room (dep + 1) A) {o : Expr} {nm : Str} {f : Addr} (hf : T.meth nm = some f) {apos pos : Pos} {args : List Expr} (hsup : notSuper o = true) (hst : noStar args = true) (hfew : args.length < 30) (hline : (apos.endLine == pos.line) = true) {K : V → Cells → Prop}
    (h : Ev prog w A hb pr env l c o fun u c1 => (instK P c1 u fun fs => look fs nm = none) ∧ OkArgs prog w A hb pr env l args c1 fun vs c2 => P.isFn f = true ∧ P.fn f (u :: vs) c2 (fun v c3 => domOk c2 c3 ∧ K v c3)) : Ev prog w A hb pr env l c (.Call (.Attribute o nm apos) args [] pos) K := by
  intro α s Q hs F hq
  refine call_attr hsup hst hfew hline (h α s _ hs F fun u c1 α1 g1 h1 t1 ht1 k1 F1 L1 i1 => ?_)
  obtain ⟨hi, k1⟩ := k1
  obtain ⟨k, dk, fs, rfl, hk, hdk, hv⟩ := instK_ok hi
  obtain ⟨rfl, hkm⟩ := i1
  obtain ⟨m1, m2⟩ := X.meth nm f hf
  refine meth_ok (s := { s with heap := h1, toks := t1 }) F1 X.kin hk hdk X.cls m1 m2 hv ?_
  refine callWith_ok (s := { s with heap := h1, toks := t1 }) (fs := [.obj k]) ht1 F1 (.cons ⟨rfl, hkm⟩ .nil) (k1.mono fun vs c2 hk2 α2 s2 ws ht2 F2 L2 iv => ?_) fun v c' α' g h' tk ht hK F' L' i => hq v c' α' g h' tk ht hK F' (L1.trans L') i
  refine ⟨keeper_ok X (u := .val (.ref f)) F2.toCst rfl (.inr (.inl ⟨f, rfl, hk2.1⟩)), fun Q hq' => ?_⟩
  exact callK_ok X R (u := .val (.ref f)) (k := none) (vs := .obj k :: vs) hk2 ht2 F2 rfl iv hq'

theorem okRepl {o : Expr} {y z : Str} {apos pos : Pos} {ky kz : Nat} {py pz : Pos} (hsup : notSuper o = true) (hline : (apos.endLine == pos.line) = true) {K : V → Cells → Prop}
    (h : Ev prog w A hb pr env l c o fun u c1 => match u with
      | .d (.str x) => x.length ≤ big ∧ z.length ≤ 14 ∧ (y == z) = false ∧ K (.d (.str (Txt.replace x y z))) c1
      | _ => False) : Ev prog w A hb pr env l c (.Call (.Attribute o (Str.ofString "replace") apos) [.Constant (.str y) ky py, .Constant (.str z) kz pz] [] pos) K := by
  intro α s Q hs F hq
  refine call_attr hsup rfl (by simp) hline (h α s _ hs F fun u c1 α1 g1 h1 t1 ht1 k1 F1 L1 i1 => ?_)
  dsimp only at k1
  split at k1
  · rename_i x
    cases i1
    obtain ⟨hx, hz, hyz, hK⟩ := k1
    refine GM.replace ?_
    refine callWith_any rfl (Calls.evalArgs_plain (Calls.spliced_cons (wpAny_mkText (Calls.spliced_cons (wpAny_mkText (Calls.spliced_nil ?_))))))
    refine ⟨keeper_builtin _, ?_⟩
    refine wpAny_tk (s := { s with heap := h1, toks := t1 + 1 + 1 }) (by show 1 ≤ t1 + 1 + 1; omega) ?_
    refine SC.replaceW (u := t1) (v := t1 + 1) (Nat.ne_of_gt ht1) (Nat.succ_ne_zero t1) (Nat.ne_of_lt (Nat.lt_succ_self t1)) hyz hx hz (fun t' k ht => ?_)
    exact hq _ c1 α1 _ h1 k ht hK F1 L1 (.str _ _)
  · exact k1.elim

theorem gm_translate {M : Model} {E : Value → Shared → Prop} {s : Shared} {x : Str} {t : Tok} {pl : Sem Bool} {Q : Value × List Value → Shared → Prop} (h : Q (.builtin "str.translate", [.str x t]) s) : wpAny M A (getMethod (.str x t) "translate" pl) Q E s := by
  with_reducible exact GM.of (.str x t) (typeIs_str _ _ _) PySem.F.slot_str_translate PySem.F.type_str_translate GM.noRef h
theorem okTrans (X : Cx0 prog w hb K₀ T P dep) {o : Expr} {d : Addr} {x : Str} {p apos pos : Pos} (hsup : notSuper o = true) (hline : (apos.endLine == pos.line) = true) {K : V → Cells → Prop}
    (hd : ∀ c1 (K' : V → Cells → Prop), K' (.val (.ref d)) c1 → Ev prog w A hb pr env l c1 (.Name x p) K')
    (h : Ev prog w A hb pr env l c o fun u c1 => match u with
      | .d (.str x) => d = P.td ∧ (∀ ch ∈ x.cps.toList, ch < 128) ∧ x.length ≤ big ∧ K (.d (.str ⟨x.cps.map P.tr⟩)) c1
      | _ => False) : Ev prog w A hb pr env l c (.Call (.Attribute o (Str.ofString "translate") apos) [.Name x p] [] pos) K := by
  intro α s Q hs F hq
  refine call_attr hsup rfl (by simp) hline (h α s _ hs F fun u c1 α1 g1 h1 t1 ht1 k1 F1 L1 i1 => ?_)
  dsimp only at k1
  split at k1
  · rename_i x'
    cases i1
    obtain ⟨rfl, hch, hx, hK⟩ := k1
    refine gm_translate ?_
    refine callWith_any rfl (Calls.evalArgs_plain (Calls.spliced_cons (hd c1 (fun v c' => v = .val (.ref P.td) ∧ c' = c1) ⟨rfl, rfl⟩ α1 _ _ ht1 F1 fun v c2 α2 g2 h2 t2 ht2 k2 F2 L2 i2 => Calls.spliced_nil ?_)))
    obtain ⟨rfl, rfl⟩ := k2
    cases i2
    refine ⟨keeper_builtin _, ?_⟩
    obtain ⟨C', TO⟩ := X.tab
    refine wpAny_tk (s := { s with heap := h2, toks := t2 }) ht2 ?_
    refine translate_ok (s := { s with heap := h2, toks := t2 }) TO (X.kin.keeps F2.base) hch hx (fun t' tk ht => ?_)
    exact hq _ c2 α2 _ h2 tk ht hK F2 (L1.trans L2) (.str _ _)
  · exact k1.elim
end
end Mine
end
section
set_option linter.unusedVariables false
set_option maxRecDepth 100000
namespace Mine
open PySem PyProof.Rows PySem.W

section
variable {prog : Program} {w : World} {A : Around} {hb : Heap} {pr : List Nat} {env : Env} {T : Tb} {P : Pm} {K₀ : Frag} {dep : Nat} {l : Loc} {c : Cells}

theorem Room.under {C : Addr} {vals : List Value} (R : Room (dep + 1) A) : Room dep (A.under (.builtin "type.__call__" ⟨.ref C :: vals, []⟩)) := by
  refine ⟨R.handled, ?_, ?_⟩
  · have h1 : (A.under (.builtin "type.__call__" ⟨.ref C :: vals, []⟩)).depth = A.depth + 1 := rfl
    have := R.depth; rw [h1]; omega
  · have h1 : (A.under (.builtin "type.__call__" ⟨.ref C :: vals, []⟩)).units = A.units + 1 := rfl
    have := R.units; rw [h1]; omega

theorem okMake (X : Cx0 prog w hb K₀ T P dep) (R : Room (dep + 1) A) {x : Str} {p pos : Pos} {args : List Expr} (hst : noStar args = true) {K : V → Cells → Prop}
    (hx : ∀ c1 (K' : V → Cells → Prop), K' (.val (.ref P.C)) c1 → Ev prog w A hb pr env l c1 (.Name x p) K')
    (h : OkArgs prog w A hb pr env l args c fun vs c1 => ∃ k dk, k ∉ dom c1 ∧ dk ∉ dom c1 ∧ k ≠ dk ∧ P.fn P.init (.obj k :: vs) (c1 ++ [(dk, .ns [])] ++ [(k, .inst P.C dk)]) (fun v c2 => v = .d .none ∧ domOk (c1 ++ [(dk, .ns [])] ++ [(k, .inst P.C dk)]) c2 ∧ K (.obj k) c2)) :
    Ev prog w A hb pr env l c (.Call (.Name x p) args [] pos) K := by
  intro α s Q hs F hq
  refine Call_Name (star_plain env pos hst) (hx c (fun v c' => v = .val (.ref P.C) ∧ c' = c) ⟨rfl, rfl⟩ α s _ hs F fun u c1 α1 g1 h1 t1 ht1 k1 F1 L1 i1 => ?_)
  obtain ⟨rfl, rfl⟩ := k1
  cases i1
  refine callWith_ok (s := { s with heap := h1, toks := t1 }) (fs := []) ht1 F1 .nil (h.mono fun vs c2 hk α2 s2 ws ht2 F2 L2 iv => ?_) fun v c' α' g h' tk ht hK F' L' i => hq v c' α' g h' tk ht hK F' (L1.trans L') i
  obtain ⟨kk, _, hkk⟩ := looks_keep (M := model prog w) X.keep (X.kin.keeps F2.base)
  refine ⟨⟨kk, hkk⟩, fun Q hq' => ?_⟩
  obtain ⟨k, dk, hk1, hk2, hne, hfn⟩ := hk
  obtain ⟨F3, L3⟩ := F2.new hk2 emptyDict (o := .ns []) (fun L => ⟨emptyDict, #[], 0, Heap.get?_push_size _ rfl, rfl, fun e he => by simp at he, rfl, fun x => rfl⟩)
  have hk1' : k ∉ dom (c2 ++ [(dk, .ns [])]) := by rw [dom_append]; simp [hk1, hne]
  have hdk : dk ∈ dom (c2 ++ [(dk, O.ns [])]) := by rw [dom_append]; simp
  have adk : upd α2 dk s2.heap.objs.size dk = s2.heap.objs.size := if_pos rfl
  obtain ⟨F4, L4⟩ := F3.new hk1' (instObj P.C s2.heap.objs.size) (o := .inst P.C dk) (fun L => ⟨by rw [L.agree dk hdk, adk, Heap.get?_push_size _ rfl], L.dom dk hdk⟩)
  have ak : upd (upd α2 dk s2.heap.objs.size) k (s2.heap.push emptyDict).objs.size k = s2.heap.objs.size + 1 := by rw [show upd (upd α2 dk s2.heap.objs.size) k (s2.heap.push emptyDict).objs.size k = (s2.heap.push emptyDict).objs.size from if_pos rfl, Heap.size_push]
  refine wpAny_tk ht2 (wpAny_call ?_)
  have R' := R.under (C := P.C) (vals := ws)
  have ik : IsV (c2 ++ [(dk, .ns [])] ++ [(k, .inst P.C dk)]) (upd (upd α2 dk s2.heap.objs.size) k (s2.heap.push emptyDict).objs.size) ((s2.heap.push emptyDict).push (instObj P.C s2.heap.objs.size)) (.obj k) (.ref (s2.heap.objs.size + 1)) := ⟨by rw [ak], by rw [dom_append]; simp⟩
  obtain ⟨hp, g, d, tk, os⟩ := s2
  refine make_core (makes_of (X.kin.keeps F2.base) X.makes) (looks_findIn (X.kin.keeps F2.base) X.ini.1) (fun self => bind_fn (X.kin.keeps F2.base) self X.ini.2) (.inl rfl) ?_
  refine X.inif _ R' (.obj k :: vs) (.ref (hp.objs.size + 1) :: ws) _ _ ⟨(hp.push emptyDict).push (instObj P.C hp.objs.size), g, d, tk, os⟩ _ _ ht2 ⟨F4.base, F4.cell, F4.fresh, F4.inj, fun _ q => by cases q⟩ (.cons ik ((L3.trans L4).isVs iv)) hfn fun v c' α' gg h' tk' hK C' L' i => ?_
  obtain ⟨rfl, hdom, hK⟩ := hK
  cases i
  refine ⟨rfl, fun ht => ?_⟩
  have C'' : Cst hb pr c' α' h' := ⟨C'.base, C'.cell, C'.fresh, C'.inj, fun j hj => hdom j (F4.prs j hj)⟩
  exact hq' (.obj k) c' α' _ h' tk' ht hK (F4.le L' C'') ((L3.trans L4).trans L') (L'.isV ik)

/-! ## comprehensions -/
theorem okComp (E : CxE env T) (R : Room (dep + 1) A) {elt iter : Expr} {ifs : List Expr} {x : Str} {px pos : Pos} {scope : Scope} {kk : Nat} (SO : ScopeOk scope x env) (hfold : foldOk iter = true) {K : V → Cells → Prop}
    (hi : Ev prog w A hb pr env l c iter fun v c1 => CompI prog w A hb pr env l x elt ifs scope kk v c1 K) : Ev prog w A hb pr env l c (.ListComp elt [⟨.Name x px, iter, ifs, 0⟩] scope pos) K := by
  intro α s Q hs F hq
  have hf : ∀ v, foldedSetIterable iter env v = pure v := fun v => by cases iter <;> first | rfl | exact absurd hfold Bool.false_ne_true
  show wpAny _ _ (comprehension _ scope env _ (newList []) false (eval iter env) none) _ _ _
  refine comp_core E.eo R.handled SO hs F hf hi fun v c' α' g h' tk C ht hK F' L' i nf no nb hC hm => ?_
  obtain ⟨m, hm⟩ := hm
  refine ⟨m, hm, fun h'' hs'' => ?_⟩
  have nz : ∀ o, Froz o = true → h'.get? C ≠ some o := fun o hz e => by
    obtain ⟨o', es, ep, ho, hd, _⟩ := hm
    rw [ho] at e; cases e; unfold Froz at hz; rw [hd] at hz; cases hz
  exact hq v c' α' g h'' tk ht hK (F'.but nz (same_ext hs'') no nf nb) ⟨L'.dom, L'.agree, fun b o e n => same_ext hs'' b o (fun q => by rw [q, hC] at e; cases e) (L'.kept b o e n), L'.grow⟩ (but_isV nz (same_ext hs'') i)

theorem okAsgComp (E : CxE env T) (R : Room (dep + 1) A) {elt iter : Expr} {ifs : List Expr} {x y : Str} {px py pos spos : Pos} {scope : Scope} {kk : Nat} (SO : ScopeOk scope x env) (hfold : foldOk iter = true) (hy : env.kindOf y = some .local)
    (hsw : swapsWith (.ListComp elt [⟨.Name x px, iter, ifs, 0⟩] scope pos) (some (.Name y py)) spos.line env = pure true) {K : F → Sg → Prop}
    (hi : Ev prog w A hb pr env l c iter fun v c1 => CompI prog w A hb pr env l x elt ifs scope kk v c1 (fun v c' => K .next ⟨put l y v, c'⟩)) :
    OkS (model prog w) A hb pr env ⟨l, c⟩ (exec (.Assign [.Name y py] (.ListComp elt [⟨.Name x px, iter, ifs, 0⟩] scope pos) spos) env) K := by
  intro α s Q hs F hq
  have hf : ∀ v, foldedSetIterable iter env v = pure v := fun v => by cases iter <;> first | rfl | exact absurd hfold Bool.false_ne_true
  rw [exec_Assign_Name_used _ _ _ _ hsw]
  refine wpAny_bind (wpAny_standAt (wpAny_bind ?_))
  show wpAny _ A (do let _ ← comprehension (.ListComp elt [⟨.Name x px, iter, ifs, 0⟩] scope pos) scope env _ (newList []) false (eval iter env) (some (assign (.Name y py) env))) _ _ s
  refine wpAny_bind (wpAny_mono (comp_core (Q' := fun _ s' => Q .next s') E.eo R.handled SO hs F hf hi fun v c' α' g h' tk C ht hK F' L' i nf no nb hC hm => ?_) (fun _ s' hq => wpAny_pure (wpAny_pure hq)) fun _ _ e => e)
  show wpAny _ A (assign (.Name y py) env g) _ _ _
  refine wpAny_assign_Name (wpAny_tk (s := { s with heap := h', toks := tk }) ht (store_loc_ok (s := { s with heap := h', toks := tk }) E.eo F' hy i fun h2 tk2 F2 hs2 ht2 => ?_))
  obtain ⟨m, hm⟩ := hm
  have hCL : C ≠ env.locals := fun q => nf (.inl q)
  have hm2 : h2.Ns C m := hm.sameBut hs2 hCL
  refine ⟨m, hm2, fun h3 hs3 => ?_⟩
  have nz : ∀ o, Froz o = true → h2.get? C ≠ some o := fun o hz e => by
    obtain ⟨o', es, ep, ho, hd, _⟩ := hm2
    rw [ho] at e; cases e; unfold Froz at hz; rw [hd] at hz; cases hz
  refine hq .next ⟨put l y v, c'⟩ α' .next h3 tk2 ht2 hK (F2.but nz (same_ext hs3) no nf nb) ?_ rfl
  have LS : LeS pr env c α s.heap c' α' h' := L'.leS F.toCst
  refine ⟨LS.agree, fun b o e nfr n => same_ext hs3 b o (fun q => by rw [q, hC] at e; cases e) (same_ext hs2 b o (fun q => nfr (.inl q)) (LS.kept b o e nfr n)), LS.grow⟩
end
end Mine
end
section
set_option linter.unusedVariables false
set_option maxRecDepth 100000
set_option maxHeartbeats 1000000
namespace Mine
open PySem PyProof.Rows PySem.W

theorem lookup_relabel_ne {env : Env} {k₀ : NameKind} (hk₀ : k₀ ≠ .free) : ∀ {names : List (Str × NameKind)} {x : Str}, names.lookup x = some k₀ →
    (names.map fun (n, k) => if (k == NameKind.free && env.scope.kind == .function && env.kindOf n == some .cell) then (n, NameKind.cell) else (n, k)).lookup x = some k₀
  | [], _, h => by simp at h
  | (n, k) :: r, x, h => by
    have ih := @lookup_relabel_ne env k₀ hk₀ r x
    show List.lookup x ((if (k == NameKind.free && env.scope.kind == .function && env.kindOf n == some .cell) = true then (n, NameKind.cell) else (n, k)) :: _) = _
    cases hx : x == n with
    | true =>
      simp only [List.lookup_cons, hx] at h
      cases h
      have : (k₀ == NameKind.free) = false := by cases k₀ <;> first | rfl | exact absurd rfl hk₀
      simp [List.lookup_cons, hx, this]
    | false =>
      simp only [List.lookup_cons, hx] at h
      by_cases hc : (k == NameKind.free && env.scope.kind == .function && env.kindOf n == some .cell) = true
      · rw [if_pos hc]; simp only [List.lookup_cons, hx]; exact ih h
      · rw [if_neg hc]; simp only [List.lookup_cons, hx]; exact ih h

theorem mapM_slots {names : List Str} : ∀ {fs : List Str} {is : List Nat}, fs.mapM (slotOf names) = some is → fs.length = is.length ∧ ∀ (j : Nat) y, fs[j]? = some y → ∃ i, is[j]? = some i ∧ slotOf names y = some i
  | [], is, h => by simp at h; subst h; exact ⟨rfl, fun j y e => by simp at e⟩
  | f :: fs, is, h => by
    rw [List.mapM_cons] at h
    cases hf : slotOf names f with
    | none => rw [hf] at h; cases h
    | some i =>
      cases hr : fs.mapM (slotOf names) with
      | none => rw [hf, hr] at h; cases h
      | some is' =>
        rw [hf, hr] at h; cases h
        obtain ⟨h1, h2⟩ := mapM_slots hr
        refine ⟨by simp [h1], fun j y e => ?_⟩
        cases j with
        | zero => cases e; exact ⟨i, rfl, hf⟩
        | succ j => exact h2 j y e

section
variable {prog : Program} {w : World} {hb : Heap} {P : Pm} {K₀ : Frag} {dep : Nat}

/- a comprehension's table of names in its own frame -/
theorem comp_env {env : Env} {T : Tb} (E : CxE env T) {x : Str} {scope : Scope} (hs : scopeOk T x scope = true) {fs : List Str} (hfs : fs = (scope.names.filter fun p => p.2 == .free).map (·.1)) :
    ScopeOk scope x env ∧ (x :: fs).Nodup ∧ (∀ y ∈ fs, scope.names.lookup y = some .free) ∧ ∀ cl C, EnvOk (compEnvC scope cl C env) → CxE (compEnvC scope cl C env) { T with names := x :: fs, kinds := scope.names } := by
  unfold scopeOk at hs
  simp only [Bool.and_eq_true, List.all_eq_true] at hs
  obtain ⟨⟨⟨⟨⟨h1, h2⟩, h3⟩, h4⟩, h5⟩, h6⟩ := hs
  have hnd : (x :: fs).Nodup := by rw [hfs]; exact of_decide_eq_true h6
  have hk : scope.kind = .function := beq_iff_eq.mp h2
  refine ⟨⟨fun y hy => by simpa using h1 y hy, hk, fun y hy e => ?_, beq_iff_eq.mp h4, fun y hy => ?_⟩, hnd, fun y hy => ?_, fun cl C EO => ⟨EO, E.gl, E.bl, fun y e => lookup_relabel_ne (by decide) e, fun y e => lookup_relabel_local e, fun y e => ?_, hnd⟩⟩
  · have := h3 y hy
    simpa [e] using this
  · have := h5 (y, .free) hy
    simp only [bne_self_eq_false, Bool.false_or, Bool.and_eq_true] at this
    exact E.kc y (beq_iff_eq.mp this.1)
  · rw [hfs] at hy
    obtain ⟨p, hp, rfl⟩ := List.mem_map.mp hy
    obtain ⟨hp, hq⟩ := List.mem_filter.mp hp
    have := h5 p hp
    rw [beq_iff_eq.mp hq] at this
    simp only [bne_self_eq_false, Bool.false_or, Bool.and_eq_true] at this
    exact beq_iff_eq.mp this.2
  · have := h1 _ (mem_of_lookup e)
    cases this

/- an expression is what its form says -/
noncomputable def SE (prog : Program) (w : World) (hb : Heap) (P : Pm) (T : Tb) (env : Env) (A : Around) (pr : List Nat) (e : Expr) (ie : IE) : Prop :=
  (∀ n l c K, wpE P n ie l c K → Ev prog w A hb pr env (toLoc T.names l) c e K) ∧ (∀ n l c K, wpT P n ie l c K → Tst prog w A hb pr env (toLoc T.names l) c e K)
noncomputable def SndE (prog : Program) (w : World) (hb : Heap) (P : Pm) (K₀ : Frag) (dep m : Nat) : Prop :=
  ∀ (T : Tb) (env : Env) (A : Around) (pr : List Nat), Cx0 prog w hb K₀ T P dep → CxE env T → Room (dep + 1) A → ∀ e ie, compE m T e = some ie → SE prog w hb P T env A pr e ie

section
variable {T : Tb} {env : Env} {A : Around} {pr : List Nat} {f : Expr → Option IE} (hf : ∀ a ia, f a = some ia → SE prog w hb P T env A pr a ia)
include hf
theorem args_of : ∀ {es : List Expr} {ies : List IE}, compL f es = some ies → ∀ n l c K, wpEs P n ies l c K → OkArgs prog w A hb pr env (toLoc T.names l) es c K := by
  intro es
  induction es with
  | nil =>
    intro ies h n l c K hw
    cases h
    cases n with
    | zero => exact hw.elim
    | succ n => exact hw
  | cons e r ih =>
    intro ies h n l c K hw
    obtain ⟨x, y, h1, h2, rfl⟩ := bind2 h
    cases n with
    | zero => exact hw.elim
    | succ n =>
      simp only [wpEs] at hw
      exact OkE.mono ((hf e x h1).1 n l c _ hw) fun v c1 k => ih h2 n l c1 _ k
theorem opt_of {o : Option Expr} {ie : IE} (h : optE f o = some ie) (n : Nat) (l : Sl) (c : Cells) (K : V → Cells → Prop) (hw : wpE P n ie l c K) : OkE (model prog w) A hb pr env IsV (toLoc T.names l) c (evalPart o env) K := by
  cases o with
  | none =>
    cases h
    cases n with
    | zero => exact hw.elim
    | succ n =>
      simp only [wpE] at hw
      exact fun α s Q hs F hq => evalPart_none_step (hq _ c α _ s.heap s.toks hs hw F (.refl ..) .none)
  | some e =>
    have := (hf e ie h).1 n l c K hw
    exact fun α s Q hs F hq => evalPart_some_step (this α s Q hs F hq)
end
end
end Mine
end
section
set_option linter.unusedVariables false
set_option maxRecDepth 100000
set_option maxHeartbeats 1000000
namespace Mine
open PySem PyProof.Rows PySem.W

theorem look_keep {β : Type} {q : Str × β → Bool} : ∀ (l : List (Str × β)) (x : Str), (∀ v, q (x, v) = true) → look (l.filter q) x = look l x
  | [], _, _ => rfl
  | (y, u) :: r, x, h => by
    rw [List.filter_cons]
    by_cases e : y = x
    · subst e; rw [if_pos (h u)]; simp only [look]; simp
    · by_cases hy : q (y, u) = true
      · rw [if_pos hy]; simp only [look]; rw [if_neg e, if_neg e]; exact look_keep r x h
      · rw [if_neg hy]; simp only [look]; rw [if_neg e]; exact look_keep r x h

theorem slotOf_get {names : List Str} : ∀ {x : Str} {i : Nat}, slotOf names x = some i → names[i]? = some x := by
  induction names with
  | nil => intro x i h; cases h
  | cons y ys ih =>
    intro x i h
    simp only [slotOf] at h
    by_cases e : y = x
    · rw [if_pos e] at h; cases h; rw [e]; rfl
    · rw [if_neg e] at h
      cases hs : slotOf ys x with
      | none => rw [hs] at h; cases h
      | some j => rw [hs] at h; cases h; exact ih hs

theorem slot_some {names : List Str} {y : Str} (h : y ∈ names) : ∃ i, slotOf names y = some i := by
  cases e : slotOf names y with
  | none => exact absurd h (slotOf_none e)
  | some i => exact ⟨i, rfl⟩

theorem comp_look {T : Tb} (nd : T.names.Nodup) {x : Str} {scope : Scope} {fs : List Str} {is : List Nat} (hfs : fs = (scope.names.filter fun p => p.2 == .free).map (·.1)) (his : fs.mapM (slotOf T.names) = some is) (hnd : (x :: fs).Nodup) (hfree : ∀ y ∈ fs, scope.names.lookup y = some .free) (l : Sl) (d : D) (y : Str) :
    look (toLoc (x :: fs) (some (.d d) :: is.map (lget l))) y = look (put (freeLoc scope (toLoc T.names l)) x (.d d)) y := by
  rw [look_put]
  show look ((x, V.d d) :: toLoc fs (is.map (lget l))) y = _
  simp only [look]
  by_cases e : x = y
  · subst e; simp
  rw [if_neg e, if_neg (fun q => e q.symm)]
  by_cases hy : y ∈ fs
  · obtain ⟨j, hj⟩ := slot_some hy
    rw [look_slot (List.nodup_cons.mp hnd).2 _ hj]
    obtain ⟨hlen, hm⟩ := mapM_slots his
    obtain ⟨i, h1, h2⟩ := hm j y (slotOf_get hj)
    unfold freeLoc
    rw [look_keep _ _ (fun v => by rw [hfree y hy]; rfl), look_slot nd l h2]
    show (match (is.map (lget l))[j]? with | some o => o | none => none) = _
    rw [List.getElem?_map, h1]
    rfl
  · rw [look_none _ _ hy]
    cases e' : look (freeLoc scope (toLoc T.names l)) y with
    | none => rfl
    | some v =>
      obtain ⟨_, h2⟩ := look_freeLoc e'
      exact absurd (by rw [hfs]; exact List.mem_map.mpr ⟨(y, .free), List.mem_filter.mpr ⟨mem_of_lookup h2, rfl⟩, rfl⟩) hy

section
variable {prog : Program} {w : World} {hb : Heap} {P : Pm} {K₀ : Frag} {dep : Nat}

theorem Cx0.names {T : Tb} (X : Cx0 prog w hb K₀ T P dep) (ns : List Str) (ks : List (Str × NameKind)) : Cx0 prog w hb K₀ { T with names := ns, kinds := ks } P dep :=
  ⟨X.kin, X.glob, X.cls, X.attr, X.meth, X.fn, X.makes, X.ini, X.inif, X.keep, X.tab, X.hash, X.sys⟩

theorem forIn_nil {M : Model} {A : Around} {pr : List Nat} {env : Env} {l : Loc} {c : Cells} {f : Expr → Bool → Sem (ForInStep Bool)} {K : Bool → Cells → Prop} (h : K true c) :
    OkE M A hb pr env okB l c (forIn ([] : List Expr) true f) K :=
  fun α s Q hs F hq => wpAny_pure (hq true c α true s.heap s.toks hs h F (.refl ..) rfl)
theorem forIn_one {M : Model} {A : Around} {pr : List Nat} {env env' : Env} {l : Loc} {c : Cells} {t : Expr} {K : Bool → Cells → Prop} (h : OkE M A hb pr env okB l c (isTrue t env' (eval t env')) K) :
    OkE M A hb pr env okB l c (forIn [t] true fun c r => if r = true then do let ok ← isTrue c env' (eval c env'); pure (ForInStep.yield ok) else pure (ForInStep.yield r)) K := by
  have e : (forIn [t] true fun c r => if r = true then do let ok ← isTrue c env' (eval c env'); pure (ForInStep.yield ok) else pure (ForInStep.yield r) : Sem Bool) = (do let ok ← isTrue t env' (eval t env'); pure ok) := by
    simp
  rw [e]
  intro α s Q hs F hq
  exact h α s Q hs F hq

/- what a comprehension's rounds do -/
theorem comp_rounds {m : Nat} (ihE : SndE prog w hb P K₀ dep m) {T : Tb} {env : Env} {A : Around} {pr : List Nat} (X : Cx0 prog w hb K₀ T P dep) (E : CxE env T) (R : Room (dep + 1) A)
    {x : Str} {scope : Scope} (hs : scopeOk T x scope = true) {fs : List Str} {is : List Nat} (hf : freesOf T x scope = some (fs, is)) {elt : Expr} {ifs : List Expr} {ie : IE} {it : Option IE}
    (he : compE m { T with names := x :: fs, kinds := scope.names } elt = some ie) (ht : (ifs = [] ∧ it = none) ∨ ∃ t jt, ifs = [t] ∧ compE m { T with names := x :: fs, kinds := scope.names } t = some jt ∧ it = some jt)
    {n : Nat} {l : Sl} {kk : Nat} {v : V} {c1 : Cells} {K : V → Cells → Prop}
    (hw : smallV v ∧ ∃ xs, iterItems v = some xs ∧ xs.length ≤ big ∧ kk ∉ dom c1 ∧ ∃ I : Nat → List D → Cells → Prop, I 0 [] c1 ∧
        (∀ i d acc c', xs[i]? = some d → I i acc c' → kk ∉ dom c' ∧
          (match it with
            | none => wpE P n ie (some (.d d) :: is.map (lget l)) (c' ++ [(kk, .list acc)]) fun v c3 => ∃ d' c4, v = .d d' ∧ c3 = c4 ++ [(kk, .list acc)] ∧ kk ∉ dom c4 ∧ I (i + 1) (acc ++ [d']) c4
            | some t => wpT P n t (some (.d d) :: is.map (lget l)) (c' ++ [(kk, .list acc)]) fun r c2 =>
              (r = true → wpE P n ie (some (.d d) :: is.map (lget l)) c2 fun v c3 => ∃ d' c4, v = .d d' ∧ c3 = c4 ++ [(kk, .list acc)] ∧ kk ∉ dom c4 ∧ I (i + 1) (acc ++ [d']) c4) ∧
              (r = false → ∃ c4, c2 = c4 ++ [(kk, .list acc)] ∧ kk ∉ dom c4 ∧ I (i + 1) acc c4))) ∧
        (∀ acc c', I xs.length acc c' → kk ∉ dom c' ∧ celW (c' ++ [(kk, .list acc)]) c' c' ∧ K (.d (.lst acc)) c')) :
    CompI prog w A hb pr env (toLoc T.names l) x elt ifs scope kk v c1 K := by
  have hfs : fs = (scope.names.filter fun p => p.2 == .free).map (·.1) ∧ fs.mapM (slotOf T.names) = some is := by
    unfold freesOf at hf
    dsimp only at hf
    cases q : ((scope.names.filter fun p => p.2 == .free).map (·.1)).mapM (slotOf T.names) with
    | none => rw [q] at hf; cases hf
    | some is' => rw [q] at hf; cases hf; exact ⟨rfl, q⟩
  obtain ⟨SO, hnd, hfree, hE⟩ := comp_env E hs hfs.1
  obtain ⟨h1, xs, h2, h3, h4, I, h5, h6, h7⟩ := hw
  refine ⟨h1, xs, h2, h3, h4, I, h5, fun i d acc c' hd hI => ?_, h7⟩
  obtain ⟨h8, h9⟩ := h6 i d acc c' hd hI
  refine ⟨h8, fun cl C EO => ?_⟩
  have X' := X.names (x :: fs) scope.names
  have E' := hE cl C EO
  have lk := fun y => (comp_look E.nd hfs.1 hfs.2 hnd hfree l d y).symm
  have hel := fun c2 K' h => OkE.look lk ((ihE _ _ A pr X' E' R elt ie he).1 n (some (.d d) :: is.map (lget l)) c2 K' h)
  rcases ht with ⟨rfl, rfl⟩ | ⟨t, jt, rfl, ht, rfl⟩
  · refine forIn_nil ⟨fun _ => ?_, fun q => by cases q⟩
    exact hel _ _ h9
  · refine forIn_one (OkE.look lk (OkE.mono ((ihE _ _ A pr X' E' R t jt ht).2 n _ _ _ h9) fun r c2 k => ⟨fun q => hel _ _ (k.1 q), k.2⟩))
end
end Mine
end
section
set_option linter.unusedVariables false
set_option maxRecDepth 100000
set_option maxHeartbeats 2000000
namespace Mine
open PySem PyProof.Rows PySem.W

section
variable {prog : Program} {w : World} {hb : Heap} {P : Pm} {K₀ : Frag} {dep : Nat}

theorem wpT_plain {e : IE} (he : (match e with | .cmp .. | .inD .. | .not .. | .and .. | .or .. | .c .. | .ite .. => false | _ => true) = true) {n : Nat} {l : Sl} {c : Cells} {K : Bool → Cells → Prop} (h : wpT P n e l c K) :
    ∃ n, wpE P n e l c fun u c1 => truthK c1 u fun r => K r c1 := by
  cases n with
  | zero => simp only [wpT] at h
  | succ n => cases e <;> first | (simp at he; done) | (simp only [wpT] at h; exact ⟨n, h⟩)

/- a value that a test looks at -/
theorem both {T : Tb} {env : Env} {A : Around} {pr : List Nat} {e : Expr} {ie : IE} (he : ∀ env', isTrue e env' (eval e env') = (do let v ← eval e env'; standAt e.pos; holding [v] (truthy v)))
    (hi : (match ie with | .cmp .. | .inD .. | .not .. | .and .. | .or .. | .c .. | .ite .. => false | _ => true) = true)
    (h : ∀ n l c K, wpE P (n + 1) ie l c K → Ev prog w A hb pr env (toLoc T.names l) c e K) :
    SE prog w hb P T env A pr e ie := by
  have h' : ∀ n l c K, wpE P n ie l c K → Ev prog w A hb pr env (toLoc T.names l) c e K := fun n l c K k => by
    cases n with
    | zero => simp only [wpE] at k
    | succ n => exact h n l c K k
  refine ⟨h', fun n l c K k => ?_⟩
  obtain ⟨m, k⟩ := wpT_plain hi k
  exact okPlainT (he env) (h' m l c _ k)
theorem bothC {T : Tb} {env : Env} {A : Around} {pr : List Nat} {e : Expr} {d : D} 
    (h : ∀ l c (K : V → Cells → Prop), K (.d d) c → Ev prog w A hb pr env l c e K) :
    SE prog w hb P T env A pr e (.c d) := by
  refine ⟨fun n l c K k => ?_, fun n l c K k => ?_⟩
  · cases n with
    | zero => simp only [wpE] at k
    | succ n => simp only [wpE] at k; exact h _ c K k
  · cases n with
    | zero => simp only [wpT] at k
    | succ n => simp only [wpT] at k

theorem bind4 {α β δ ε γ : Type} {a : Option α} {b : Option β} {d : Option δ} {e : Option ε} {f : α → β → δ → ε → γ} {r : γ} (h : (do return f (← a) (← b) (← d) (← e)) = some r) : ∃ x y z u, a = some x ∧ b = some y ∧ d = some z ∧ e = some u ∧ r = f x y z u := by
  cases a with
  | none => cases h
  | some x => cases b with
    | none => cases h
    | some y => cases d with
      | none => cases h
      | some z => cases e with
        | none => cases h
        | some u => cases h; exact ⟨x, y, z, u, rfl, rfl, rfl, rfl, rfl⟩

theorem mnOf_nm {nm : Str} {m : Mn} (h : mnOf nm = some m) : nm = m.nm := by
  unfold mnOf at h
  split at h
  · cases h; assumption
  split at h
  · cases h; assumption
  cases h

theorem truthK_mono {c : Cells} {v : V} {K K' : Bool → Prop} (h : truthK c v K) (hK : ∀ r, K r → K' r) : truthK c v K' := by
  unfold truthK at h ⊢
  split at h <;> first | exact hK _ h | exact ⟨h.1, hK _ h.2⟩ | skip
  split at h
  · exact ⟨h.1, hK _ h.2⟩
  · exact h.elim

section
variable {A : Around} {pr : List Nat} {env : Env} {names : List Str}
theorem andV {a b : Expr} {r : List Expr} {p : Pos} {ia ib : IE} (ha : ∀ n l c K, wpE P n ia l c K → Ev prog w A hb pr env (toLoc names l) c a K)
    (hb' : ∀ n l c K, wpE P n ib l c K → OkE (model prog w) A hb pr env IsV (toLoc names l) c (boolOp p .And (evalEach (b :: r) env)) K) (n : Nat) (l : Sl) (c : Cells) (K : V → Cells → Prop) (k : wpE P n (.and ia ib) l c K) :
    Ev prog w A hb pr env (toLoc names l) c (.BoolOp .And (a :: b :: r) p) K := by
  cases n with
  | zero => simp only [wpE] at k
  | succ n =>
    simp only [wpE] at k
    exact okAnd (OkE.mono (ha _ _ _ _ k) fun u c1 k1 => truthK_mono k1 fun r k2 => ⟨k2.1, fun q => hb' _ _ _ _ (k2.2 q)⟩)
theorem orV {a b : Expr} {r : List Expr} {p : Pos} {ia ib : IE} (ha : ∀ n l c K, wpE P n ia l c K → Ev prog w A hb pr env (toLoc names l) c a K)
    (hb' : ∀ n l c K, wpE P n ib l c K → OkE (model prog w) A hb pr env IsV (toLoc names l) c (boolOp p .Or (evalEach (b :: r) env)) K) (n : Nat) (l : Sl) (c : Cells) (K : V → Cells → Prop) (k : wpE P n (.or ia ib) l c K) :
    Ev prog w A hb pr env (toLoc names l) c (.BoolOp .Or (a :: b :: r) p) K := by
  cases n with
  | zero => simp only [wpE] at k
  | succ n =>
    simp only [wpE] at k
    exact okOr (OkE.mono (ha _ _ _ _ k) fun u c1 k1 => truthK_mono k1 fun r k2 => ⟨k2.1, fun q => hb' _ _ _ _ (k2.2 q)⟩)
theorem andT {a b : Expr} {r : List Expr} {p : Pos} {ia ib : IE} (ha : ∀ n l c K, wpT P n ia l c K → Tst prog w A hb pr env (toLoc names l) c a K)
    (hb' : ∀ whole n l c K, wpT P n ib l c K → OkE (model prog w) A hb pr env okB (toLoc names l) c (isTrue (.BoolOp .And (b :: r) p) env whole) K) (whole : Sem Value) (n : Nat) (l : Sl) (c : Cells) (K : Bool → Cells → Prop) (k : wpT P n (.and ia ib) l c K) :
    OkE (model prog w) A hb pr env okB (toLoc names l) c (isTrue (.BoolOp .And (a :: b :: r) p) env whole) K := by
  cases n with
  | zero => simp only [wpT] at k
  | succ n =>
    simp only [wpT] at k
    exact okAndT (OkE.mono (ha _ _ _ _ k) fun r c1 k1 => ⟨k1.1, fun q => hb' _ _ _ _ _ (k1.2 q)⟩)
theorem orT {a b : Expr} {r : List Expr} {p : Pos} {ia ib : IE} (ha : ∀ n l c K, wpT P n ia l c K → Tst prog w A hb pr env (toLoc names l) c a K)
    (hb' : ∀ whole n l c K, wpT P n ib l c K → OkE (model prog w) A hb pr env okB (toLoc names l) c (isTrue (.BoolOp .Or (b :: r) p) env whole) K) (whole : Sem Value) (n : Nat) (l : Sl) (c : Cells) (K : Bool → Cells → Prop) (k : wpT P n (.or ia ib) l c K) :
    OkE (model prog w) A hb pr env okB (toLoc names l) c (isTrue (.BoolOp .Or (a :: b :: r) p) env whole) K := by
  cases n with
  | zero => simp only [wpT] at k
  | succ n =>
    simp only [wpT] at k
    exact okOrT (OkE.mono (ha _ _ _ _ k) fun r c1 k1 => ⟨k1.1, fun q => hb' _ _ _ _ _ (k1.2 q)⟩)
theorem andL {a : Expr} {p : Pos} {ia : IE} (ha : ∀ n l c K, wpT P n ia l c K → Tst prog w A hb pr env (toLoc names l) c a K) (whole : Sem Value) (n : Nat) (l : Sl) (c : Cells) (K : Bool → Cells → Prop) (k : wpT P n ia l c K) :
    OkE (model prog w) A hb pr env okB (toLoc names l) c (isTrue (.BoolOp .And [a] p) env whole) K :=
  okAndT (OkE.mono (ha _ _ _ _ k) fun r c2 k2 => ⟨fun q => by rw [q] at k2; exact k2, fun q => okAndNil (by rw [q] at k2; exact k2)⟩)
theorem orL {a : Expr} {p : Pos} {ia : IE} (ha : ∀ n l c K, wpT P n ia l c K → Tst prog w A hb pr env (toLoc names l) c a K) (whole : Sem Value) (n : Nat) (l : Sl) (c : Cells) (K : Bool → Cells → Prop) (k : wpT P n ia l c K) :
    OkE (model prog w) A hb pr env okB (toLoc names l) c (isTrue (.BoolOp .Or [a] p) env whole) K :=
  okOrT (OkE.mono (ha _ _ _ _ k) fun r c2 k2 => ⟨fun q => by rw [q] at k2; exact k2, fun q => okOrNil (by rw [q] at k2; exact k2)⟩)
end

theorem constP_eq {e : Expr} {k : Const} (h : constP e = some k) : ∃ n p, e = .Constant k n p := by
  cases e <;> first | (cases h; exact ⟨_, _, rfl⟩) | cases h
theorem nameP_eq {e : Expr} {q : Str × Pos} (h : nameP e = some q) : e = .Name q.1 q.2 := by
  cases e <;> first | (cases h; rfl) | cases h
theorem attrP_eq {e : Expr} {q : Expr × Str × Pos} (h : attrP e = some q) : e = .Attribute q.1 q.2.1 q.2.2 := by
  cases e <;> first | (cases h; rfl) | cases h
theorem sliceP_eq {e : Expr} {q : Option Expr × Option Expr × Option Expr} (h : sliceP e = some q) : ∃ p, e = .Slice q.1 q.2.1 q.2.2 p := by
  cases e <;> first | (cases h; exact ⟨_, rfl⟩) | cases h
theorem tupP_eq {e : Expr} {es : List Expr} (h : tupP e = some es) : ∃ k p, e = .Tuple es k p := by
  cases e <;> first | (cases h; exact ⟨_, _, rfl⟩) | cases h
theorem two_eq {es : List Expr} {q : Expr × Expr} (h : two es = some q) : es = [q.1, q.2] := by
  match es, h with
  | [a, b], h => cases h; rfl
theorem one_eq {es : List Expr} {q : Expr} (h : one es = some q) : es = [q] := by
  match es, h with
  | [a], h => cases h; rfl
theorem strP_eq {e : Expr} {x : Str} (h : strP e = some x) : ∃ n p, e = .Constant (.str x) n p := by
  unfold strP at h
  cases q : constP e with
  | none => rw [q] at h; cases h
  | some k =>
    rw [q] at h
    obtain ⟨n, p, rfl⟩ := constP_eq q
    cases k <;> first | (cases h; exact ⟨n, p, rfl⟩) | cases h
theorem bindO {α β : Type} {a : Option α} {f : α → Option β} {r : β} (h : (a >>= f) = some r) : ∃ x, a = some x ∧ f x = some r := by
  cases a with
  | none => cases h
  | some x => exact ⟨x, rfl, h⟩
theorem ifO {α : Type} {p : Prop} [Decidable p] {a : Option α} {r : α} (h : (if p then a else none) = some r) : p ∧ a = some r := by
  by_cases q : p
  · rw [if_pos q] at h; exact ⟨q, h⟩
  · rw [if_neg q] at h; cases h

section
variable {T : Tb} {env : Env} {A : Around} {pr : List Nat} {f : Expr → Option IE} (hf : ∀ a ia, f a = some ia → SE prog w hb P T env A pr a ia)

theorem const_of {k : Const} {n : Nat} {p : Pos} {ie : IE} (h : constE k = some ie) : SE prog w hb P T env A pr (.Constant k n p) ie := by
  cases k <;> first | (cases h; exact bothC fun l c K k => const_ok rfl k) | cases h
theorem name_of (X : Cx0 prog w hb K₀ T P dep) (E : CxE env T) {x : Str} {p : Pos} {ie : IE} (h : nameE T x = some ie) : SE prog w hb P T env A pr (.Name x p) ie := by
  refine both (T := T) (fun _ => rfl) ?_ fun n l c K k => name_ok X E h k
  unfold nameE at h
  split at h
  · split at h
    · cases h; rfl
    · split at h
      · obtain ⟨v, _, rfl⟩ := Option.map_eq_some_iff.mp h; rfl
      · cases h
  · cases h
theorem neg_of {a : Expr} {p : Pos} {ie : IE} (h : negE a = some ie) : SE prog w hb P T env A pr (.UnaryOp .USub a p) ie := by
  unfold negE at h
  cases q : constP a with
  | none => rw [q] at h; cases h
  | some k =>
    rw [q] at h
    obtain ⟨n, p, rfl⟩ := constP_eq q
    cases k <;> first | (cases h; exact bothC fun l c K k => okNeg k) | cases h
include hf
theorem bin_of {a b : Expr} {op : Operator} {p : Pos} {ie : IE} (h : (do return IE.bin op (← f a) (← f b)) = some ie) : SE prog w hb P T env A pr (.BinOp a op b p) ie := by
  obtain ⟨x, y, h1, h2, rfl⟩ := bind2 h
  refine both (T := T) (fun _ => rfl) rfl fun n l c K k => ?_
  simp only [wpE] at k
  exact okBin (OkE.mono ((hf _ _ h1).1 _ _ _ _ k) fun u c1 k1 => (hf _ _ h2).1 _ _ _ _ k1)
theorem un_of {op : UnaryOp} {a : Expr} {p : Pos} {ie : IE} (h : unE f op a = some ie) : SE prog w hb P T env A pr (.UnaryOp op a p) ie := by
  cases op with
  | Not =>
    obtain ⟨x, h1, rfl⟩ := bind1 h
    refine ⟨fun n l c K k => ?_, fun n l c K k => ?_⟩
    · cases n with
      | zero => simp only [wpE] at k
      | succ n => simp only [wpE] at k; exact okNot ((hf _ _ h1).1 _ _ _ _ k)
    · cases n with
      | zero => simp only [wpT] at k
      | succ n => simp only [wpT] at k; exact okNotT ((hf _ _ h1).2 _ _ _ _ k)
  | USub => exact neg_of h
  | _ => cases h
/- and, or: as values and as tests -/
theorem bools {p : Pos} (op : BoolOp) : ∀ (r : List Expr) (a : Expr) {ie : IE}, boolL f op (a :: r) = some ie →
    (∀ n l c K, wpE P n ie l c K → OkE (model prog w) A hb pr env IsV (toLoc T.names l) c (boolOp p op (evalEach (a :: r) env)) K) ∧
    (∀ whole n l c K, wpT P n ie l c K → OkE (model prog w) A hb pr env okB (toLoc T.names l) c (isTrue (.BoolOp op (a :: r) p) env whole) K) := by
  intro r
  induction r with
  | nil =>
    intro a ie h
    have h : f a = some ie := h
    cases op with
    | And => exact ⟨(hf _ _ h).1, andL (hf _ _ h).2⟩
    | Or => exact ⟨(hf _ _ h).1, orL (hf _ _ h).2⟩
  | cons b r ih =>
    intro a ie h
    cases op with
    | And =>
      obtain ⟨x, y, h1, h2, rfl⟩ := bind2 (f := fun x y => IE.and x y) h
      exact ⟨andV (p := p) (hf _ _ h1).1 (ih b h2).1, andT (hf _ _ h1).2 (ih b h2).2⟩
    | Or =>
      obtain ⟨x, y, h1, h2, rfl⟩ := bind2 (f := fun x y => IE.or x y) h
      exact ⟨orV (p := p) (hf _ _ h1).1 (ih b h2).1, orT (hf _ _ h1).2 (ih b h2).2⟩
theorem bool_of {op : BoolOp} {es : List Expr} {p : Pos} {ie : IE} (h : boolE f op es = some ie) : SE prog w hb P T env A pr (.BoolOp op es p) ie := by
  match es, h with
  | a :: b :: r, h =>
    have q := bools (p := p) hf op (b :: r) a h
    exact ⟨q.1, q.2 _⟩
theorem cmp_of (X : Cx0 prog w hb K₀ T P dep) (R : Room (dep + 1) A) {a : Expr} {ops : List CmpOp} {bs : List Expr} {p : Pos} {ie : IE} (h : cmpE f T a ops bs = some ie) : SE prog w hb P T env A pr (.Compare a ops bs p) ie := by
  match ops, bs, h with
  | [op], [b], h =>
    have h : (if dictE T b then (if op = .In then (do return .inD (← f a) (← f b)) else none) else if notSet b then (do return .cmp op (← f a) (← f b)) else none) = some ie := h
    by_cases hd : dictE T b = true
    · rw [if_pos hd] at h
      obtain ⟨hop, h⟩ := ifO h
      obtain ⟨x, y, h1, h2, rfl⟩ := bind2 h
      have hset := dictE_notSet hd
      rw [hop]
      refine ⟨fun n l c K k => ?_, fun n l c K k => ?_⟩
      · cases n with
        | zero => simp only [wpE] at k
        | succ n => simp only [wpE] at k; exact okInD X hset (OkE.mono ((hf _ _ h1).1 _ _ _ _ k) fun u c1 k1 => (hf _ _ h2).1 _ _ _ _ k1)
      · cases n with
        | zero => simp only [wpT] at k
        | succ n => simp only [wpT] at k; exact okInDT X hset (OkE.mono ((hf _ _ h1).1 _ _ _ _ k) fun u c1 k1 => (hf _ _ h2).1 _ _ _ _ k1)
    · rw [if_neg hd] at h
      obtain ⟨hset, h⟩ := ifO h
      obtain ⟨x, y, h1, h2, rfl⟩ := bind2 h
      refine ⟨fun n l c K k => ?_, fun n l c K k => ?_⟩
      · cases n with
        | zero => simp only [wpE] at k
        | succ n => simp only [wpE] at k; exact okCmp R hset (OkE.mono ((hf _ _ h1).1 _ _ _ _ k) fun u c1 k1 => (hf _ _ h2).1 _ _ _ _ k1)
      · cases n with
        | zero => simp only [wpT] at k
        | succ n => simp only [wpT] at k; exact okCmpT R hset (OkE.mono ((hf _ _ h1).1 _ _ _ _ k) fun u c1 k1 => (hf _ _ h2).1 _ _ _ _ k1)
theorem sub_of (X : Cx0 prog w hb K₀ T P dep) {a i : Expr} {p : Pos} {ie : IE} (h : subE f T a i = some ie) : SE prog w hb P T env A pr (.Subscript a i p) ie := by
  unfold subE at h
  by_cases hn : notSlice i = true
  · rw [if_pos hn] at h
    by_cases hd : dictE T a = true
    · rw [if_pos hd] at h
      obtain ⟨x, y, h1, h2, rfl⟩ := bind2 h
      refine both (T := T) (fun _ => rfl) rfl fun n l c K k => ?_
      simp only [wpE] at k
      exact okItemD X hn (OkE.mono ((hf _ _ h1).1 _ _ _ _ k) fun u c1 k1 => (hf _ _ h2).1 _ _ _ _ k1)
    · rw [if_neg hd] at h
      obtain ⟨x, y, h1, h2, rfl⟩ := bind2 h
      refine both (T := T) (fun _ => rfl) rfl fun n l c K k => ?_
      simp only [wpE] at k
      exact okItem hn (OkE.mono ((hf _ _ h1).1 _ _ _ _ k) fun u c1 k1 => (hf _ _ h2).1 _ _ _ _ k1)
  · rw [if_neg hn] at h
    cases hs : sliceP i with
    | none => rw [hs] at h; cases h
    | some q =>
      obtain ⟨lo, hi, st⟩ := q
      rw [hs] at h
      obtain ⟨p, rfl⟩ := sliceP_eq hs
      cases st with
      | some e => cases h
      | none =>
        obtain ⟨x, y, z, h1, h2, h3, rfl⟩ := bind3 h
        refine both (T := T) (fun _ => rfl) rfl fun n l c K k => ?_
        simp only [wpE] at k
        exact okSlice (OkE.mono ((hf _ _ h1).1 _ _ _ _ k) fun u c1 k1 => OkE.mono (opt_of hf h2 _ _ _ _ k1) fun v c2 k2 => opt_of hf h3 _ _ _ _ k2)
theorem attr_of (X : Cx0 prog w hb K₀ T P dep) {a : Expr} {nm : Str} {p : Pos} {ie : IE} (h : attrE f T a nm p = some ie) : SE prog w hb P T env A pr (.Attribute a nm p) ie := by
  unfold attrE at h
  obtain ⟨hsup, h⟩ := ifO h
  by_cases hnm : nm = Mn.append.nm
  · rw [if_pos hnm] at h
    obtain ⟨x, y, h1, h2, rfl⟩ := bind2 h
    refine both (T := T) (fun _ => rfl) rfl fun n l c K k => ?_
    simp only [wpE] at k
    rw [hnm]
    exact okBnd hsup ((hf _ _ h1).1 _ _ _ _ k)
  · rw [if_neg hnm] at h
    obtain ⟨x, h1, rfl⟩ := bind1 h
    refine both (T := T) (fun _ => rfl) rfl fun n l c K k => ?_
    simp only [wpE] at k
    exact okAttr X hsup ((hf _ _ h1).1 _ _ _ _ k)
theorem tup_of {es : List Expr} {k : Nat} {p : Pos} {ie : IE} (h : (if noStar es then (do return IE.tup (← compL f es)) else none) = some ie) : SE prog w hb P T env A pr (.Tuple es k p) ie := by
  obtain ⟨hst, h⟩ := ifO h
  obtain ⟨x, h1, rfl⟩ := bind1 h
  refine both (T := T) (fun _ => rfl) rfl fun n l c K k => ?_
  simp only [wpE] at k
  exact okTup hst (args_of hf h1 _ _ _ _ k)
theorem lst_of {es : List Expr} {p : Pos} {ie : IE} (h : (if noStar es then (do return IE.lst (← compL f es) (T.cell p)) else none) = some ie) : SE prog w hb P T env A pr (.List es p) ie := by
  obtain ⟨hst, h⟩ := ifO h
  obtain ⟨x, h1, rfl⟩ := bind1 h
  refine both (T := T) (fun _ => rfl) rfl fun n l c K k => ?_
  simp only [wpE] at k
  exact okLst hst (args_of hf h1 _ _ _ _ k)
theorem repl_of {o a b : Expr} {y z : Str} {apos pos : Pos} (hsup : notSuper o = true) (hline : (apos.endLine == pos.line) = true) (ha : strP a = some y) (hb' : strP b = some z) {x : IE} (h1 : f o = some x) : SE prog w hb P T env A pr (.Call (.Attribute o (Str.ofString "replace") apos) [a, b] [] pos) (.repl x y z) := by
  obtain ⟨n1, p1, rfl⟩ := strP_eq ha
  obtain ⟨n2, p2, rfl⟩ := strP_eq hb'
  refine both (T := T) (fun _ => rfl) rfl fun n l c K k => ?_
  simp only [wpE] at k
  exact okRepl hsup hline ((hf _ _ h1).1 _ _ _ _ k)
theorem meth_of (X : Cx0 prog w hb K₀ T P dep) (E : CxE env T) (R : Room (dep + 1) A) {o : Expr} {nm : Str} {args : List Expr} {apos pos : Pos} (hsup : notSuper o = true) (hst : noStar args = true) (hfew : args.length < 30) (hline : (apos.endLine == pos.line) = true) {ie : IE} (h : methE f T o nm args = some ie) :
    SE prog w hb P T env A pr (.Call (.Attribute o nm apos) args [] pos) ie := by
  unfold methE at h
  by_cases hr : nm = Str.ofString "replace"
  · rw [if_pos hr] at h
    subst hr
    obtain ⟨q, hq, h⟩ := bindO h
    obtain ⟨y, hy, h⟩ := bindO h
    obtain ⟨z, hz, h⟩ := bindO h
    obtain ⟨x, h1, rfl⟩ := bind1 h
    rw [two_eq hq]
    exact repl_of hf hsup hline hy hz h1
  rw [if_neg hr] at h
  by_cases ht : nm = Str.ofString "translate"
  · rw [if_pos ht] at h
    subst ht
    obtain ⟨a, ha, h⟩ := bindO h
    obtain ⟨q, hq, h⟩ := bindO h
    rw [one_eq ha, nameP_eq hq]
    have h : (match nameE T q.1 with | some (.g (.val (.ref d))) => (do return .trans (← f o) d) | _ => none) = some ie := h
    split at h
    · rename_i d hname
      obtain ⟨x, h1, rfl⟩ := bind1 h
      refine both (T := T) (fun _ => rfl) rfl fun n l c K k => ?_
      simp only [wpE] at k
      exact okTrans X hsup hline (fun c1 K' k' => name_ok X E hname (n := 1) (by simp only [wpE]; exact k')) ((hf _ _ h1).1 _ _ _ _ k)
    · cases h
  rw [if_neg ht] at h
  cases hm : mnOf nm with
  | some m =>
    rw [hm] at h
    obtain ⟨x, y, h1, h2, rfl⟩ := bind2 (f := fun a b => IE.meth a m b) h
    refine both (T := T) (fun _ => rfl) rfl fun n l c K k => ?_
    simp only [wpE] at k
    rw [mnOf_nm hm]
    exact okMeth hsup hst hfew hline (OkE.mono ((hf _ _ h1).1 _ _ _ _ k) fun u c1 k1 => ⟨k1.1, args_of hf h2 _ _ _ _ k1.2⟩)
  | none =>
    rw [hm] at h
    obtain ⟨x, y, z, h1, h2, h3, rfl⟩ := bind3 (f := fun a b d => IE.umeth a b nm d) h
    refine both (T := T) (fun _ => rfl) rfl fun n l c K k => ?_
    simp only [wpE] at k
    exact okUmeth X R h2 hsup hst hfew hline (OkE.mono ((hf _ _ h1).1 _ _ _ _ k) fun u c1 k1 => ⟨k1.1, args_of hf h3 _ _ _ _ k1.2⟩)
theorem fn_of (X : Cx0 prog w hb K₀ T P dep) (E : CxE env T) (R : Room (dep + 1) A) {x : Str} {p pos : Pos} {args : List Expr} (hst : noStar args = true) {ie : IE} (h : fnE f T x args pos = some ie) : SE prog w hb P T env A pr (.Call (.Name x p) args [] pos) ie := by
  unfold fnE at h
  cases hm : T.mak x pos with
  | some q =>
    obtain ⟨C, k, dk⟩ := q
    rw [hm] at h
    have h : (match nameE T x with | some (.g (.val (.ref C'))) => (if C' = C then (do return IE.make C (← compL f args) k dk) else none) | _ => none) = some ie := h
    split at h
    · rename_i C' hname
      obtain ⟨hC, h⟩ := ifO h
      obtain ⟨y, h1, rfl⟩ := bind1 h
      refine both (T := T) (fun _ => rfl) rfl fun n l c K k => ?_
      simp only [wpE] at k
      obtain ⟨hC', k⟩ := k
      subst hC
      rw [hC'] at hname k
      exact okMake X R hst (fun c1 K' k' => name_ok X E hname (n := 1) (by simp only [wpE]; exact k')) (args_of hf h1 _ _ _ _ k)
    · cases h
  | none =>
    rw [hm] at h
    obtain ⟨y, z, h1, h2, rfl⟩ := bind2 (f := fun a b => IE.call a b (T.cell pos)) h
    refine both (T := T) (fun _ => rfl) rfl fun n l c K k => ?_
    simp only [wpE] at k
    exact okCall X R hst (OkE.mono (name_ok X E h1 k) fun u c1 k1 => args_of hf h2 _ _ _ _ k1)
theorem call_of (X : Cx0 prog w hb K₀ T P dep) (E : CxE env T) (R : Room (dep + 1) A) {g : Expr} {args : List Expr} {kws : List Keyword} {pos : Pos} {ie : IE} (h : callE f T g args kws pos = some ie) : SE prog w hb P T env A pr (.Call g args kws pos) ie := by
  unfold callE at h
  obtain ⟨hc, h⟩ := ifO h
  obtain ⟨hk, hst⟩ := Bool.and_eq_true_iff.mp hc
  rw [List.isEmpty_iff.mp hk]
  cases hq : attrP g with
  | some q =>
    obtain ⟨o, nm, apos⟩ := q
    rw [hq] at h
    rw [attrP_eq hq]
    obtain ⟨hc, h⟩ := ifO h
    obtain ⟨hc, hline⟩ := Bool.and_eq_true_iff.mp hc
    obtain ⟨hsup, hfew⟩ := Bool.and_eq_true_iff.mp hc
    exact meth_of hf X E R hsup hst (of_decide_eq_true hfew) hline h
  | none =>
    rw [hq] at h
    cases hn : nameP g with
    | none => rw [hn] at h; cases h
    | some q =>
      rw [hn] at h
      rw [nameP_eq hn]
      exact fn_of hf X E R hst h
end

theorem dic_of' {T : Tb} {env : Env} {A : Around} {pr : List Nat} (X : Cx0 prog w hb K₀ T P dep) {keys : List (Option Expr)} {values : List Expr} {pos : Pos} {ie : IE} (h : dicE T keys values pos = some ie) : SE prog w hb P T env A pr (.Dict keys values pos) ie := by
  unfold dicE at h
  cases hl : dictLit keys values with
  | none => rw [hl] at h; cases h
  | some kvs =>
    rw [hl] at h
    obtain ⟨hd, h⟩ := ifO h
    unfold dictOk at hd
    simp only [Bool.and_eq_true, decide_eq_true_eq] at hd
    obtain ⟨⟨d1, d2⟩, d3⟩ := hd
    obtain ⟨x, h1, rfl⟩ := bind1 h
    refine both (T := T) (fun _ => rfl) rfl fun n l c K k => ?_
    simp only [wpE] at k
    exact okDict X hl d1 (fun e => by rw [e] at d2; cases d2) d3 k.1 k.2

/- a comprehension's form, opened -/
noncomputable def LcO (f : Tb → Expr → Option IE) (T : Tb) (elt : Expr) (gs : List Comprehension) (scope : Scope) (ie : IE) : Prop :=
  ∃ x px iter ifs fs is k e it jt, gs = [⟨.Name x px, iter, ifs, 0⟩] ∧ scopeOk T x scope = true ∧ foldOk iter = true ∧ freesOf T x scope = some (fs, is) ∧ f (compT T x fs scope) elt = some e ∧ f T iter = some it ∧
      ((ifs = [] ∧ jt = none) ∨ ∃ t j, ifs = [t] ∧ f (compT T x fs scope) t = some j ∧ jt = some j) ∧ ie = .comp e it jt is k
theorem lc_end {f : Tb → Expr → Option IE} {T : Tb} {elt iter : Expr} {ifs : List Expr} {scope : Scope} {ie : IE} {q : Str × Pos} {r : List Str × List Nat} {k : Nat} {e it : IE} (hs : scopeOk T q.1 scope = true) (hfold : foldOk iter = true) (hr : freesOf T q.1 scope = some r) (he : f (compT T q.1 r.1 scope) elt = some e) (hit : f T iter = some it)
    (h : (match ifs with | [] => some (IE.comp e it none r.2 k) | t :: ts => if ts.isEmpty then (do return IE.comp e it (some (← f (compT T q.1 r.1 scope) t)) r.2 k) else none) = some ie) : LcO f T elt [⟨.Name q.1 q.2, iter, ifs, 0⟩] scope ie := by
  cases ifs with
  | nil => cases h; exact ⟨q.1, q.2, iter, [], r.1, r.2, k, e, it, none, rfl, hs, hfold, hr, he, hit, .inl ⟨rfl, rfl⟩, rfl⟩
  | cons t ts =>
    obtain ⟨hte, h⟩ := ifO h
    obtain ⟨j, hj, rfl⟩ := bind1 h
    have : ts = [] := List.isEmpty_iff.mp hte
    subst this
    exact ⟨q.1, q.2, iter, [t], r.1, r.2, k, e, it, some j, rfl, hs, hfold, hr, he, hit, .inr ⟨t, j, rfl, hj, rfl⟩, rfl⟩
theorem lc_open {f : Tb → Expr → Option IE} {T : Tb} {elt : Expr} {gs : List Comprehension} {scope : Scope} {pos : Pos} {ie : IE} (h : lcE f T elt gs scope pos = some ie) : LcO f T elt gs scope ie := by
  match gs, h with
  | [g], h =>
    obtain ⟨tg, iter, ifs, asy⟩ := g
    obtain ⟨q, hq, h⟩ := bindO h
    obtain ⟨hc, h⟩ := ifO h
    obtain ⟨hc, _⟩ := Bool.and_eq_true_iff.mp hc
    obtain ⟨hc, hfold⟩ := Bool.and_eq_true_iff.mp hc
    obtain ⟨hasy, hs⟩ := Bool.and_eq_true_iff.mp hc
    obtain ⟨r, hr, h⟩ := bindO h
    obtain ⟨k, hk, h⟩ := bindO h
    obtain ⟨e, he, h⟩ := bindO h
    obtain ⟨it, hit, h⟩ := bindO h
    rw [(beq_iff_eq.mp hasy : asy = 0), (nameP_eq hq : tg = _)]
    exact lc_end hs hfold hr he hit h
theorem lc_of {m : Nat} (ihE : SndE prog w hb P K₀ dep m) {T : Tb} {env : Env} {A : Around} {pr : List Nat} (X : Cx0 prog w hb K₀ T P dep) (E : CxE env T) (R : Room (dep + 1) A) {elt : Expr} {gs : List Comprehension} {scope : Scope} {pos : Pos} {ie : IE} (h : lcE (compE m) T elt gs scope pos = some ie) :
    SE prog w hb P T env A pr (.ListComp elt gs scope pos) ie := by
  obtain ⟨x, px, iter, ifs, fs, is, k, e, it, jt, rfl, hs, hfold, hr, he, hit, hj, rfl⟩ := lc_open h
  obtain ⟨SO, _⟩ := comp_env E hs rfl
  refine both (T := T) (fun _ => rfl) rfl fun n l c K kk => ?_
  simp only [wpE] at kk
  rcases hj with ⟨rfl, rfl⟩ | ⟨t, j, rfl, hj, rfl⟩
  · exact okComp E R SO hfold (OkE.mono ((ihE T env A pr X E R iter it hit).1 _ _ _ _ kk) fun v c1 k1 => comp_rounds ihE X E R hs hr he (.inl ⟨rfl, rfl⟩) k1)
  · exact okComp E R SO hfold (OkE.mono ((ihE T env A pr X E R iter it hit).1 _ _ _ _ kk) fun v c1 k1 => comp_rounds ihE X E R hs hr he (.inr ⟨t, j, rfl, hj, rfl⟩) k1)

theorem sndE_step {m : Nat} (ihE : SndE prog w hb P K₀ dep m) : SndE prog w hb P K₀ dep (m + 1) := by
  intro T env A pr X E R e ie h
  have hf := fun a ia (ha : compE m T a = some ia) => ihE T env A pr X E R a ia ha
  cases e with
  | Constant k n p => exact const_of h
  | Name x p => exact name_of X E h
  | BinOp a op b p => exact bin_of hf h
  | UnaryOp op a p => exact un_of hf h
  | BoolOp op es p => exact bool_of hf h
  | Compare a ops bs p => exact cmp_of hf X R h
  | Subscript a i p => exact sub_of hf X h
  | Attribute a nm p => exact attr_of hf X h
  | Tuple es k p => exact tup_of hf h
  | List es p => exact lst_of hf h
  | Call g args kws p => exact call_of hf X E R h
  | ListComp elt gs scope p => exact lc_of ihE X E R h
  | Dict ks vs p => exact dic_of' X h
  | _ => cases h
theorem snd (m : Nat) : SndE prog w hb P K₀ dep m := by
  induction m with
  | zero => exact fun T env A pr X E R e ie h => nomatch h
  | succ m ih => exact sndE_step ih
end
end Mine
end
section
set_option linter.unusedVariables false
set_option maxRecDepth 100000
set_option maxHeartbeats 2000000
namespace Mine
open PySem PyProof.Rows PySem.W

section
variable {M : Model} {A : Around} {hb : Heap} {pr : List Nat} {env : Env}
theorem OkS.look {l l' : Loc} {c : Cells} {t : Sem Flow} {K : F → Sg → Prop} (e : ∀ x, Mine.look l' x = Mine.look l x) (h : OkS M A hb pr env ⟨l', c⟩ t K) : OkS M A hb pr env ⟨l, c⟩ t K :=
  fun α s Q hs F hq => h α s Q hs (F.look fun x v q => by rw [← e]; exact q) hq
theorem OkS.mono {σ : Sg} {t : Sem Flow} {K K' : F → Sg → Prop} (h : OkS M A hb pr env σ t K) (hK : ∀ f τ, K f τ → K' f τ) : OkS M A hb pr env σ t K' :=
  fun α s Q hs F hq => h α s Q hs F fun f τ α' g h' tk ht k => hq f τ α' g h' tk ht (hK f τ k)
end

/- what a run of slots says of a run of names -/
noncomputable def KS (names : List Str) (K : F → Sg' → Prop) : F → Sg → Prop := fun f τ => ∃ σ : Sg', σ.l.length = names.length ∧ τ = ⟨toLoc names σ.l, σ.c⟩ ∧ K f σ

theorem slotOf_idx {names : List Str} (nd : names.Nodup) : ∀ {j : Nat} {x : Str}, names[j]? = some x → slotOf names x = some j := by
  induction names with
  | nil => intro j x h; simp at h
  | cons y ys ih =>
    intro j x h
    obtain ⟨h1, h2⟩ := List.nodup_cons.mp nd
    simp only [slotOf]
    cases j with
    | zero => simp at h; rw [if_pos h]
    | succ j =>
      simp at h
      have : y ≠ x := fun e => h1 (e ▸ List.mem_of_getElem? h)
      rw [if_neg this, ih h2 h]; rfl

theorem slW_loc {names : List Str} (nd : names.Nodup) {l : Sl} {c c' : Cells} : ∀ (ns : List Str) (r : Sl) (i : Nat), (∀ j x, ns[j]? = some x → names[i + j]? = some x) → slW l c c' i r → locW (toLoc names l) c c' (toLoc ns r)
  | [], r, i, _, _ => by cases r <;> trivial
  | n :: ns, [], i, _, _ => by show locW _ _ _ []; trivial
  | n :: ns, none :: r, i, h, hw => by
    show locW _ _ _ (toLoc ns r)
    exact slW_loc nd ns r (i + 1) (fun j x e => by have := h (j + 1) x e; rw [show i + 1 + j = i + (j + 1) by omega]; exact this) hw
  | n :: ns, some v :: r, i, h, hw => by
    show (∃ v', look (toLoc names l) n = some v' ∧ vW c c' v' v) ∧ locW _ _ _ (toLoc ns r)
    refine ⟨?_, slW_loc nd ns r (i + 1) (fun j x e => by have := h (j + 1) x e; rw [show i + 1 + j = i + (j + 1) by omega]; exact this) hw.2⟩
    obtain ⟨v', h1, h2⟩ := hw.1
    exact ⟨v', by rw [look_slot nd l (slotOf_idx nd (h 0 n rfl))]; exact h1, h2⟩
theorem Wk.weak {names : List Str} (nd : names.Nodup) {pr : List Nat} {σ τ : Sg'} (h : Wk pr σ τ) : Weak pr ⟨toLoc names σ.l, σ.c⟩ ⟨toLoc names τ.l, τ.c⟩ :=
  ⟨slW_loc nd names τ.l 0 (fun j x e => by rw [Nat.zero_add]; exact e) h.l, h.c, h.pr⟩

section
variable {prog : Program} {w : World} {hb : Heap} {P : Pm} {K₀ : Frag} {dep : Nat}

noncomputable def SndS (prog : Program) (w : World) (hb : Heap) (P : Pm) (K₀ : Frag) (dep m : Nat) : Prop :=
  ∀ (T : Tb) (env : Env) (A : Around) (pr : List Nat), Cx0 prog w hb K₀ T P dep → CxE env T → Room (dep + 1) A →
    ∀ st ist, compS m T st = some ist → ∀ n (σ : Sg') K, σ.l.length = T.names.length → wpS P pr n ist σ K → OkS (model prog w) A hb pr env ⟨toLoc T.names σ.l, σ.c⟩ (exec st env) (KS T.names K)
noncomputable def SndB (prog : Program) (w : World) (hb : Heap) (P : Pm) (K₀ : Frag) (dep m : Nat) : Prop :=
  ∀ (T : Tb) (env : Env) (A : Around) (pr : List Nat), Cx0 prog w hb K₀ T P dep → CxE env T → Room (dep + 1) A →
    ∀ b ib, compB m T b = some ib → ∀ n (σ : Sg') K, σ.l.length = T.names.length → wpB P pr n ib σ K → OkS (model prog w) A hb pr env ⟨toLoc T.names σ.l, σ.c⟩ (execs b env) (KS T.names K)

theorem sndB_step {m : Nat} (ihS : SndS prog w hb P K₀ dep m) (ihB : SndB prog w hb P K₀ dep m) : SndB prog w hb P K₀ dep (m + 1) := by
  intro T env A pr X E R b ib h n σ K hl hw
  cases b with
  | nil =>
    cases h
    cases n with
    | zero => simp only [wpB] at hw
    | succ n =>
      simp only [wpB] at hw
      exact fun α s Q hs F hq => wpAny_execs_nil (hq .next _ α _ s.heap s.toks hs ⟨σ, hl, rfl, hw⟩ F (.refl ..) rfl)
  | cons st r =>
    obtain ⟨x, y, h1, h2, rfl⟩ := bind2 h
    cases n with
    | zero => simp only [wpB] at hw
    | succ n =>
      simp only [wpB] at hw
      intro α s Q hs F hq
      refine wpAny_execs_cons (ihS T env A pr X E R st x h1 n σ _ hl hw α s _ hs F fun f τ α1 g h1' tk ht k F1 L1 i => ?_)
      obtain ⟨σ', hl', rfl, k⟩ := k
      cases f with
      | next =>
        cases i
        exact ihB T env A pr X E R r y h2 n σ' K hl' k α1 _ Q ht F1 fun f υ α2 g h2 tk2 ht2 k2 F2 L2 i2 => hq f υ α2 g h2 tk2 ht2 k2 F2 (L1.trans L2 fun b hf => (F2.fr b hf).2) i2
      | brk => cases i; exact hq .brk _ α1 _ h1' tk ht ⟨σ', hl', rfl, k⟩ F1 L1 rfl
      | cont => cases i; exact hq .cont _ α1 _ h1' tk ht ⟨σ', hl', rfl, k⟩ F1 L1 rfl
      | ret v => obtain ⟨g', rfl, i⟩ := i; exact hq (.ret v) _ α1 _ h1' tk ht ⟨σ', hl', rfl, k⟩ F1 L1 ⟨g', rfl, i⟩

theorem LeS.isV {env : Env} {pr : List Nat} {l : Loc} {c : Cells} {α : Al} {h h' : Heap} (L : LeS pr env c α h c α h') (F : Fst hb pr env l c α h) {v : V} {g : Value} (i : IsV c α h v g) : IsV c α h' v g := by
  cases v with
  | d x => exact L.isD F i
  | obj k => exact i
  | val u => exact i
  | rng p q => obtain ⟨r, t, u, v, e, g, n⟩ := i; exact ⟨r, t, u, v, e, L.kept r _ g (fun f => not_froz_frame F f _ rfl g) n, n⟩
  | bi b => exact i

theorem swaps_no {env : Env} {value : Expr} {t : Option Expr} {n : Nat} (h : isComp value = false) : swapsWith value t n env = pure false := by
  cases value <;> first | rfl | exact absurd h (nofun : ¬ (true = false))

theorem slotS_ok {env : Env} {T : Tb} (E : CxE env T) {x : Str} {i : Nat} (h : slotS T x = some i) : storable env x ∧ slotOf T.names x = some i := by
  unfold slotS at h
  split at h
  · rename_i q
    refine ⟨?_, h⟩
    unfold storeOk at q
    simp only [Bool.or_eq_true] at q
    rcases q with q | q
    · exact .inl (E.kl x (beq_iff_eq.mp q))
    · exact .inr (E.kc x (beq_iff_eq.mp q))
  · cases h

/- a name is stored: its slot is set -/
theorem store_slot {env : Env} {A : Around} {pr : List Nat} {T : Tb} (E : CxE env T) {x : Str} {i : Nat} (h : slotS T x = some i) {l : Sl} (hl : l.length = T.names.length) {c : Cells} {α : Al} {s : Shared} (hs : 1 ≤ s.toks) {v : V} {g : Value} (F : Fst hb pr env (toLoc T.names l) c α s.heap) (iv : IsV c α s.heap v g)
    {Q : Unit → Shared → Prop} (hq : ∀ h' tk, 1 ≤ tk → Fst hb pr env (toLoc T.names (l.set i (some v))) c α h' → LeS pr env c α s.heap c α h' → IsV c α h' v g → Q () { s with heap := h', toks := tk }) : wpAny (model prog w) A (storeName env x g) Q no s := by
  obtain ⟨h1, h2⟩ := slotS_ok E h
  refine wpAny_tk hs (store_ok E.eo F h1 iv fun h' tk F' L' ht => ?_)
  have F'' : Fst hb pr env (toLoc T.names (l.set i (some v))) c α h' := F'.look fun y u q => by rw [← look_set E.nd hl h2 v y]; exact q
  exact hq h' tk ht F'' L' (L'.isV F iv)
end
end Mine
end
section
set_option linter.unusedVariables false
set_option maxRecDepth 100000
set_option maxHeartbeats 2000000
namespace Mine
open PySem PyProof.Rows PySem.W

section
variable {prog : Program} {w : World} {hb : Heap} {P : Pm} {K₀ : Frag} {dep : Nat} {env : Env} {A : Around} {pr : List Nat} {T : Tb}

theorem okAsg (E : CxE env T) {x : Str} {i : Nat} (hi : slotS T x = some i) {σ : Sg'} (hl : σ.l.length = T.names.length) {p pos : Pos} {value : Expr} (hv : isComp value = false) {K : F → Sg' → Prop}
    (h : Ev prog w A hb pr env (toLoc T.names σ.l) σ.c value fun v c1 => K .next ⟨σ.l.set i (some v), c1⟩) :
    OkS (model prog w) A hb pr env ⟨toLoc T.names σ.l, σ.c⟩ (exec (.Assign [.Name x p] value pos) env) (KS T.names K) := by
  intro α s Q hs F hq
  refine wpAny_Assign_Name (h α s _ hs F fun v c1 α1 g h1 t1 ht1 k1 F1 L1 i1 => ?_) (swaps_no hv)
  refine store_slot (s := { s with heap := h1, toks := t1 }) E hi hl ht1 F1 i1 fun h2 t2 ht2 F2 L2 i2 => ?_
  exact hq .next ⟨_, c1⟩ α1 _ h2 t2 ht2 ⟨⟨_, c1⟩, by rw [List.length_set]; exact hl, rfl, k1⟩ F2 ((L1.leS F.toCst).trans L2 fun b hf => (F2.fr b hf).2) rfl

theorem okAsg2 (E : CxE env T) {x y : Str} {i j : Nat} (hi : slotS T x = some i) (hj : slotS T y = some j) {σ : Sg'} (hl : σ.l.length = T.names.length) {p q pos : Pos} {value : Expr} (hv : isComp value = false) {K : F → Sg' → Prop}
    (h : Ev prog w A hb pr env (toLoc T.names σ.l) σ.c value fun v c1 => K .next ⟨(σ.l.set i (some v)).set j (some v), c1⟩) :
    OkS (model prog w) A hb pr env ⟨toLoc T.names σ.l, σ.c⟩ (exec (.Assign [.Name x p, .Name y q] value pos) env) (KS T.names K) := by
  intro α s Q hs F hq
  refine wpAny_Assign_two (h α s _ hs F fun v c1 α1 g h1 t1 ht1 k1 F1 L1 i1 => ?_)
  refine wpAny_assign_Name (store_slot (s := { s with heap := h1, toks := t1 }) E hi hl ht1 F1 i1 fun h2 t2 ht2 F2 L2 i2 => ?_)
  refine wpAny_assign_Name (store_slot (s := { s with heap := h2, toks := t2 }) E hj (by rw [List.length_set]; exact hl) ht2 F2 i2 fun h3 t3 ht3 F3 L3 i3 => ?_)
  exact hq .next ⟨_, c1⟩ α1 _ h3 t3 ht3 ⟨⟨_, c1⟩, by rw [List.length_set, List.length_set]; exact hl, rfl, k1⟩ F3 (((L1.leS F.toCst).trans L2 fun b hf => (F2.fr b hf).2).trans L3 fun b hf => (F3.fr b hf).2) rfl

theorem setattrK_ok {c : Cells} {u : V} {nm : Str} {v : V} {K : Cells → Prop} (h : setattrK P c u nm v K) : ∃ k dk fs, u = .obj k ∧ cget c k = some (.inst P.C dk) ∧ cget c dk = some (.ns fs) ∧ P.attr nm = true ∧ fs.length ≤ 1000 ∧ K (cset c dk (.ns (put fs nm v))) := by
  unfold setattrK at h
  split at h
  · split at h
    · rename_i hk
      obtain ⟨h1, h2, h3⟩ := h
      split at h3
      · rename_i hdk; exact ⟨_, _, _, rfl, h1 ▸ hk, hdk, h2, h3.1, h3.2⟩
      · exact h3.elim
    · exact h.elim
  · exact h.elim

theorem okAsgA (X : Cx0 prog w hb K₀ T P dep) (E : CxE env T) {o : Expr} {nm : Str} {σ : Sg'} (hl : σ.l.length = T.names.length) {p pos : Pos} {value : Expr} (hv : isComp value = false) {K : F → Sg' → Prop}
    (h : Ev prog w A hb pr env (toLoc T.names σ.l) σ.c value fun v c1 => Ev prog w A hb pr env (toLoc T.names σ.l) c1 o fun u c2 => setattrK P c2 u nm v fun c3 => K .next ⟨σ.l, c3⟩) :
    OkS (model prog w) A hb pr env ⟨toLoc T.names σ.l, σ.c⟩ (exec (.Assign [.Attribute o nm p] value pos) env) (KS T.names K) := by
  intro α s Q hs F hq
  refine plainObj_wpAny_Assign_Attribute (h α s _ hs F fun v c1 α1 g h1 t1 ht1 k1 F1 L1 i1 => ?_) (swaps_no hv)
  refine k1 α1 _ _ ht1 F1 fun u c2 α2 g2 h2 t2 ht2 k2 F2 L2 i2 => ?_
  obtain ⟨k, dk, fs, rfl, hk, hdk, hat, hsz, hK⟩ := setattrK_ok k2
  obtain ⟨rfl, _⟩ := i2
  refine wpAny_tk (s := { s with heap := h2, toks := t2 }) ht2 (setattr_ok (s := { s with heap := h2, toks := t2 }) F2 X.kin hk hdk X.cls (X.attr nm hat) hsz (L2.isV i1) fun h3 t3 F3 L3 ht3 => ?_)
  exact hq .next ⟨toLoc T.names σ.l, cset c2 dk (.ns (put fs nm v))⟩ α2 _ h3 t3 ht3 ⟨⟨σ.l, cset c2 dk (.ns (put fs nm v))⟩, hl, rfl, hK⟩ F3 (((L1.trans L2).trans L3).leS F.toCst) rfl

theorem okAsgA2 (X : Cx0 prog w hb K₀ T P dep) (E : CxE env T) {o : Expr} {nm y : Str} {j : Nat} (hj : slotS T y = some j) {σ : Sg'} (hl : σ.l.length = T.names.length) {p q pos : Pos} {value : Expr} (hv : isComp value = false) {K : F → Sg' → Prop}
    (h : Ev prog w A hb pr env (toLoc T.names σ.l) σ.c value fun v c1 => Ev prog w A hb pr env (toLoc T.names σ.l) c1 o fun u c2 => setattrK P c2 u nm v fun c3 => K .next ⟨σ.l.set j (some v), c3⟩) :
    OkS (model prog w) A hb pr env ⟨toLoc T.names σ.l, σ.c⟩ (exec (.Assign [.Attribute o nm p, .Name y q] value pos) env) (KS T.names K) := by
  intro α s Q hs F hq
  refine wpAny_Assign_two (h α s _ hs F fun v c1 α1 g h1 t1 ht1 k1 F1 L1 i1 => ?_)
  show wpAny _ A (do let ov ← holding [g] (eval o env); standAt p.atName; holding [g, ov] (setAttr ov nm g); release [g, ov] []) _ _ _
  refine wpAny_bind (wpAny_holding (k1 α1 _ _ ht1 F1 fun u c2 α2 g2 h2 t2 ht2 k2 F2 L2 i2 => ?_))
  obtain ⟨k, dk, fs, rfl, hk, hdk, hat, hsz, hK⟩ := setattrK_ok k2
  obtain ⟨rfl, _⟩ := i2
  refine wpAny_bind (wpAny_standAt (wpAny_bind (wpAny_holding (wpAny_tk (s := { s with heap := h2, toks := t2 }) ht2 (setattr_ok (s := { s with heap := h2, toks := t2 }) F2 X.kin hk hdk X.cls (X.attr nm hat) hsz (L2.isV i1) fun h3 t3 F3 L3 ht3 => ?_)))))
  refine wpAny_release ?_
  refine wpAny_assign_Name (store_slot (s := { s with heap := h3, toks := t3 }) E hj hl ht3 F3 (L3.isV (L2.isV i1)) fun h4 t4 ht4 F4 L4 i4 => ?_)
  exact hq .next ⟨toLoc T.names (σ.l.set j (some v)), cset c2 dk (.ns (put fs nm v))⟩ α2 _ h4 t4 ht4 ⟨⟨σ.l.set j (some v), cset c2 dk (.ns (put fs nm v))⟩, by rw [List.length_set]; exact hl, rfl, hK⟩ F4 ((((L1.trans L2).trans L3).leS F.toCst).trans L4 fun b hf => (F4.fr b hf).2) rfl

theorem okExpr (E : CxE env T) {σ : Sg'} (hl : σ.l.length = T.names.length) {pos : Pos} {e : Expr} (hv : isComp e = false) {K : F → Sg' → Prop}
    (h : Ev prog w A hb pr env (toLoc T.names σ.l) σ.c e fun v c1 => K .next ⟨σ.l, c1⟩) :
    OkS (model prog w) A hb pr env ⟨toLoc T.names σ.l, σ.c⟩ (exec (.Expr e pos) env) (KS T.names K) := by
  intro α s Q hs F hq
  refine wpAny_Expr_any (h α s _ hs F fun v c1 α1 g h1 t1 ht1 k1 F1 L1 i1 => ?_) E.eo.inter (swaps_no hv)
  exact hq .next ⟨_, c1⟩ α1 _ h1 t1 ht1 ⟨⟨_, c1⟩, hl, rfl, k1⟩ F1 (L1.leS F.toCst) rfl

theorem okIf {σ : Sg'} {t : Expr} {a b : List Stmt} {pos : Pos} {K : F → Sg → Prop} (h : Tst prog w A hb pr env (toLoc T.names σ.l) σ.c t fun r c1 => (r = true → OkS (model prog w) A hb pr env ⟨toLoc T.names σ.l, c1⟩ (execs a env) K) ∧ (r = false → OkS (model prog w) A hb pr env ⟨toLoc T.names σ.l, c1⟩ (execs b env) K)) :
    OkS (model prog w) A hb pr env ⟨toLoc T.names σ.l, σ.c⟩ (exec (.If t a b pos) env) K := by
  intro α s Q hs F hq
  refine wpAny_If (h α s _ hs F fun r c1 α1 g h1 t1 ht1 k1 F1 L1 i1 => ?_)
  cases i1
  cases r with
  | true =>
    rw [if_pos rfl]
    exact k1.1 rfl α1 _ Q ht1 F1 fun f τ α2 g2 h2 t2 ht2 k2 F2 L2 i2 => hq f τ α2 g2 h2 t2 ht2 k2 F2 ((L1.leS F.toCst).trans L2 fun b hf => (F2.fr b hf).2) i2
  | false =>
    rw [if_neg (by decide)]
    exact k1.2 rfl α1 _ Q ht1 F1 fun f τ α2 g2 h2 t2 ht2 k2 F2 L2 i2 => hq f τ α2 g2 h2 t2 ht2 k2 F2 ((L1.leS F.toCst).trans L2 fun b hf => (F2.fr b hf).2) i2

theorem okRet {σ : Sg'} (hl : σ.l.length = T.names.length) {e : Expr} {pos : Pos} {K : F → Sg' → Prop} (h : Ev prog w A hb pr env (toLoc T.names σ.l) σ.c e fun v c1 => K (.ret v) ⟨σ.l, c1⟩) :
    OkS (model prog w) A hb pr env ⟨toLoc T.names σ.l, σ.c⟩ (exec (.Return (some e) pos) env) (KS T.names K) := by
  intro α s Q hs F hq
  refine wpAny_Return_some (h α s _ hs F fun v c1 α1 g h1 t1 ht1 k1 F1 L1 i1 => ?_)
  exact hq (.ret v) ⟨_, c1⟩ α1 _ h1 t1 ht1 ⟨⟨_, c1⟩, hl, rfl, k1⟩ F1 (L1.leS F.toCst) ⟨g, rfl, i1⟩

theorem okAssert {σ : Sg'} (hl : σ.l.length = T.names.length) {t : Expr} {pos : Pos} {K : F → Sg' → Prop} (h : Tst prog w A hb pr env (toLoc T.names σ.l) σ.c t fun r c1 => r = true ∧ K .next ⟨σ.l, c1⟩) :
    OkS (model prog w) A hb pr env ⟨toLoc T.names σ.l, σ.c⟩ (exec (.Assert t none pos) env) (KS T.names K) := by
  intro α s Q hs F hq
  refine wpAny_Assert_holds (h α s _ hs F fun r c1 α1 g h1 t1 ht1 k1 F1 L1 i1 => ?_)
  cases i1
  exact ⟨k1.1, hq .next ⟨_, c1⟩ α1 _ h1 t1 ht1 ⟨⟨_, c1⟩, hl, rfl, k1.2⟩ F1 (L1.leS F.toCst) rfl⟩
end
end Mine
end
section
set_option linter.unusedVariables false
set_option maxRecDepth 100000
set_option maxHeartbeats 2000000
namespace Mine
open PySem PyProof.Rows PySem.W

section
variable {prog : Program} {w : World} {hb : Heap} {P : Pm} {K₀ : Frag} {dep : Nat} {env : Env} {A : Around} {pr : List Nat} {T : Tb}

theorem swap2_ok (E : CxE env T) {x y : Str} {px py tp vp : Pos} {k k' : Nat} {a b : Expr} (h : swap2 T x px y py a b = true) :
    swappedStores [.Tuple [.Name x px, .Name y py] k tp] (.Tuple [a, b] k' vp) env = pure (some [x, y]) ∧ isStar a = false ∧ isStar b = false := by
  unfold swap2 at h
  simp only [Bool.and_eq_true, Bool.not_eq_true', beq_iff_eq] at h
  obtain ⟨⟨⟨⟨⟨⟨⟨h1, h2⟩, h3⟩, h4⟩, h5⟩, h6⟩, h7⟩, h8⟩ := h
  refine ⟨?_, h5, h6⟩
  have hb' : env.blockKind = .function := by unfold Env.blockKind; rw [E.eo.kind]; rfl
  have s1 : ([a, b].any fun | .Starred .. => true | _ => false) = false := by
    have s : ∀ e : Expr, isStar e = false → (match e with | .Starred .. => true | _ => false) = false := fun e q => by cases e <;> first | rfl | exact absurd q (nofun : ¬ (true = false))
    simp only [List.any_cons, List.any_nil, Bool.or_false, Bool.or_eq_false_iff]
    exact ⟨s a h5, s b h6⟩
  unfold swappedStores
  have kx := E.kl x h1
  have ky := E.kl y h2
  have hn : ([x, y] : List Str).eraseDups.length = 2 := by
    have : (y == x) = false := by rw [beq_eq_false_iff_ne] at h4 ⊢; exact fun e => h4 e.symm
    simp [List.eraseDups_cons, this]
  simp only [hb', h7, h8, List.filterMap_cons, List.filterMap_nil, kx, ky, List.head?_cons, Option.map_some, Option.getD_some, Expr.pos, h3, beq_self_eq_true, Bool.and_self, if_true, List.length_cons, List.length_nil, hn]
  refine (if_neg (by decide)).trans ((if_neg ?_).trans ((if_neg (by decide)).trans rfl))
  intro q
  have : ([a, b].any fun | .Starred .. => true | _ => false) = true := q
  rw [s1] at this; cases this

theorem okUnp2 (E : CxE env T) (R : Room (dep + 1) A) {x y : Str} {i j : Nat} (hi : slotS T x = some i) (hj : slotS T y = some j) {px py tp vp pos : Pos} {k k' : Nat} {a b : Expr} (h2 : swap2 T x px y py a b = true) {σ : Sg'} (hl : σ.l.length = T.names.length) {K : F → Sg' → Prop}
    (h : Ev prog w A hb pr env (toLoc T.names σ.l) σ.c a fun u c1 => Ev prog w A hb pr env (toLoc T.names σ.l) c1 b fun v c2 => (∃ x y, u = .d x ∧ v = .d y) ∧ K .next ⟨(σ.l.set j (some v)).set i (some u), c2⟩) :
    OkS (model prog w) A hb pr env ⟨toLoc T.names σ.l, σ.c⟩ (exec (.Assign [.Tuple [.Name x px, .Name y py] k tp] (.Tuple [a, b] k' vp) pos) env) (KS T.names K) := by
  obtain ⟨hsw, hsa, hsb⟩ := swap2_ok (k := k) (k' := k') (tp := tp) (vp := vp) E h2
  intro α s Q hs F hq
  have hE : Ev prog w A hb pr env (toLoc T.names σ.l) σ.c (.Tuple [a, b] k' vp) fun t c2 => ∃ x y, t = .d (.tup [x, y]) ∧ K .next ⟨(σ.l.set j (some (.d y))).set i (some (.d x)), c2⟩ := by
    refine okTup (by simp [noStar, hsa, hsb]) ?_
    refine OkE.mono h fun u c1 h1 => OkE.mono h1 fun v c2 h2 => ?_
    obtain ⟨⟨x, y, rfl, rfl⟩, h2⟩ := h2
    exact ⟨(by show 2 ≤ big; decide), x, y, rfl, h2⟩
  refine Assign_Tuple_swapped (hE α s _ hs F fun t c2 α2 g h2 t2 ht2 k2 F2 L2 i2 => ?_) rfl hsw
  obtain ⟨dx, dy, rfl, hK⟩ := k2
  cases i2 with
  | @tup _ ws ta ep hg no is =>
    cases is with
    | @cons _ wx _ _ ix r => cases r with
      | @cons _ wy _ _ iy r =>
        cases r
        refine unpackItems_tuple (items := #[wx, wy]) R.handled ⟨_, hg, rfl, _, rfl⟩ fun h3 he => ?_
        have hkeep : ∀ b o, h2.get? b = some o → h3.get? b = some o := fun b o e => he b o (fun q => by rw [q] at e; exact Nat.lt_irrefl _ (Heap.lt_size e)) e
        obtain ⟨F3, L3⟩ := F2.keeps hkeep
        show wpAny _ A (do holding [wx] (bindName env y wy); (do holding [] (bindName env x wx); pure ())) _ _ _
        refine wpAny_bind (wpAny_holding (bindName_ (store_slot (s := { s with heap := h3, toks := t2 }) E hj hl ht2 F3 (v := .d dy) (L3.isD iy) fun h4 t4 ht4 F4 L4 i4 => ?_)))
        refine wpAny_bind (wpAny_holding (bindName_ (store_slot (s := { s with heap := h4, toks := t4 }) E hi (by rw [List.length_set]; exact hl) ht4 F4 (v := .d dx) (L4.isD F3 (L3.isD ix)) fun h5 t5 ht5 F5 L5 i5 => wpAny_pure ?_)))
        exact hq .next ⟨_, c2⟩ α2 _ h5 t5 ht5 ⟨⟨_, c2⟩, by rw [List.length_set, List.length_set]; exact hl, rfl, hK⟩ F5 ((((L2.trans L3).leS F.toCst).trans L4 fun b hf => (F4.fr b hf).2).trans L5 fun b hf => (F5.fr b hf).2) rfl
end
end Mine
end
section
set_option linter.unusedVariables false
set_option maxRecDepth 100000
set_option maxHeartbeats 2000000
namespace Mine
open PySem PyProof.Rows PySem.W

section
variable {prog : Program} {w : World} {hb : Heap} {P : Pm} {K₀ : Frag} {dep : Nat}

theorem fold_ok {it : Expr} {env : Env} (h : foldOk it = true) (v : Value) : foldedSetIterable it env v = pure v := by
  cases it <;> first | rfl | exact absurd h Bool.false_ne_true

theorem swaps_yes {env : Env} {T : Tb} (E : CxE env T) {x : Str} {px : Pos} {elt : Expr} {gs : List Comprehension} {scope : Scope} {pos : Pos} (n : Nat) (h : swaps T x px (.ListComp elt gs scope pos) = true) :
    swapsWith (.ListComp elt gs scope pos) (some (.Name x px)) n env = pure true ∧ env.kindOf x = some .local := by
  unfold swaps at h
  simp only [Bool.and_eq_true, beq_iff_eq, Bool.not_eq_true'] at h
  obtain ⟨⟨h1, h2⟩, h3⟩ := h
  have k := E.kl x h1
  have hb' : env.blockKind = .function := by unfold Env.blockKind; rw [E.eo.kind]; rfl
  refine ⟨?_, k⟩
  show (pure (env.blockKind == .function && env.kindOf x == some .local && px.line == pos.line && !(scope.names.any fun (n, k) => n == x && (k == .local || k == .cell))) : Sem Bool) = _
  rw [hb', k, h2, h3]
  simp

theorem OkS.post {M : Model} {A : Around} {pr : List Nat} {env : Env} {σ : Sg} {t : Sem Flow} {K K' : F → Sg → Prop} (h : OkS M A hb pr env σ t K) (hK : ∀ f τ, K f τ → ∃ l', (∀ x, Mine.look l' x = Mine.look τ.l x) ∧ K' f ⟨l', τ.c⟩) : OkS M A hb pr env σ t K' :=
  fun α s Q hs F hq => h α s Q hs F fun f τ α' g h' tk ht k F' L' i => by
    obtain ⟨l', e, k'⟩ := hK f τ k
    exact hq f ⟨l', τ.c⟩ α' g h' tk ht k' (F'.look fun x v q => by rw [← e]; exact q) L' i

theorem swaps_lc {T : Tb} {x : Str} {p : Pos} {value : Expr} (h : swaps T x p value = true) : ∃ elt gs scope pos, value = .ListComp elt gs scope pos := by
  cases value <;> first | exact ⟨_, _, _, _, rfl⟩ | cases h
theorem asgC_ok {m : Nat} {T : Tb} {env : Env} {A : Around} {pr : List Nat} (X : Cx0 prog w hb K₀ T P dep) (E : CxE env T) (R : Room (dep + 1) A) {y : Str} {py spos : Pos} {value : Expr} (hsw : swaps T y py value = true) {i : Nat} (hi : slotS T y = some i) {e : IE} (h : compE m T value = some e)
    {n : Nat} {σ : Sg'} (hl : σ.l.length = T.names.length) {K : F → Sg' → Prop} (hw : wpE P n e σ.l σ.c fun v c1 => K .next ⟨σ.l.set i (some v), c1⟩) :
    OkS (model prog w) A hb pr env ⟨toLoc T.names σ.l, σ.c⟩ (exec (.Assign [.Name y py] value spos) env) (KS T.names K) := by
  obtain ⟨elt, gs, scope, pos, rfl⟩ := swaps_lc hsw
  cases m with
  | zero => cases h
  | succ m =>
    have ihE := snd (prog := prog) (w := w) (hb := hb) (P := P) (K₀ := K₀) (dep := dep) m
    obtain ⟨x, px, iter, ifs, fs, is, k, e', it, jt, rfl, hs, hfold, hr, he, hit, hj, rfl⟩ := lc_open (f := compE m) h
    obtain ⟨hs1, hk⟩ := swaps_yes E spos.line hsw
    obtain ⟨SO, _⟩ := comp_env E hs rfl
    obtain ⟨_, hslot⟩ := slotS_ok E hi
    refine OkS.post (K := fun f τ => ∃ v c', f = .next ∧ τ = ⟨put (toLoc T.names σ.l) y v, c'⟩ ∧ K .next ⟨σ.l.set i (some v), c'⟩) ?_ ?_
    · cases n with
      | zero => simp only [wpE] at hw
      | succ n =>
        simp only [wpE] at hw
        rcases hj with ⟨rfl, rfl⟩ | ⟨t, j, rfl, hj, rfl⟩
        · refine okAsgComp E R SO hfold hk hs1 (kk := k) (OkE.mono ((ihE T env A pr X E R iter it hit).1 _ _ _ _ hw) fun v c1 k1 => comp_rounds ihE X E R hs hr he (.inl ⟨rfl, rfl⟩) (n := n) ?_)
          obtain ⟨a1, xs, a2, a3, a4, I, a5, a6, a7⟩ := k1
          exact ⟨a1, xs, a2, a3, a4, I, a5, a6, fun acc c' q => ⟨(a7 acc c' q).1, (a7 acc c' q).2.1, _, _, rfl, rfl, (a7 acc c' q).2.2⟩⟩
        · refine okAsgComp E R SO hfold hk hs1 (kk := k) (OkE.mono ((ihE T env A pr X E R iter it hit).1 _ _ _ _ hw) fun v c1 k1 => comp_rounds ihE X E R hs hr he (.inr ⟨t, j, rfl, hj, rfl⟩) (n := n) ?_)
          obtain ⟨a1, xs, a2, a3, a4, I, a5, a6, a7⟩ := k1
          exact ⟨a1, xs, a2, a3, a4, I, a5, a6, fun acc c' q => ⟨(a7 acc c' q).1, (a7 acc c' q).2.1, _, _, rfl, rfl, (a7 acc c' q).2.2⟩⟩
    · rintro f _ ⟨v, c', rfl, rfl, k⟩
      exact ⟨toLoc T.names (σ.l.set i (some v)), fun z => look_set E.nd hl hslot v z, ⟨σ.l.set i (some v), c'⟩, by rw [List.length_set]; exact hl, rfl, k⟩

/- a statement is what its form says -/
noncomputable def SS (prog : Program) (w : World) (hb : Heap) (P : Pm) (T : Tb) (env : Env) (A : Around) (pr : List Nat) (st : Stmt) (ist : IS) : Prop :=
  ∀ (n : Nat) (σ : Sg') (K : F → Sg' → Prop), σ.l.length = T.names.length → wpS P pr n ist σ K → OkS (model prog w) A hb pr env ⟨toLoc T.names σ.l, σ.c⟩ (exec st env) (KS T.names K)
theorem SS.of {T : Tb} {env : Env} {A : Around} {pr : List Nat} {st : Stmt} {ist : IS} (h : ∀ (n : Nat) (σ : Sg') (K : F → Sg' → Prop), σ.l.length = T.names.length → wpS P pr (n + 1) ist σ K → OkS (model prog w) A hb pr env ⟨toLoc T.names σ.l, σ.c⟩ (exec st env) (KS T.names K)) : SS prog w hb P T env A pr st ist := fun n σ K hl hw => by
  cases n with
  | zero => simp only [wpS] at hw
  | succ n => exact h n σ K hl hw
theorem notComp {α : Type} {e : Expr} {a : Option α} {r : α} (h : (if isComp e then none else a) = some r) : isComp e = false ∧ a = some r := by
  cases q : isComp e with
  | true => rw [q] at h; cases h
  | false => rw [q] at h; exact ⟨rfl, h⟩

section
variable {m : Nat} {T : Tb} {env : Env} {A : Around} {pr : List Nat} (X : Cx0 prog w hb K₀ T P dep) (E : CxE env T) (R : Room (dep + 1) A)
include X E R
theorem ev' {a : Expr} {ia : IE} (ha : compE m T a = some ia) : SE prog w hb P T env A pr a ia := snd (prog := prog) (w := w) (hb := hb) (P := P) (K₀ := K₀) (dep := dep) m T env A pr X E R a ia ha
theorem unp_of {t1 t2 a b : Expr} {k k' : Nat} {p p' pos : Pos} {q1 q2 : Str × Pos} (h1 : nameP t1 = some q1) (h2 : nameP t2 = some q2) {ist : IS} (h : (if swap2 T q1.1 q1.2 q2.1 q2.2 a b then (do return IS.unp2 (← slotS T q1.1) (← slotS T q2.1) (← compE m T a) (← compE m T b)) else none) = some ist) :
    SS prog w hb P T env A pr (.Assign [.Tuple [t1, t2] k p] (.Tuple [a, b] k' p') pos) ist := by
  rw [nameP_eq h1, nameP_eq h2]
  obtain ⟨hsw, h⟩ := ifO h
  obtain ⟨i, j, e, f, h1, h2, h3, h4, rfl⟩ := bind4 h
  refine .of fun n σ K hl hw => ?_
  simp only [wpS] at hw
  exact okUnp2 E R h1 h2 hsw hl (OkE.mono ((ev' X E R h3).1 _ _ _ _ hw) fun u c1 k1 => (ev' X E R h4).1 _ _ _ _ k1)
theorem asg1_of {t value : Expr} {pos : Pos} {ist : IS} (h : asg1 (compE m T) T t value = some ist) : SS prog w hb P T env A pr (.Assign [t] value pos) ist := by
  unfold asg1 at h
  cases hn : nameP t with
  | some q =>
    rw [hn] at h
    rw [nameP_eq hn]
    have h : (if isComp value then (if swaps T q.1 q.2 value then (do return IS.asgC (← slotS T q.1) (← compE m T value)) else none) else (do return IS.asg (← slotS T q.1) (← compE m T value))) = some ist := h
    by_cases hc : isComp value = true
    · rw [if_pos hc] at h
      obtain ⟨hsw, h⟩ := ifO h
      obtain ⟨i, e, h1, h2, rfl⟩ := bind2 h
      refine .of fun n σ K hl hw => ?_
      simp only [wpS] at hw
      exact asgC_ok X E R hsw h1 h2 hl hw
    · rw [if_neg hc] at h
      obtain ⟨i, e, h1, h2, rfl⟩ := bind2 h
      refine .of fun n σ K hl hw => ?_
      simp only [wpS] at hw
      exact okAsg E h1 hl (by simpa using hc) ((ev' X E R h2).1 _ _ _ _ hw)
  | none =>
    rw [hn] at h
    cases ha : attrP t with
    | some q =>
      rw [ha] at h
      rw [attrP_eq ha]
      obtain ⟨hc, h⟩ := notComp h
      obtain ⟨i, e, h1, h2, rfl⟩ := bind2 (f := fun a d => IS.asgA a _ d) h
      refine .of fun n σ K hl hw => ?_
      simp only [wpS] at hw
      exact okAsgA X E hl hc (OkE.mono ((ev' X E R h2).1 _ _ _ _ hw) fun u c1 k1 => (ev' X E R h1).1 _ _ _ _ k1)
    | none =>
      rw [ha] at h
      have h : asgT (compE m T) T t value = some ist := h
      unfold asgT at h
      obtain ⟨es, hes, h1⟩ := bindO h
      obtain ⟨q, hq, h2⟩ := bindO h1
      obtain ⟨q1, hq1, h3⟩ := bindO h2
      obtain ⟨q2, hq2, h4⟩ := bindO h3
      obtain ⟨vs, hvs, h5⟩ := bindO h4
      obtain ⟨r, hr, h6⟩ := bindO h5
      clear h h1 h2 h3 h4 h5
      obtain ⟨k, p, rfl⟩ := tupP_eq hes
      obtain ⟨k', p', rfl⟩ := tupP_eq hvs
      rw [two_eq hq, two_eq hr]
      exact unp_of X E R hq1 hq2 h6
theorem asg2_of {t1 t2 value : Expr} {pos : Pos} {ist : IS} (h : asg2 (compE m T) T t1 t2 value = some ist) : SS prog w hb P T env A pr (.Assign [t1, t2] value pos) ist := by
  obtain ⟨q2, hq2, h⟩ := bindO h
  rw [nameP_eq hq2]
  obtain ⟨hc, h⟩ := notComp h
  cases hn : nameP t1 with
  | some q =>
    rw [hn] at h
    rw [nameP_eq hn]
    obtain ⟨i, j, e, h1, h2, h3, rfl⟩ := bind3 h
    refine .of fun n σ K hl hw => ?_
    simp only [wpS] at hw
    exact okAsg2 E h1 h2 hl hc ((ev' X E R h3).1 _ _ _ _ hw)
  | none =>
    rw [hn] at h
    obtain ⟨q, hq, h⟩ := bindO h
    rw [attrP_eq hq]
    obtain ⟨i, j, e, h1, h2, h3, rfl⟩ := bind3 (f := fun a b d => IS.asgA2 a _ b d) h
    refine .of fun n σ K hl hw => ?_
    simp only [wpS] at hw
    exact okAsgA2 X E h2 hl hc (OkE.mono ((ev' X E R h3).1 _ _ _ _ hw) fun u c1 k1 => (ev' X E R h1).1 _ _ _ _ k1)
theorem asg_of {ts : List Expr} {value : Expr} {pos : Pos} {ist : IS} (h : asgE (compE m T) T ts value = some ist) : SS prog w hb P T env A pr (.Assign ts value pos) ist := by
  match ts, h with
  | [t], h => exact asg1_of X E R h
  | [t1, t2], h => exact asg2_of X E R h
theorem ret_of {e : Option Expr} {pos : Pos} {ist : IS} (h : retE (compE m T) e = some ist) : SS prog w hb P T env A pr (.Return e pos) ist := by
  cases e with
  | none =>
    cases h
    refine .of fun n σ K hl hw => ?_
    simp only [wpS] at hw
    exact fun α s Q hs F hq => wpAny_Return_none (hq (.ret (.d .none)) _ α _ s.heap s.toks hs ⟨σ, hl, rfl, hw⟩ F (.refl ..) ⟨.none, rfl, .none⟩)
  | some e =>
    obtain ⟨e, h1, rfl⟩ := bind1 h
    refine .of fun n σ K hl hw => ?_
    simp only [wpS] at hw
    exact okRet hl ((ev' X E R h1).1 _ _ _ _ hw)
theorem assert_of {t : Expr} {msg : Option Expr} {pos : Pos} {ist : IS} (h : (if msg.isNone then (do return IS.assert (← compE m T t)) else none) = some ist) : SS prog w hb P T env A pr (.Assert t msg pos) ist := by
  obtain ⟨hm, h⟩ := ifO h
  rw [Option.isNone_iff_eq_none.mp hm]
  obtain ⟨e, h1, rfl⟩ := bind1 h
  refine .of fun n σ K hl hw => ?_
  simp only [wpS] at hw
  exact okAssert hl ((ev' X E R h1).2 _ _ _ _ hw)
theorem expr_of {e : Expr} {pos : Pos} {ist : IS} (h : (if isComp e then none else (do return IS.expr (← compE m T e))) = some ist) : SS prog w hb P T env A pr (.Expr e pos) ist := by
  obtain ⟨hc, h⟩ := notComp h
  obtain ⟨e, h1, rfl⟩ := bind1 h
  refine .of fun n σ K hl hw => ?_
  simp only [wpS] at hw
  exact okExpr E hl hc ((ev' X E R h1).1 _ _ _ _ hw)
theorem if_of (ihB : SndB prog w hb P K₀ dep m) {t : Expr} {a b : List Stmt} {pos : Pos} {ist : IS} (h : (do return IS.if_ (← compE m T t) (← compB m T a) (← compB m T b)) = some ist) : SS prog w hb P T env A pr (.If t a b pos) ist := by
  obtain ⟨t, a, b, h1, h2, h3, rfl⟩ := bind3 h
  refine .of fun n σ K hl hw => ?_
  simp only [wpS] at hw
  refine okIf (OkE.mono ((ev' X E R h1).2 _ _ _ _ hw) fun r c1 k1 => ⟨fun q => ?_, fun q => ?_⟩)
  · exact ihB T env A pr X E R _ _ h2 n ⟨σ.l, c1⟩ K hl (k1.1 q)
  · exact ihB T env A pr X E R _ _ h3 n ⟨σ.l, c1⟩ K hl (k1.2 q)
theorem while_of (ihB : SndB prog w hb P K₀ dep m) {t : Expr} {a b : List Stmt} {pos : Pos} {ist : IS} (h : (do return IS.while_ (← compE m T t) (← compB m T a) (← compB m T b)) = some ist) : SS prog w hb P T env A pr (.While t a b pos) ist := by
  obtain ⟨t, a, b, h1, h2, h3, rfl⟩ := bind3 h
  refine .of fun n σ K hl hw => ?_
  simp only [wpS] at hw
  obtain ⟨I, k, hI, turn⟩ := hw
  refine while_ok (fun k τ => ∃ σ : Sg', σ.l.length = T.names.length ∧ τ = ⟨toLoc T.names σ.l, σ.c⟩ ∧ I k σ) k ⟨σ, hl, rfl, hI⟩ ?_
  rintro k _ ⟨τ, hlτ, rfl, hIτ⟩
  refine OkE.mono ((ev' X E R h1).2 _ _ _ _ (turn k τ hIτ)) fun r c1 k1 => ⟨fun q => ?_, fun q => ?_⟩
  · refine OkS.mono (ihB T env A pr X E R _ _ h2 n ⟨τ.l, c1⟩ _ hlτ (k1.1 q)) fun f υ kk => ?_
    obtain ⟨σ', hl', rfl, kk⟩ := kk
    cases f with
    | next => obtain ⟨k', υ', hk', W, hI'⟩ := kk; exact ⟨k', _, hk', W.weak E.nd, υ', by rw [W.len]; exact hl', rfl, hI'⟩
    | cont => obtain ⟨k', υ', hk', W, hI'⟩ := kk; exact ⟨k', _, hk', W.weak E.nd, υ', by rw [W.len]; exact hl', rfl, hI'⟩
    | brk => exact ⟨σ', hl', rfl, kk⟩
    | ret v => exact ⟨σ', hl', rfl, kk⟩
  · exact ihB T env A pr X E R _ _ h3 n ⟨τ.l, c1⟩ K hlτ (k1.2 q)
theorem for_of (ihB : SndB prog w hb P K₀ dep m) {t it : Expr} {a b : List Stmt} {pos : Pos} {ist : IS} (h : forE (compE m T) (compB m T) T t it a b = some ist) : SS prog w hb P T env A pr (.For t it a b pos) ist := by
  obtain ⟨q, hq, h⟩ := bindO h
  rw [nameP_eq hq]
  obtain ⟨hc, h⟩ := ifO h
  obtain ⟨hb', hfold⟩ := Bool.and_eq_true_iff.mp hc
  rw [List.isEmpty_iff.mp hb']
  obtain ⟨i, it, a, h1, h2, h3, rfl⟩ := bind3 h
  refine .of fun n σ K hl hw => ?_
  simp only [wpS] at hw
  obtain ⟨hst, hslot⟩ := slotS_ok E h1
  refine for_ok E.eo R.handled hst (fold_ok hfold) (OkE.mono ((ev' X E R h2).1 _ _ _ _ hw) fun v c1 k1 => ?_)
  obtain ⟨hsm, xs, hxs, I, hI, turn, fin⟩ := k1
  refine ⟨hsm, xs, hxs, fun j τ => ∃ σ : Sg', σ.l.length = T.names.length ∧ τ = ⟨toLoc T.names σ.l, σ.c⟩ ∧ I j σ, ⟨⟨σ.l, c1⟩, hl, rfl, hI⟩, ?_, ?_⟩
  · rintro j d _ hd ⟨τ, hlτ, rfl, hIτ⟩
    obtain ⟨hlt, hb'⟩ := turn j d τ hd hIτ
    refine OkS.look (fun y => look_set E.nd hlτ hslot (.d d) y) ?_
    refine OkS.mono (ihB T env A pr X E R _ _ h3 n ⟨τ.l.set i (some (.d d)), τ.c⟩ _ (by rw [List.length_set]; exact hlτ) hb') fun f υ kk => ?_
    obtain ⟨σ', hl', rfl, kk⟩ := kk
    cases f with
    | next => obtain ⟨υ', W, hI'⟩ := kk; exact ⟨_, W.weak E.nd, υ', by rw [W.len]; exact hl', rfl, hI'⟩
    | cont => obtain ⟨υ', W, hI'⟩ := kk; exact ⟨_, W.weak E.nd, υ', by rw [W.len]; exact hl', rfl, hI'⟩
    | brk => exact ⟨σ', hl', rfl, kk⟩
    | ret v => exact ⟨σ', hl', rfl, kk⟩
  · rintro _ ⟨τ, hlτ, rfl, hIτ⟩
    exact ⟨τ, hlτ, rfl, fin τ hIτ⟩
end

theorem sndS_step {m : Nat} (ihS : SndS prog w hb P K₀ dep m) (ihB : SndB prog w hb P K₀ dep m) : SndS prog w hb P K₀ dep (m + 1) := by
  intro T env A pr X E R st ist h
  cases st with
  | Assign ts value p => exact asg_of X E R h
  | If t a b p => exact if_of X E R ihB h
  | While t a b p => exact while_of X E R ihB h
  | For t it a b p => exact for_of X E R ihB h
  | Return e p => exact ret_of X E R h
  | Assert t msg p => exact assert_of X E R h
  | Expr e p => exact expr_of X E R h
  | Continue p =>
    cases h
    refine SS.of fun n σ K hl hw => ?_
    simp only [wpS] at hw
    exact fun α s Q hs F hq => wpAny_Continue (hq .cont _ α _ s.heap s.toks hs ⟨σ, hl, rfl, hw⟩ F (.refl ..) rfl)
  | Break p =>
    cases h
    refine SS.of fun n σ K hl hw => ?_
    simp only [wpS] at hw
    exact fun α s Q hs F hq => wpAny_Break (hq .brk _ α _ s.heap s.toks hs ⟨σ, hl, rfl, hw⟩ F (.refl ..) rfl)
  | _ => cases h

theorem sndSB (m : Nat) : SndS prog w hb P K₀ dep m ∧ SndB prog w hb P K₀ dep m := by
  induction m with
  | zero => exact ⟨fun T env A pr X E R e ie h => (nomatch h), fun T env A pr X E R e ie h => (nomatch h)⟩
  | succ m ih => exact ⟨sndS_step ih.1 ih.2, sndB_step ih.1 ih.2⟩
end
end Mine
end
section
set_option linter.unusedVariables false
set_option maxRecDepth 100000
set_option maxHeartbeats 2000000
namespace Mine
open PySem PyProof.Rows PySem.W

noncomputable def retOf : F → V
  | .ret v => v
  | _ => .d .none
noncomputable def start (vs : List V) (n : Nat) : Sl := vs.map some ++ List.replicate n none
theorem toLoc_nones : ∀ (ns : List Str) (n : Nat), toLoc ns (List.replicate n none) = []
  | [], n => by cases n <;> rfl
  | _ :: ns, 0 => rfl
  | _ :: ns, n + 1 => toLoc_nones ns n
theorem toLoc_start : ∀ (ps rest : List Str) (vs : List V), vs.length = ps.length → toLoc (ps ++ rest) (start vs rest.length) = ps.zip vs
  | [], rest, [], _ => toLoc_nones rest rest.length
  | p :: ps, rest, v :: vs, h => by
    show (p, v) :: toLoc (ps ++ rest) (start vs rest.length) = (p, v) :: ps.zip vs
    rw [toLoc_start ps rest vs (by simpa using h)]

theorem FnOk.more {prog : Program} {w : World} {hb : Heap} {d d' : Nat} {a : Addr} {spec : Spec} (h : FnOk prog w hb d a spec) (hd : d ≤ d') : FnOk prog w hb d' a spec :=
  fun A r => h A (r.less hd)

structure FnT (hb : Heap) (a : Addr) (T : Tb) (ib : List IS) (ps rest : List Str) (fd : FuncData) (body : List Stmt) (m : Nat) : Prop where
  N : FnAt hb a fd body ps
  kinds : T.kinds = fd.scope.names
  names : T.names = ps ++ rest
  nd : T.names.Nodup
  cel : ∀ p ∈ fd.scope.names, p.2 = .cell → ∀ n, ((cellsFrom n fd.scope.names []).lookup p.1).isSome = true
  gl : fd.globals = mainGlobals
  bl : fd.builtins = builtinsNs
  comp : compB m T body = some ib

/- a def by the condition of its body; what the frame alone holds may be dropped at its end -/
theorem fn_by_body {prog : Program} {w : World} {hb : Heap} {K₀ : Frag} {P : Pm} {T : Tb} {dep m : Nat} {a : Addr} {fd : FuncData} {body : List Stmt} {ib : List IS} {ps rest : List Str} (N : FnT hb a T ib ps rest fd body m) (X : Cx0 prog w hb K₀ T P dep) {spec : Spec}
    (h : ∀ (vs : List V) (c : Cells) (K : V → Cells → Prop), spec vs c K → vs.length = ps.length ∧ ∃ n, wpB P (dom c) n ib ⟨start vs rest.length, c⟩
        (fun f τ => ∃ v' c', vW τ.c c' (retOf f) v' ∧ celW τ.c c' c' ∧ (∀ k ∈ dom c, k ∈ dom c') ∧ K v' c')) :
    ∀ (A : Around), Room (dep + 1) A → ∀ (L : Addr) (vs : List V) (c : Cells) (K : V → Cells → Prop), spec vs c K → EnvOk (callEnvC fd L a) → vs.length = ps.length ∧
      OkS (model prog w) A hb (dom c) (callEnvC fd L a) ⟨ps.zip vs, c⟩ (execs body (callEnvC fd L a))
        (fun f τ => (∀ k ∈ dom c, k ∈ dom τ.c) ∧ K (match f with | .ret v => v | _ => .d .none) τ.c) := by
  intro A r L vs c K sp EO
  obtain ⟨hl, n, hw⟩ := h vs c K sp
  refine ⟨hl, ?_⟩
  have E : CxE (callEnvC fd L a) T := by
    refine ⟨EO, N.gl, N.bl, fun x e => ?_, fun x e => ?_, fun x e => ?_, N.nd⟩
    · rw [N.kinds] at e; exact e
    · rw [N.kinds] at e; exact e
    · rw [N.kinds] at e
      refine ⟨e, Option.isSome_iff_exists.mp (N.cel _ (mem_of_lookup e) rfl _)⟩
  have := (sndSB (prog := prog) (w := w) (hb := hb) (P := P) (K₀ := K₀) (dep := dep) m).2 T _ A (dom c) X E r body ib N.comp n ⟨start vs rest.length, c⟩ _ (by rw [N.names]; simp [start, hl]) hw
  intro α s Q hs Fr hq
  rw [N.names, toLoc_start _ _ _ hl] at this
  refine this α s Q hs Fr fun f τ α' g h' tk ht k F' L' i => ?_
  obtain ⟨σ, hlσ, rfl, v', c', hv, hc, hd, hK⟩ := k
  have W : Weak (dom c) ⟨toLoc (ps ++ rest) σ.l, σ.c⟩ ⟨[], c'⟩ := ⟨trivial, hc, hd⟩
  have F2 := W.fst F'
  have L2 := W.leS L'
  have hdom : ∀ k ∈ dom c', k ∈ dom σ.c := fun k hk => celW_dom hc k hk
  have hK' : ∀ f' : F, retOf f' = v' → (∀ k ∈ dom c, k ∈ dom (⟨[], c'⟩ : Sg).c) ∧ K (match f' with | .ret v => v | _ => .d .none) c' := fun f' e => ⟨hd, by cases f' <;> (dsimp only [retOf] at e; rw [e]; exact hK)⟩
  cases f with
  | next =>
    have : v' = .d .none := by rcases hv with ⟨q, _⟩ | ⟨k, xs, q, _⟩; exact q; cases q
    exact hq .next ⟨[], c'⟩ α' g h' tk ht (hK' .next this.symm) F2 L2 i
  | brk =>
    have : v' = .d .none := by rcases hv with ⟨q, _⟩ | ⟨k, xs, q, _⟩; exact q; cases q
    exact hq .brk ⟨[], c'⟩ α' g h' tk ht (hK' .brk this.symm) F2 L2 i
  | cont =>
    have : v' = .d .none := by rcases hv with ⟨q, _⟩ | ⟨k, xs, q, _⟩; exact q; cases q
    exact hq .cont ⟨[], c'⟩ α' g h' tk ht (hK' .cont this.symm) F2 L2 i
  | ret v =>
    obtain ⟨g', rfl, ig⟩ := i
    exact hq (.ret v') ⟨[], c'⟩ α' _ h' tk ht (hK' (.ret v') rfl) F2 L2 ⟨g', rfl, vW_ok F'.toCst hdom hv ig⟩
theorem fn_by {prog : Program} {w : World} {hb : Heap} {K₀ : Frag} {P : Pm} {T : Tb} {dep m : Nat} {a : Addr} {fd : FuncData} {body : List Stmt} {ib : List IS} {ps rest : List Str} (N : FnT hb a T ib ps rest fd body m) (X : Cx0 prog w hb K₀ T P dep) {spec : Spec}
    (h : ∀ (vs : List V) (c : Cells) (K : V → Cells → Prop), spec vs c K → vs.length = ps.length ∧ ∃ n, wpB P (dom c) n ib ⟨start vs rest.length, c⟩
        (fun f τ => ∃ v' c', vW τ.c c' (retOf f) v' ∧ celW τ.c c' c' ∧ (∀ k ∈ dom c, k ∈ dom c') ∧ K v' c')) :
    FnOk prog w hb (dep + 2) a spec := fn_ok N.N (fn_by_body N X h)
theorem fn_by0 {prog : Program} {w : World} {hb : Heap} {K₀ : Frag} {P : Pm} {T : Tb} {dep m : Nat} {a : Addr} {fd : FuncData} {body : List Stmt} {ib : List IS} {x : Str} {ps rest : List Str} (N : FnT hb a T ib (x :: ps) rest fd body m) (hl : fd.scope.names.lookup x = some .local) (X : Cx0 prog w hb K₀ T P dep) {spec : Spec}
    (h : ∀ (vs : List V) (c : Cells) (K : V → Cells → Prop), spec vs c K → vs.length = (x :: ps).length ∧ ∃ n, wpB P (dom c) n ib ⟨start vs rest.length, c⟩
        (fun f τ => ∃ v' c', vW τ.c c' (retOf f) v' ∧ celW τ.c c' c' ∧ (∀ k ∈ dom c, k ∈ dom c') ∧ K v' c')) :
    FnOk0 prog w hb (dep + 2) a spec := fn_ok0 N.N hl (fn_by_body N X h)
end Mine
end
section
set_option linter.unusedVariables false
set_option maxRecDepth 100000
namespace Mine
open PySem PyProof.Rows PySem.W

noncomputable def fnData (K : Frag) (a : Addr) : Option FuncData := match K.lookup a with
  | some o => (match o.data with | .func fd => some fd | _ => none)
  | none => none
noncomputable def fnBody (K : Frag) (a : Addr) : List Stmt := match fnData K a with
  | some fd => (match fd.body with | .stmts b => b | _ => [])
  | none => []
noncomputable def fnKinds (K : Frag) (a : Addr) : List (Str × NameKind) := match fnData K a with
  | some fd => fd.scope.names
  | none => []
noncomputable def fnPars (K : Frag) (a : Addr) : List Str := match fnData K a with
  | some fd => fd.params.args.map (·.arg)
  | none => []
noncomputable def fnRest (K : Frag) (a : Addr) : List Str := ((fnKinds K a).filter fun p => (p.2 == .local || p.2 == .cell) && !(fnPars K a).contains p.1).map (·.1)
noncomputable def nsOf (K : Frag) (a : Addr) : Array DictEntry := match K.lookup a with
  | some o => (match o.data with | .dict es _ => es | _ => #[])
  | none => #[]
/- the table of a def's names -/
noncomputable def tbOf (K : Frag) (a : Addr) (G : List (Str × V)) (cells : List Pos) (mak : Str → Pos → Option (Addr × Nat × Nat)) (meth : List (Str × Addr)) : Tb where
  names := fnPars K a ++ fnRest K a
  kinds := fnKinds K a
  G := fun x => G.lookup x
  cell := fun p => if cells.any (fun q => q.line == p.line && q.col == p.col && q.endCol == p.endCol) then some (1000 * p.line + p.col) else none
  mak := mak
  meth := fun x => meth.lookup x

end Mine
end
section
set_option linter.unusedVariables false
set_option maxRecDepth 100000
namespace Mine
open PySem PyProof.Rows PySem.W PySem.StrLaws PySem.Builtin.Str

theorem item_nat {x : Str} {i c : Nat} (h : (sg x)[i]? = some c) : Txt.item x (i : Int) = ⟨#[c]⟩ := by
  have hi : i < x.cps.size := by
    obtain ⟨h1, _⟩ := List.getElem?_eq_some_iff.mp h
    simpa [sg] using h1
  unfold Txt.item Txt.charAt
  have e : seqIndex? (i : Int) x.length = some i := by
    unfold seqIndex?
    have h1 : ¬ ((i : Int) < 0) := by omega
    simp only [h1, if_false]
    have h2 : (decide (0 ≤ (i : Int)) && decide ((i : Int) < (x.length : Nat))) = true := by
      simp [Str.length]; omega
    rw [if_pos h2]; simp
  rw [e]
  have : x.cps[i]? = some c := by rw [← h]; simp [sg]
  simp [this]
theorem item_last {x : Str} {c : Nat} (h : (sg x).getLast? = some c) : Txt.item x (-1) = ⟨#[c]⟩ := by
  have hn : (sg x) ≠ [] := fun e => by rw [e] at h; cases h
  have hl : 0 < x.cps.size := by
    have := List.length_pos_iff.mpr hn
    simpa [sg] using this
  unfold Txt.item Txt.charAt
  have e : seqIndex? (-1) x.length = some (x.length - 1) := by
    unfold seqIndex?
    simp only [show ((-1 : Int) < 0) from by decide, if_true]
    have h2 : (decide (0 ≤ (-1 : Int) + (x.length : Nat)) && decide ((-1 : Int) + (x.length : Nat) < (x.length : Nat))) = true := by
      have : (x.length : Nat) = x.cps.size := rfl
      rw [this]
      simp only [Bool.and_eq_true, decide_eq_true_eq]; omega
    rw [if_pos h2]
    have : (x.length : Nat) = x.cps.size := rfl
    congr 1
    rw [this]; omega
  rw [e]
  have : x.cps[x.length - 1]? = some c := by
    rw [List.getLast?_eq_getElem?] at h
    simpa [sg, Str.length] using h
  simp [this]

theorem slice_nat (x : Str) {a b : Nat} (hab : a ≤ b) (ha : a ≤ (sg x).length) : Txt.slice x (some (a : Int)) (some (b : Int)) = ⟨(((sg x).drop a).take (b - a)).toArray⟩ := by
  have hlen : (sg x).length = x.length := by simp [sg, Str.length]
  by_cases hb : b ≤ x.length
  · exact sliceText_nat x hab hb
  · have e : strSliceIndices (some (a : Int)) (some (b : Int)) 1 x.length = strSliceIndices (some (a : Int)) (some ((x.length : Nat) : Int)) 1 x.length := by
      unfold strSliceIndices
      have h1 : ¬ ((b : Int) < 0) := by omega
      have h2 : ¬ (((x.length : Nat) : Int) < 0) := by omega
      simp only [h1, h2, if_false, show (1 : Int) > 0 from by decide, if_true]
      congr 1
      omega
    have e2 : Txt.slice x (some (a : Int)) (some (b : Int)) = Txt.slice x (some (a : Int)) (some ((x.length : Nat) : Int)) := by
      unfold Txt.slice; rw [e]
    rw [e2]
    refine (sliceText_nat x (by rw [← hlen]; exact ha) (Nat.le_refl _)).trans ?_
    congr 2
    show ((sg x).drop a).take (x.length - a) = ((sg x).drop a).take (b - a)
    rw [List.take_of_length_le (by rw [List.length_drop]; omega), List.take_of_length_le (by rw [List.length_drop]; omega)]

theorem occ_one (s sub : Str) (hi : Nat) : ∀ (l : List Nat) (free : Nat), (∀ i ∈ l, free ≤ i) →
    (forIn l ((#[] : Array Nat), free) (occBody s sub hi 1)).run.fst = (match l.find? (fun i => decide (i + sub.length ≤ hi) && subAt s sub i) with | some a => #[a] | none => #[])
  | [], free, _ => rfl
  | a :: l, free, hf => by
    rw [List.forIn_cons]
    unfold occBody
    have ha : free ≤ a := hf a (.head _)
    by_cases hc : a + sub.length ≤ hi ∧ subAt s sub a = true
    · rw [if_pos ⟨⟨⟨by simp, ha⟩, hc.1⟩, hc.2⟩]
      have e : ((a :: l).find? fun i => decide (i + sub.length ≤ hi) && subAt s sub i) = some a := by simp [List.find?_cons, hc.1, hc.2]
      rw [e]
      show (forIn l (#[a], a + sub.length) (occBody s sub hi 1)).run.fst = #[a]
      generalize a + sub.length = f
      clear hf e hc ha
      induction l generalizing f with
      | nil => rfl
      | cons b l ih =>
        rw [List.forIn_cons]
        unfold occBody
        rw [if_neg (fun h => by have := h.1.1.1; simp at this)]
        exact ih f
    · rw [if_neg (fun h => hc ⟨h.1.2, h.2⟩)]
      have e : ((a :: l).find? fun i => decide (i + sub.length ≤ hi) && subAt s sub i) = l.find? (fun i => decide (i + sub.length ≤ hi) && subAt s sub i) := by
        rw [List.find?_cons]
        have : (decide (a + sub.length ≤ hi) && subAt s sub a) = false := by
          cases h : (decide (a + sub.length ≤ hi) && subAt s sub a) with
          | false => rfl
          | true => simp only [Bool.and_eq_true, decide_eq_true_eq] at h; exact absurd h hc
        rw [this]
      rw [e]
      exact occ_one s sub hi l free (fun i h => hf i (.tail _ h))

/- the first line end from a place on -/
theorem find_nl {x : Str} {i : Nat} (h : ∃ j : Nat, i ≤ j ∧ (sg x)[j]? = some 10) : ∃ j : Nat, Txt.find3 x ⟨#[10]⟩ (i : Int) = (j : Int) ∧ i ≤ j ∧ (sg x)[j]? = some 10 ∧ ∀ m : Nat, i ≤ m → m < j → (sg x)[m]? ≠ some 10 := by
  unfold Txt.find3
  have e1 : fromIndex x.length (i : Int) = i := by
    unfold fromIndex
    rw [if_neg (by omega)]; omega
  rw [e1, occ_eq, occ_one x ⟨#[10]⟩ x.length _ i (fun m hm => by have := List.mem_range'_1.mp hm; omega)]
  cases hf : (List.range' i (x.length + 1 - i)).find? (fun i => decide (i + (⟨#[10]⟩ : Str).length ≤ x.length) && subAt x ⟨#[10]⟩ i) with
  | none =>
    obtain ⟨j, hj, hc⟩ := h
    have := List.find?_eq_none.mp hf j (by
      obtain ⟨hlt, _⟩ := List.getElem?_eq_some_iff.mp hc
      have : j < x.length := by simpa [sg, Str.length] using hlt
      exact List.mem_range'_1.mpr (by omega))
    have hc' := (subAt_one x 10 j).mpr hc
    simp only [Bool.and_eq_true, decide_eq_true_eq] at this
    exact absurd hc' this
  | some j =>
    obtain ⟨as, bs, hl, hall⟩ := (List.find?_eq_some_iff_append.mp hf).2
    have hp := (List.find?_eq_some_iff_append.mp hf).1
    simp only [Bool.and_eq_true, decide_eq_true_eq] at hp
    have hmem : j ∈ List.range' i (x.length + 1 - i) := List.mem_of_find?_eq_some hf
    refine ⟨j, rfl, (List.mem_range'_1.mp hmem).1, (subAt_one x 10 j).mp hp, fun m h1 h2 hc => ?_⟩
    have hm : m ∈ List.range' i (x.length + 1 - i) := List.mem_range'_1.mpr (by have := List.mem_range'_1.mp hmem; omega)
    rw [hl] at hm
    have hsort : (List.range' i (x.length + 1 - i)).Pairwise (· < ·) := List.pairwise_lt_range'
    rw [hl] at hsort
    rcases List.mem_append.mp hm with hm | hm
    · have := hall m hm
      have hc' := (subAt_one x 10 m).mpr hc
      simp only [Bool.not_eq_true', Bool.and_eq_false_iff, decide_eq_false_iff_not] at this
      rcases this with q | q
      · exact q hc'.1
      · rw [hc'.2] at q; cases q
    · have h3 := (List.pairwise_append.mp hsort).2.1
      rcases List.mem_cons.mp hm with rfl | hm
      · omega
      · have := (List.pairwise_cons.mp h3).1 m hm; omega
end Mine
end
section
set_option linter.unusedVariables false
set_option maxRecDepth 100000
set_option maxHeartbeats 4000000
namespace Mine
open PySem PyProof.Rows PySem.W

noncomputable def ibInB : List IS := [
  .asg 9 (.item (.v 1) (.v 7)),
  .asg 7 (.bin .Add (.v 7) (.c (.int 1))),
  .if_ (.cmp .Eq (.v 9) (.c (.str ⟨#[120]⟩))) [
    .cont] [],
  .if_ (.cmp .Eq (.slice (.v 1) (.bin .Sub (.v 7) (.c (.int 1))) (.bin .Add (.v 7) (.v 12))) (.v 10)) [
    .asg 7 (.bin .Add (.v 7) (.v 12)),
    .brk] [],
  .if_ (.cmp .Eq (.v 9) (.c (.str ⟨#[10]⟩))) [
    .asg 4 (.bin .Add (.v 4) (.c (.int 1))),
    .if_ (.cmp .Eq (.v 12) (.c (.int 0))) [
      .if_ (.cmp .Eq (.v 3) (.c (.int 0))) [
        .expr (.call (.v 6) [(.v 4)] none)] [],
      .brk] [],
    .cont] [],
  .if_ (.cmp .Eq (.v 9) (.c (.str ⟨#[92]⟩))) [
    .assert (.cmp .Lt (.v 7) (.v 8)),
    .if_ (.cmp .Eq (.item (.v 1) (.v 7)) (.c (.str ⟨#[10]⟩))) [
      .asg 4 (.bin .Add (.v 4) (.c (.int 1)))] [],
    .asg 7 (.bin .Add (.v 7) (.c (.int 1))),
    .cont] []]
noncomputable def ibInE : List IS := [
  .if_ (.cmp .Eq (.bin .Sub (.v 4) (.c (.int 1))) (.v 11)) [
    .asg 2 (.g (.d (.int 2)))] [
    .asg 2 (.g (.d (.int 3)))]]
noncomputable def inW : IS := .while_ (.cmp .Lt (.v 7) (.v 8)) ibInB ibInE
noncomputable def ibOutB : List IS := [
  .asg 9 (.item (.v 1) (.v 7)),
  .asg 7 (.bin .Add (.v 7) (.c (.int 1))),
  .if_ (.cmp .Eq (.v 9) (.c (.str ⟨#[120]⟩))) [
    .cont] [],
  .if_ (.cmp .Eq (.v 9) (.c (.str ⟨#[10]⟩))) [
    .asg 4 (.bin .Add (.v 4) (.c (.int 1))),
    .if_ (.cmp .Eq (.v 3) (.c (.int 0))) [
      .expr (.call (.v 6) [(.v 4)] none)] [],
    .cont] [],
  .if_ (.cmp .Eq (.v 9) (.c (.str ⟨#[40]⟩))) [
    .asg 3 (.bin .Add (.v 3) (.c (.int 1))),
    .cont] [],
  .if_ (.cmp .Eq (.v 9) (.c (.str ⟨#[41]⟩))) [
    .if_ (.v 3) [
      .asg 3 (.bin .Sub (.v 3) (.c (.int 1)))] [],
    .cont] [],
  .if_ (.or (.cmp .Eq (.v 9) (.c (.str ⟨#[34]⟩))) (.cmp .Eq (.v 9) (.c (.str ⟨#[39]⟩)))) [
    .asg 10 (.v 9),
    .if_ (.cmp .Eq (.slice (.v 1) (.bin .Sub (.v 7) (.c (.int 1))) (.bin .Add (.v 7) (.c (.int 2)))) (.bin .Mult (.v 10) (.c (.int 3)))) [
      .asg 10 (.bin .Mult (.v 10) (.c (.int 3)))] [],
    .asg 11 (.v 4),
    .asg 12 (.bin .Sub (.call (.g (.bi .len)) [(.v 10)] none) (.c (.int 1))),
    .asg 7 (.bin .Add (.v 7) (.v 12)),
    inW,
    .cont] [],
  .if_ (.cmp .Eq (.v 9) (.c (.str ⟨#[35]⟩))) [
    .asg 7 (.meth (.v 1) .find [(.c (.str ⟨#[10]⟩)), (.v 7)]),
    .assert (.cmp .GtE (.v 7) (.c (.int 0))),
    .cont] [],
  .assert (.cmp .Eq (.v 9) (.c (.str ⟨#[92]⟩))),
  .assert (.cmp .Lt (.v 7) (.v 8)),
  .if_ (.cmp .Eq (.item (.v 1) (.v 7)) (.c (.str ⟨#[10]⟩))) [
    .asg 4 (.bin .Add (.v 4) (.c (.int 1))),
    .if_ (.cmp .Eq (.bin .Add (.v 7) (.c (.int 1))) (.v 8)) [
      .asg 2 (.g (.d (.int 1)))] []] [],
  .asg 7 (.bin .Add (.v 7) (.c (.int 1)))]
noncomputable def outW : IS := .while_ (.cmp .Lt (.v 7) (.v 8)) ibOutB []
noncomputable def ibStudy (td g b : Nat) : List IS := [
  .if_ (.cmp .GtE (.attr (.v 0) (Str.ofString "study_level")) (.c (.int 1))) [
    .ret none] [],
  .asgA (.v 0) (Str.ofString "study_level") (.c (.int 1)),
  .asg 1 (.attr (.v 0) (Str.ofString "code")),
  .asg 1 (.trans (.v 1) td),
  .asg 1 (.repl (.v 1) ⟨#[120, 120, 120, 120, 120, 120, 120, 120]⟩ ⟨#[120]⟩),
  .asg 1 (.repl (.v 1) ⟨#[120, 120, 120, 120]⟩ ⟨#[120]⟩),
  .asg 1 (.repl (.v 1) ⟨#[120, 120]⟩ ⟨#[120]⟩),
  .asg 1 (.repl (.v 1) ⟨#[120, 120]⟩ ⟨#[120]⟩),
  .asg 1 (.repl (.v 1) ⟨#[10, 120]⟩ ⟨#[10]⟩),
  .asg 2 (.g (.d (.int 0))),
  .asg2 3 4 (.c (.int 0)),
  .asgA2 (.v 0) (Str.ofString "goodlines") 5 (.lst [(.c (.int 0))] (some g)),
  .asg 6 (.bnd (.v 5) b),
  .unp2 7 8 (.c (.int 0)) (.call (.g (.bi .len)) [(.v 1)] none),
  outW,
  .if_ (.and (.cmp .NotEq (.v 2) (.g (.d (.int 2)))) (.and (.cmp .NotEq (.v 2) (.g (.d (.int 3)))) (.cmp .Gt (.v 3) (.c (.int 0))))) [
    .asg 2 (.g (.d (.int 4)))] [],
  .asgA (.v 0) (Str.ofString "continuation") (.v 2),
  .assert (.cmp .Eq (.cmp .Eq (.v 2) (.g (.d (.int 0)))) (.cmp .Eq (.item (.v 5) (.c (.int (-1)))) (.v 4))),
  .if_ (.cmp .NotEq (.item (.v 5) (.c (.int (-1)))) (.v 4)) [
    .expr (.call (.v 6) [(.v 4)] none)] []]

/- the cells while the text is read -/
structure Cel (Wc : List Nat → Cells) (k g b : Nat) (pr : List Nat) : Prop where
  b_ : ∀ gd, cget (Wc gd) b = some (.bound "list.append" g)
  g_ : ∀ gd, cget (Wc gd) g = some (.list (gd.map fun m : Nat => D.int m))
  set : ∀ gd m, cset (Wc gd) g (.list ((gd.map fun m : Nat => D.int m) ++ [.int (m : Nat)])) = Wc (gd ++ [m])
  wf : ∀ gd, celW (Wc gd) (Wc gd) (Wc gd)
  pr : ∀ gd, ∀ j ∈ pr, j ∈ dom (Wc gd)
  k_ : ∀ gd, k ∈ dom (Wc gd)

noncomputable def slots (k g b : Nat) (x : Str) (ct : Int) (lv ln i n : Nat) (r : List (Option V)) : Sl :=
  some (.obj k) :: some (.d (.str x)) :: some (.d (.int ct)) :: some (.d (.int lv)) :: some (.d (.int ln)) :: some (.obj g) :: some (.obj b) :: some (.d (.int i)) :: some (.d (.int n)) :: r

theorem str1 (a b : Nat) : ((⟨#[a]⟩ : Str) == ⟨#[b]⟩) = decide (a = b) := by
  by_cases h : a = b
  · subst h; simp
  · simp only [h, decide_false]
    exact beq_eq_false_iff_ne.mpr fun e => h (by injection e with e; injection e with e; injection e)

section
variable {P : Pm} {pr : List Nat} {k g b : Nat} {Wc : List Nat → Cells} {x : Str}

/- what the reader knows in a string -/
noncomputable def InS (x : Str) (d : Bool) (w f i : Nat) (s : St) : Prop :=
  s = scan st0 ((sg x).take i) ∧ i ≤ (sg x).length ∧
  ((w = 0 ∧ (s.md = .S1 d f ∨ (s.md = .Q1 d f ∧ ¬ ((sg x)[i]? = some (qc d) ∧ (sg x)[i + 1]? = some (qc d))))) ∨
   (w = 2 ∧ (s.md = .S3 d 0 f ∨ (s.md = .S3 d 1 f ∧ ¬ ((sg x)[i]? = some (qc d) ∧ (sg x)[i + 1]? = some (qc d))) ∨ (s.md = .S3 d 2 f ∧ (sg x)[i]? ≠ some (qc d)))))
/- what the reader knows outside of strings -/
noncomputable def Out (x : Str) (i : Nat) (s : St) : Prop :=
  s = scan st0 ((sg x).take i) ∧ i ≤ (sg x).length ∧ (∀ c, (sg x)[i]? = some c → step s c = stepN s c) ∧ (i = (sg x).length → s.md = .N ∨ s.md = .Nb) 
noncomputable def quoteS (d : Bool) (w : Nat) : Str := if w = 0 then ⟨#[qc d]⟩ else ⟨#[qc d, qc d, qc d]⟩

noncomputable def Signs (x : Str) : Prop := ∀ c ∈ sg x, c = 10 ∨ c = 34 ∨ c = 35 ∨ c = 39 ∨ c = 40 ∨ c = 41 ∨ c = 92 ∨ c = 120

theorem scan_take {i c : Nat} (h : (sg x)[i]? = some c) : scan st0 ((sg x).take (i + 1)) = step (scan st0 ((sg x).take i)) c := by
  have e : (sg x).take (i + 1) = (sg x).take i ++ [c] := by rw [List.take_add_one, h]; rfl
  rw [e, scan_append]; rfl

end
end Mine
end
section
set_option linter.unusedVariables false
set_option maxRecDepth 100000
set_option maxHeartbeats 4000000
namespace Mine
open PySem PyProof.Rows PySem.W
section
variable {x : Str}

theorem lt_of_get {l : List Nat} {i c : Nat} (h : l[i]? = some c) : i + 1 ≤ l.length := (List.getElem?_eq_some_iff.mp h).1
theorem qc_cases (d : Bool) : qc d = 34 ∨ qc d = 39 := by cases d <;> simp [qc]
noncomputable def same (s s' : St) : Prop := s'.lv = s.lv ∧ s'.ln = s.ln ∧ s'.gd = s.gd

variable {d : Bool} {w f i c : Nat} {s : St}
theorem inS_plain (h : InS x d w f i s) (hc : (sg x)[i]? = some c) (h1 : c ≠ qc d) (h2 : c ≠ 10) (h3 : c ≠ 92) : ∃ s', InS x d w f (i + 1) s' ∧ same s s' := by
  obtain ⟨rfl, hi, h⟩ := h
  refine ⟨_, ⟨(scan_take hc).symm, lt_of_get hc, ?_⟩, ?_⟩
  · rcases h with ⟨hw, h | ⟨h, _⟩⟩ | ⟨hw, h | ⟨h, _⟩ | ⟨h, _⟩⟩
    · exact .inl ⟨hw, .inl (by simp [step, h, stepS, h1, h2, h3])⟩
    · exact .inl ⟨hw, .inl (by simp [step, h, stepS, h1, h2, h3])⟩
    · exact .inr ⟨hw, .inl (by simp [step, h, h1, h2, h3])⟩
    · exact .inr ⟨hw, .inl (by simp [step, h, h1, h2, h3])⟩
    · exact .inr ⟨hw, .inl (by simp [step, h, h1, h2, h3])⟩
  · unfold same
    rcases h with ⟨hw, h | ⟨h, _⟩⟩ | ⟨hw, h | ⟨h, _⟩ | ⟨h, _⟩⟩ <;> simp [step, h, stepS, h1, h2, h3]

theorem inS_quote (h : InS x d 2 f i s) (hc : (sg x)[i]? = some (qc d)) (h1 : ¬ ((sg x)[i + 1]? = some (qc d) ∧ (sg x)[i + 2]? = some (qc d))) : ∃ s', InS x d 2 f (i + 1) s' ∧ same s s' := by
  obtain ⟨rfl, hi, h⟩ := h
  refine ⟨_, ⟨(scan_take hc).symm, lt_of_get hc, ?_⟩, ?_⟩
  · rcases h with ⟨hw, _⟩ | ⟨hw, h | ⟨h, q⟩ | ⟨h, q⟩⟩
    · cases hw
    · exact .inr ⟨rfl, .inr (.inl ⟨by simp [step, h], h1⟩)⟩
    · exact .inr ⟨rfl, .inr (.inr ⟨by simp [step, h], fun e => q ⟨hc, e⟩⟩)⟩
    · exact absurd hc q
  · unfold same
    rcases h with ⟨hw, _⟩ | ⟨hw, h | ⟨h, q⟩ | ⟨h, q⟩⟩
    · cases hw
    · simp [step, h]
    · simp [step, h]
    · exact absurd hc q

theorem inS_close2 (h : InS x d 2 f i s) (hc : (sg x)[i]? = some (qc d)) (h1 : (sg x)[i + 1]? = some (qc d)) (h2 : (sg x)[i + 2]? = some (qc d)) : ∃ s', Out x (i + 3) s' ∧ s'.md ≠ .Nb ∧ same s s' := by
  obtain ⟨rfl, hi, h⟩ := h
  have e : scan st0 ((sg x).take (i + 3)) = { scan st0 ((sg x).take i) with md := .N } := by
    rw [scan_take h2, scan_take h1, scan_take hc]
    rcases h with ⟨hw, _⟩ | ⟨hw, h | ⟨h, q⟩ | ⟨h, q⟩⟩
    · cases hw
    · simp [step, h]
    · exact absurd ⟨hc, h1⟩ q
    · exact absurd hc q
  refine ⟨_, ⟨rfl, lt_of_get h2, fun c hc => by rw [e]; rfl, fun _ => .inl (by rw [e])⟩, by rw [e]; simp, by rw [e]; exact ⟨rfl, rfl, rfl⟩⟩

theorem inS_close0 (hl : ∀ i c, (sg x)[i]? = some c → i + 1 = (sg x).length → c = 10) (h : InS x d 0 f i s) (hc : (sg x)[i]? = some (qc d)) : ∃ s', Out x (i + 1) s' ∧ s'.md ≠ .Nb ∧ same s s' := by
  obtain ⟨rfl, hi, h⟩ := h
  have hq : qc d ≠ 10 := by rcases qc_cases d with q | q <;> rw [q] <;> decide
  rcases h with ⟨hw, h | ⟨h, q⟩⟩ | ⟨hw, _⟩
  · have e : scan st0 ((sg x).take (i + 1)) = { scan st0 ((sg x).take i) with md := .N } := by rw [scan_take hc]; simp [step, h, stepS]
    exact ⟨_, ⟨rfl, lt_of_get hc, fun c hc => by rw [e]; rfl, fun q => absurd (hl i _ hc q) hq⟩, by rw [e]; simp, by rw [e]; exact ⟨rfl, rfl, rfl⟩⟩
  · have e : scan st0 ((sg x).take (i + 1)) = { scan st0 ((sg x).take i) with md := .Q2 d f } := by rw [scan_take hc]; simp [step, h]
    refine ⟨_, ⟨rfl, lt_of_get hc, fun c hc' => ?_, fun q => absurd (hl i _ hc q) hq⟩, by rw [e]; simp, by rw [e]; exact ⟨rfl, rfl, rfl⟩⟩
    rw [e]
    have : c ≠ qc d := fun e => q ⟨hc, e ▸ hc'⟩
    simp [step, this, stepN, nl]
  · cases hw

theorem inS_nl0 (h : InS x d 0 f i s) (hc : (sg x)[i]? = some 10) : ∃ s', Out x (i + 1) s' ∧ s' = nl s := by
  obtain ⟨rfl, hi, h⟩ := h
  have hq : ¬ 10 = qc d := by rcases qc_cases d with q | q <;> rw [q] <;> decide
  have e : scan st0 ((sg x).take (i + 1)) = nl (scan st0 ((sg x).take i)) := by
    rw [scan_take hc]
    rcases h with ⟨hw, h | ⟨h, q⟩⟩ | ⟨hw, _⟩
    · simp [step, h, stepS, hq]
    · simp [step, h, stepS, hq]
    · cases hw
  exact ⟨_, ⟨e.symm, lt_of_get hc, fun c hc => rfl, fun _ => .inl rfl⟩, rfl⟩

theorem inS_nl2 (h : InS x d 2 f i s) (hc : (sg x)[i]? = some 10) : ∃ s', InS x d 2 f (i + 1) s' ∧ s'.lv = s.lv ∧ s'.ln = s.ln + 1 ∧ s'.gd = s.gd := by
  obtain ⟨rfl, hi, h⟩ := h
  have hq : ¬ 10 = qc d := by rcases qc_cases d with q | q <;> rw [q] <;> decide
  have e : scan st0 ((sg x).take (i + 1)) = { scan st0 ((sg x).take i) with md := .S3 d 0 f, ln := (scan st0 ((sg x).take i)).ln + 1 } := by
    rw [scan_take hc]
    rcases h with ⟨hw, _⟩ | ⟨hw, h | ⟨h, q⟩ | ⟨h, q⟩⟩
    · cases hw
    · simp [step, h, hq]
    · simp [step, h, hq]
    · simp [step, h, hq]
  exact ⟨_, ⟨e.symm, lt_of_get hc, .inr ⟨rfl, .inl rfl⟩⟩, rfl, rfl, rfl⟩

theorem inS_esc (h : InS x d w f i s) (hc : (sg x)[i]? = some 92) {e : Nat} (he : (sg x)[i + 1]? = some e) : ∃ s', InS x d w f (i + 2) s' ∧ s'.lv = s.lv ∧ s'.ln = (if e = 10 then s.ln + 1 else s.ln) ∧ s'.gd = s.gd := by
  obtain ⟨rfl, hi, h⟩ := h
  have hq : ¬ 92 = qc d := by rcases qc_cases d with q | q <;> rw [q] <;> decide
  refine ⟨scan st0 ((sg x).take (i + 2)), ⟨rfl, lt_of_get he, ?_⟩, ?_⟩
  · rw [scan_take he, scan_take hc]
    rcases h with ⟨hw, h | ⟨h, _⟩⟩ | ⟨hw, h | ⟨h, _⟩ | ⟨h, _⟩⟩
    · refine .inl ⟨hw, .inl ?_⟩; simp [step, h, stepS, hq]; split <;> rfl
    · refine .inl ⟨hw, .inl ?_⟩; simp [step, h, stepS, hq]; split <;> rfl
    · refine .inr ⟨hw, .inl ?_⟩; simp [step, h, hq]; split <;> rfl
    · refine .inr ⟨hw, .inl ?_⟩; simp [step, h, hq]; split <;> rfl
    · refine .inr ⟨hw, .inl ?_⟩; simp [step, h, hq]; split <;> rfl
  · rw [scan_take he, scan_take hc]
    rcases h with ⟨hw, h | ⟨h, _⟩⟩ | ⟨hw, h | ⟨h, _⟩ | ⟨h, _⟩⟩ <;> simp [step, h, stepS, hq] <;> split <;> simp [*]

/- a string is left open at the text's end -/
noncomputable def openAt : Md → Option Nat
  | .Q1 _ f | .S1 _ f | .S1e _ f | .S3 _ _ f | .S3e _ f => some f
  | _ => none
theorem inS_open (h : InS x d w f i s) : openAt s.md = some f := by
  rcases h.2.2 with ⟨hw, h | ⟨h, _⟩⟩ | ⟨hw, h | ⟨h, _⟩ | ⟨h, _⟩⟩ <;> rw [h] <;> rfl
end
end Mine
end
section
set_option linter.unusedVariables false
set_option maxRecDepth 100000
set_option maxHeartbeats 4000000
namespace Mine
open PySem PyProof.Rows PySem.W
section
variable {P : Pm} {pr : List Nat} {k g b : Nat} {Wc : List Nat → Cells} {x : Str}

theorem lg0 (a : Option V) (l : Sl) : lget (a :: l) 0 = a := rfl
theorem lgs (a : Option V) (l : Sl) (i : Nat) : lget (a :: l) (i + 1) = lget l i := rfl

theorem wk_in (C : Cel Wc k g b pr) {x : Str} {ct : Int} {lv ln i n : Nat} {ch : Option V} {gd : List Nat} {q f w : D} :
    Wk pr ⟨slots k g b x ct lv ln i n [ch, some (.d q), some (.d f), some (.d w)], Wc gd⟩ ⟨slots k g b x ct lv ln i n [none, some (.d q), some (.d f), some (.d w)], Wc gd⟩ := by
  refine ⟨?_, rfl, C.wf gd, C.pr gd⟩
  have hg : g ∈ dom (Wc gd) := cget_mem (C.g_ gd)
  have hb : b ∈ dom (Wc gd) := cget_mem (C.b_ gd)
  have hk := C.k_ gd
  simp only [slots, slW, lg0, lgs, vW, vOk, Option.some.injEq, exists_eq_left', true_and]
  simp [hg, hb, hk]

theorem sl_str {c : Cells} {x : Str} {a e : Int} {K : D → Prop} : sliceK c (.d (.str x)) (.d (.int a)) (.d (.int e)) K = (x.length ≤ big ∧ K (.str (Txt.slice x (some a) (some e)))) := rfl
theorem push_ok (C : Cel Wc k g b pr) {gd : List Nat} {m : Nat} {kk : Option Nat} {K : V → Cells → Prop} : callK P (Wc gd) kk (.obj b) [.d (.int ((m : Int) + 1))] K = (gd.length ≤ big ∧ K (.d .none) (Wc (gd ++ [m + 1]))) := by
  unfold callK
  dsimp only
  rw [C.b_ gd]
  dsimp only
  rw [C.g_ gd]
  dsimp only
  rw [show ((m : Int) + 1) = ((m + 1 : Nat) : Int) from rfl, C.set gd (m + 1)]
  simp
theorem cmp_str {c : Cells} {x y : Str} {K : Bool → Prop} : cmpK c .Eq (.d (.str x)) (.d (.str y)) K = K (x == y) := rfl
theorem cmp_int {c : Cells} {x y : Int} {K : Bool → Prop} : cmpK c .Eq (.d (.int x)) (.d (.int y)) K = K (x == y) := rfl
theorem cmp_lt {c : Cells} {x y : Int} {K : Bool → Prop} : cmpK c .Lt (.d (.int x)) (.d (.int y)) K = K (decide (x < y)) := rfl
theorem item_str {c : Cells} {x : Str} {i : Int} {K : D → Prop} : itemK c (.d (.str x)) (.d (.int i)) K = (-(x.length : Int) ≤ i ∧ i < x.length ∧ x.length ≤ big ∧ K (.str (Txt.item x i))) := rfl
theorem bin_add {c : Cells} {x y : Int} {K : D → Prop} : binK c .Add (.d (.int x)) (.d (.int y)) K = K (.int (x + y)) := rfl
theorem bin_sub {c : Cells} {x y : Int} {K : D → Prop} : binK c .Sub (.d (.int x)) (.d (.int y)) K = K (.int (x - y)) := rfl

theorem gd_len (s : St) (l : List Nat) : (scan s l).gd.length ≤ s.gd.length + l.length := by
  induction l generalizing s with
  | nil => exact Nat.le_refl _
  | cons c l ih =>
    have h1 := ih (step s c)
    have h2 : (step s c).gd.length ≤ s.gd.length + 1 := by
      have hn : (nl s).gd.length ≤ s.gd.length + 1 := by unfold nl; dsimp only; split <;> simp
      have hN : (stepN s c).gd.length ≤ s.gd.length + 1 := by
        unfold stepN
        repeat' split
        all_goals first | exact hn | exact Nat.le_succ _
      have hS : ∀ d f, (stepS s d f c).gd.length ≤ s.gd.length + 1 := fun d f => by
        unfold stepS
        repeat' split
        all_goals first | exact hn | exact Nat.le_succ _
      unfold step
      split <;> first | exact hN | exact hS _ _ | skip
      all_goals repeat' split
      all_goals first | exact hN | exact hS _ _ | exact hn | exact Nat.le_succ _
    show (scan (step s c) l).gd.length ≤ _
    simp only [List.length_cons]; omega
theorem gd_big (hbig : (sg x).length + 5 ≤ big) {i : Nat} : (scan st0 ((sg x).take i)).gd.length ≤ big := by
  have := gd_len st0 ((sg x).take i)
  have h2 : ((sg x).take i).length ≤ (sg x).length := by rw [List.length_take]; exact Nat.min_le_right _ _
  have h3 : st0.gd.length = 1 := rfl
  omega

/- a window of three -/
theorem win3 {i : Nat} {q : Nat} : ((⟨(((sg x).drop i).take 3).toArray⟩ : Str) == ⟨#[q, q, q]⟩) = true ↔ (sg x)[i]? = some q ∧ (sg x)[i + 1]? = some q ∧ (sg x)[i + 2]? = some q := by
  have e : ∀ j, (sg x)[i + j]? = ((sg x).drop i)[j]? := fun j => by rw [List.getElem?_drop]
  rw [show (sg x)[i]? = ((sg x).drop i)[0]? from e 0, e 1, e 2, beq_iff_eq]
  generalize (sg x).drop i = l
  constructor
  · intro h
    have h' : l.take 3 = [q, q, q] := by
      injection h with h
      have := congrArg Array.toList h
      simpa using this
    rcases l with _ | ⟨a, _ | ⟨b, _ | ⟨c, l⟩⟩⟩
    · cases h'
    · cases h'
    · cases h'
    · have h'' : [a, b, c] = [q, q, q] := h'
      cases h''; exact ⟨rfl, rfl, rfl⟩
  · rintro ⟨h1, h2, h3⟩
    rcases l with _ | ⟨a, _ | ⟨b, _ | ⟨c, l⟩⟩⟩
    · cases h1
    · cases h2
    · cases h3
    · cases h1; cases h2; cases h3; rfl
theorem win1 {i c q : Nat} (hc : (sg x)[i]? = some c) : ((⟨(((sg x).drop i).take 1).toArray⟩ : Str) == ⟨#[q]⟩) = decide (c = q) := by
  have e : ((sg x).drop i)[0]? = some c := by rw [List.getElem?_drop]; exact hc
  generalize (sg x).drop i = l at e
  cases l with
  | nil => cases e
  | cons a l => cases e; exact str1 _ _

noncomputable def EndK (k g b : Nat) (Wc : List Nat → Cells) (x : Str) (i : Nat) (r : List (Option V)) (K : F → Sg' → Prop) : Prop :=
  ∀ i' s' (ct' : Int) ch, i ≤ i' → (Out x i' s' ∧ s'.md ≠ .Nb ∧ ct' = 0 ∨ i' = (sg x).length ∧ s' = scan st0 (sg x) ∧ ∃ f, openAt s'.md = some f ∧ ct' = if s'.ln = f + 1 then 2 else 3) →
    K .next ⟨slots k g b x ct' s'.lv s'.ln i' (sg x).length (ch :: r), Wc s'.gd⟩

theorem inner_ok (C : Cel Wc k g b pr) (hl : ∀ i c, (sg x)[i]? = some c → i + 1 = (sg x).length → c = 10) (hbig : (sg x).length + 5 ≤ big) {d : Bool} {w f i₀ n : Nat} {s₀ : St} (hw : w = 0 ∨ w = 2) (h₀ : InS x d w f i₀ s₀) {ch₀ : Option V} {K : F → Sg' → Prop}
    (hK : EndK k g b Wc x i₀ [some (.d (.str (quoteS d w))), some (.d (.int f)), some (.d (.int w))] K) :
    wpS P pr (n + 30) (.while_ (.cmp .Lt (.v 7) (.v 8)) ibInB ibInE) ⟨slots k g b x 0 s₀.lv s₀.ln i₀ (sg x).length [ch₀, some (.d (.str (quoteS d w))), some (.d (.int f)), some (.d (.int w))], Wc s₀.gd⟩ K := by
  have hlen : (sg x).length = x.length := by simp [sg, Str.length]
  have hxb : x.length ≤ big := by omega
  simp only [wpS]
  refine ⟨fun m τ => ∃ i s ch, m = (sg x).length - i ∧ i₀ ≤ i ∧ InS x d w f i s ∧ τ = ⟨slots k g b x 0 s.lv s.ln i (sg x).length [ch, some (.d (.str (quoteS d w))), some (.d (.int f)), some (.d (.int w))], Wc s.gd⟩, _, ⟨i₀, s₀, ch₀, rfl, Nat.le_refl _, h₀, rfl⟩, ?_⟩
  rintro _ _ ⟨i, s, ch, rfl, hi0, h, rfl⟩
  simp only [wpT, wpE, slots, lg0, lgs, cmp_lt]
  refine ⟨fun hlt => ?_, fun hge => ?_⟩
  · have hlt : i < (sg x).length := by have := of_decide_eq_true hlt; omega
    obtain ⟨c, hc⟩ : ∃ c, (sg x)[i]? = some c := ⟨_, List.getElem?_eq_getElem hlt⟩
    have hi2 := item_nat hc
    have again : ∀ i' s' ch (lv ln : Nat) gd, i < i' → InS x d w f i' s' → lv = s'.lv → ln = s'.ln → gd = s'.gd → ∃ k' υ', k' < (sg x).length - i ∧ Wk pr ⟨slots k g b x 0 lv ln i' (sg x).length [ch, some (.d (.str (quoteS d w))), some (.d (.int f)), some (.d (.int w))], Wc gd⟩ υ' ∧
        ∃ i s ch, k' = (sg x).length - i ∧ i₀ ≤ i ∧ InS x d w f i s ∧ υ' = ⟨slots k g b x 0 s.lv s.ln i (sg x).length [ch, some (.d (.str (quoteS d w))), some (.d (.int f)), some (.d (.int w))], Wc s.gd⟩ := by
      rintro i' s' ch _ _ _ h1 h2 rfl rfl rfl
      exact ⟨_, _, by have := h2.2.1; omega, wk_in C, i', s', none, rfl, by omega, h2, rfl⟩
    have hgd : s.gd.length ≤ big := by rw [h.1]; exact gd_big hbig
    have hsl : Txt.slice x (some ((i : Int) + 1 - 1)) (some ((i : Int) + 1 + (w : Int))) = ⟨(((sg x).drop i).take (w + 1)).toArray⟩ := by
      have := slice_nat x (a := i) (b := i + 1 + w) (by omega) (by omega)
      rw [show (i : Int) + 1 - 1 = (i : Int) by omega, show ((i : Int) + 1 + (w : Int)) = ((i + 1 + w : Nat) : Int) by omega, this]
      congr 3; omega
    simp only [ibInB, wpB, wpS, wpE, wpT, wpEs, lg0, lgs, item_str, hi2, bin_add, bin_sub, cmp_str, cmp_int, cmp_lt, sl_str, List.set, str1, push_ok C]
    refine ⟨by omega, by omega, hxb, fun h120 => ?_, fun h120 => ⟨hxb, fun hq => ?_, fun hq => ⟨fun h10 => ?_, fun h10 => ⟨fun h92 => ?_, fun h92 => ?_⟩⟩⟩⟩
    · have hc' := of_decide_eq_true h120
      obtain ⟨s', h1, h2, h3, h4⟩ := inS_plain h hc (by rcases qc_cases d with q | q <;> omega) (by omega) (by omega)
      exact again (i + 1) s' _ s.lv s.ln s.gd (by omega) h1 h2.symm h3.symm h4.symm
    · rw [hsl] at hq
      rcases hw with rfl | rfl
      · have hc' : c = qc d := of_decide_eq_true ((win1 hc).symm.trans hq)
        subst hc'
        obtain ⟨s', h1, hN, h2, h3, h4⟩ := inS_close0 hl h hc
        have := hK (i + 1) s' 0 (some (.d (.str ⟨#[qc d]⟩))) (by omega) (.inl ⟨h1, hN, rfl⟩)
        rw [h2, h3, h4] at this
        exact this
      · obtain ⟨q1, q2, q3⟩ := win3.mp hq
        obtain ⟨s', h1, hN, h2, h3, h4⟩ := inS_close2 h q1 q2 q3
        have := hK (i + 3) s' 0 (some (.d (.str ⟨#[c]⟩))) (by omega) (.inl ⟨h1, hN, rfl⟩)
        rw [h2, h3, h4] at this
        exact this
    · have hc' := of_decide_eq_true h10
      subst hc'
      rcases hw with rfl | rfl
      · obtain ⟨s', h1, rfl⟩ := inS_nl0 h hc
        refine ⟨fun _ => ⟨fun hz => ⟨hgd, ?_⟩, fun hz => ?_⟩, fun q => by cases q⟩
        · have hz : s.lv = 0 := by have := beq_iff_eq.mp hz; omega
          have := hK (i + 1) _ 0 (some (.d (.str ⟨#[10]⟩))) (by omega) (.inl ⟨h1, by simp [nl], rfl⟩)
          unfold nl at this
          dsimp only at this
          rw [if_pos hz] at this
          exact this
        · have hz : ¬ s.lv = 0 := by have := beq_eq_false_iff_ne.mp hz; omega
          have := hK (i + 1) _ 0 (some (.d (.str ⟨#[10]⟩))) (by omega) (.inl ⟨h1, by simp [nl], rfl⟩)
          unfold nl at this
          dsimp only at this
          rw [if_neg hz] at this
          exact this
      · obtain ⟨s', h1, h2, h3, h4⟩ := inS_nl2 h hc
        refine ⟨fun q => (by cases q), fun _ => ?_⟩
        exact again (i + 1) s' _ s.lv (s.ln + 1) s.gd (by omega) h1 h2.symm h3.symm h4.symm
    · have hc' := of_decide_eq_true h92
      subst hc'
      have hlt2 : i + 1 < (sg x).length := by
        rcases Nat.lt_or_ge (i + 1) (sg x).length with q | q
        · exact q
        · exact absurd (hl i 92 hc (by omega)) (by decide)
      obtain ⟨e, he⟩ : ∃ e, (sg x)[i + 1]? = some e := ⟨_, List.getElem?_eq_getElem hlt2⟩
      obtain ⟨s', h1, h2, h3, h4⟩ := inS_esc h hc he
      have he2 : Txt.item x ((i : Int) + 1) = ⟨#[e]⟩ := item_nat he
      rw [he2, str1]
      refine ⟨decide_eq_true (by omega), by omega, by omega, hxb, fun q => ?_, fun q => ?_⟩
      · rw [if_pos (of_decide_eq_true q)] at h3
        exact again (i + 2) s' _ s.lv (s.ln + 1) s.gd (by omega) h1 h2.symm h3.symm h4.symm
      · rw [if_neg (of_decide_eq_false q)] at h3
        exact again (i + 2) s' _ s.lv s.ln s.gd (by omega) h1 h2.symm h3.symm h4.symm
    · rw [hsl] at hq
      have n10 := of_decide_eq_false h10
      have n92 := of_decide_eq_false h92
      by_cases hcq : c = qc d
      · subst hcq
        rcases hw with rfl | rfl
        · exact absurd ((win1 hc).symm.trans hq) (by simp)
        · have hnot : ¬ ((sg x)[i + 1]? = some (qc d) ∧ (sg x)[i + 2]? = some (qc d)) := fun q => by
            have := win3.mpr ⟨hc, q.1, q.2⟩
            exact absurd (hq.symm.trans this) (by simp)
          obtain ⟨s', h1, h2, h3, h4⟩ := inS_quote h hc hnot
          exact again (i + 1) s' _ s.lv s.ln s.gd (by omega) h1 h2.symm h3.symm h4.symm
      · obtain ⟨s', h1, h2, h3, h4⟩ := inS_plain h hc hcq n10 n92
        exact again (i + 1) s' _ s.lv s.ln s.gd (by omega) h1 h2.symm h3.symm h4.symm
  · have hge : i = (sg x).length := by have := of_decide_eq_false hge; have := h.2.1; omega
    simp only [ibInE, wpB, wpS, wpE, wpT, lg0, lgs, bin_sub, cmp_int, List.set]
    have ho := inS_open h
    have hs : s = scan st0 (sg x) := by rw [h.1, hge, List.take_length]
    refine ⟨fun q => ?_, fun q => ?_⟩
    · refine hK i s 2 ch hi0 (.inr ⟨hge, hs, f, ho, ?_⟩)
      rw [if_pos (by have := beq_iff_eq.mp q; omega)]
    · refine hK i s 3 ch hi0 (.inr ⟨hge, hs, f, ho, ?_⟩)
      rw [if_neg (fun e => by have := beq_eq_false_iff_ne.mp q; omega)]
end
end Mine
end
section
set_option linter.unusedVariables false
set_option maxRecDepth 100000
set_option maxHeartbeats 4000000
namespace Mine
open PySem PyProof.Rows PySem.W
section
variable {P : Pm} {pr : List Nat} {k g b : Nat} {Wc : List Nat → Cells} {x : Str}

theorem len_str {c : Cells} {kk : Option Nat} {x : Str} {K : V → Cells → Prop} : callK P c kk (.bi .len) [.d (.str x)] K = (x.length ≤ big ∧ K (.d (.int x.length)) c) := rfl
theorem mult_str {c : Cells} {x : Str} {K : D → Prop} : binK c .Mult (.d (.str x)) (.d (.int 3)) K = ((3 : Int) = 3 ∧ x.length = 1 ∧ K (.str (times x 3))) := rfl
theorem find_m {c : Cells} {x y : Str} {i : Int} {K : V → Cells → Prop} : methK c (.d (.str x)) .find [.d (.str y), .d (.int i)] K = (Mn.find.isS = true ∧ K (.d (.int (Txt.find3 x y i))) c) := rfl
theorem find_able {c : Cells} {x : Str} : methable c (.d (.str x)) .find = true := rfl
theorem cmp_ge {c : Cells} {x y : Int} {K : Bool → Prop} : cmpK c .GtE (.d (.int x)) (.d (.int y)) K = K (decide (y ≤ x)) := rfl
theorem truth_int {c : Cells} {i : Int} {K : Bool → Prop} : truthK c (.d (.int i)) K = K (i != 0) := rfl

theorem wk_out (C : Cel Wc k g b pr) {x : Str} {ct : Int} {lv ln i n : Nat} {r1 r2 r3 r4 : Option V} {gd : List Nat} :
    Wk pr ⟨slots k g b x ct lv ln i n [r1, r2, r3, r4], Wc gd⟩ ⟨slots k g b x ct lv ln i n [none, none, none, none], Wc gd⟩ := by
  refine ⟨?_, rfl, C.wf gd, C.pr gd⟩
  have hg : g ∈ dom (Wc gd) := cget_mem (C.g_ gd)
  have hb : b ∈ dom (Wc gd) := cget_mem (C.b_ gd)
  have hk := C.k_ gd
  simp only [slots, slW, lg0, lgs, vW, vOk, Option.some.injEq, exists_eq_left', true_and]
  simp [hg, hb, hk]

noncomputable def OutC (x : Str) (i : Nat) (s : St) (ct : Int) : Prop :=
  (Out x i s ∧ ct = if s.md = .Nb ∧ i = (sg x).length then 1 else 0) ∨ (i = (sg x).length ∧ s = scan st0 (sg x) ∧ ∃ f, openAt s.md = some f ∧ ct = if s.ln = f + 1 then 2 else 3)

theorem chr_t {i : Int} {c y : Nat} (h : Txt.item x i = ⟨#[c]⟩) (e : (Txt.item x i == ⟨#[y]⟩) = true) : c = y := by
  rw [h, str1] at e; exact of_decide_eq_true e
theorem chr_f {i : Int} {c y : Nat} (h : Txt.item x i = ⟨#[c]⟩) (e : (Txt.item x i == ⟨#[y]⟩) = false) : c ≠ y := by
  rw [h, str1] at e; exact of_decide_eq_false e

theorem asg_to {n i : Nat} {e : IE} {r : List IS} {l : Sl} {c : Cells} {K : F → Sg' → Prop} (v : V) (he : ∀ K' : V → Cells → Prop, K' v c → wpE P n e l c K') (h : wpB P pr (n + 1) r ⟨l.set i (some v), c⟩ K) : wpB P pr (n + 2) (.asg i e :: r) ⟨l, c⟩ K := by
  rw [wpB, wpS]
  exact he _ h

theorem push_st (C : Cel Wc k g b pr) {n : Nat} {l : Sl} {gd : List Nat} {m : Nat} {K : F → Sg' → Prop} (h6 : lget l 6 = some (.obj b)) (h4 : lget l 4 = some (.d (.int ((m : Int) + 1)))) (hgd : gd.length ≤ big) (h : K .next ⟨l, Wc (gd ++ [m + 1])⟩) :
    wpB P pr (n + 5) [.expr (.call (.v 6) [(.v 4)] none)] ⟨l, Wc gd⟩ K := by
  simp only [wpB, wpS, wpE, wpEs, h6, h4]
  rw [push_ok C]
  exact ⟨hgd, h⟩

/- from the quote on -/
theorem str_tail (C : Cel Wc k g b pr) (hl : ∀ i c, (sg x)[i]? = some c → i + 1 = (sg x).length → c = 10) (hbig : (sg x).length + 5 ≤ big) {d : Bool} {w i n : Nat} {s : St} (hw : w = 0 ∨ w = 2) (h : InS x d w s.ln (i + w) s) {ch f' w' : Option V} {K : F → Sg' → Prop}
    (hK : ∀ i' s' (ct' : Int) ch r2 r3 r4, i + w ≤ i' → (Out x i' s' ∧ s'.md ≠ .Nb ∧ ct' = 0 ∨ i' = (sg x).length ∧ s' = scan st0 (sg x) ∧ ∃ f, openAt s'.md = some f ∧ ct' = if s'.ln = f + 1 then 2 else 3) →
      K .cont ⟨slots k g b x ct' s'.lv s'.ln i' (sg x).length [ch, r2, r3, r4], Wc s'.gd⟩) :
    wpB P pr (n + 60) [.asg 11 (.v 4), .asg 12 (.bin .Sub (.call (.g (.bi .len)) [(.v 10)] none) (.c (.int 1))), .asg 7 (.bin .Add (.v 7) (.v 12)), inW, .cont]
      ⟨slots k g b x 0 s.lv s.ln i (sg x).length [ch, some (.d (.str (quoteS d w))), f', w'], Wc s.gd⟩ K := by
  have hq : (quoteS d w).length = w + 1 := by rcases hw with rfl | rfl <;> rfl
  refine asg_to (n := n + 58) (.d (.int s.ln)) (fun K' h => h) ?_
  refine asg_to (n := n + 57) (.d (.int w)) (fun K' h => ⟨by rw [hq]; unfold big; rcases hw with rfl | rfl <;> omega, ?_⟩) ?_
  · have e1 : (((quoteS d w).length : Int) - 1) = (w : Int) := by rw [hq]; omega
    show K' (.d (.int (((quoteS d w).length : Int) - 1))) _
    rw [e1]; exact h
  refine asg_to (n := n + 56) (.d (.int ((i + w : Nat) : Int))) (fun K' h => h) ?_
  rw [wpB]
  refine inner_ok (n := n + 26) (K := _) C hl hbig hw h (ch₀ := ch) ?_
  intro i' s' ct' ch' hi hs
  exact hK i' s' ct' ch' _ _ _ hi hs

theorem qtrue {i c d : Nat} (hc : (sg x)[i]? = some c) (hsl : Txt.slice x (some ((i : Int) + 1 - 1)) (some ((i : Int) + 1 + 2)) = ⟨(((sg x).drop i).take 3).toArray⟩)
    (e : (Txt.slice x (some ((i : Int) + 1 - 1)) (some ((i : Int) + 1 + 2)) == times ⟨#[c]⟩ 3) = true) : (sg x)[i + 1]? = some c ∧ (sg x)[i + 2]? = some c := by
  rw [hsl] at e
  exact (win3.mp e).2
theorem qfalse {i c d : Nat} (hc : (sg x)[i]? = some c) (hsl : Txt.slice x (some ((i : Int) + 1 - 1)) (some ((i : Int) + 1 + 2)) = ⟨(((sg x).drop i).take 3).toArray⟩)
    (e : (Txt.slice x (some ((i : Int) + 1 - 1)) (some ((i : Int) + 1 + 2)) == times ⟨#[c]⟩ 3) = false) : ¬ ((sg x)[i + 1]? = some c ∧ (sg x)[i + 2]? = some c) := by
  rw [hsl] at e
  intro q
  have := win3.mpr ⟨hc, q.1, q.2⟩
  exact absurd (e.symm.trans this) (by simp)

/- the string's beginning -/
theorem str_begin {i n : Nat} {s : St} {d : Bool} (h : Out x i s) (hc : (sg x)[i]? = some (qc d)) :
    ((sg x)[i + 1]? = some (qc d) ∧ (sg x)[i + 2]? = some (qc d) → ∃ s', InS x d 2 s.ln (i + 3) s' ∧ same s s') ∧
    (¬ ((sg x)[i + 1]? = some (qc d) ∧ (sg x)[i + 2]? = some (qc d)) → ∃ s', InS x d 0 s.ln (i + 1) s' ∧ same s s') := by
  have e1 : scan st0 ((sg x).take (i + 1)) = { s with md := .Q1 d s.ln } := by
    rw [scan_take hc, ← h.1, h.2.2.1 _ hc]
    cases d <;> rfl
  refine ⟨fun q => ?_, fun q => ⟨_, ⟨e1.symm, lt_of_get hc, .inl ⟨rfl, .inr ⟨rfl, q⟩⟩⟩, rfl, rfl, rfl⟩⟩
  have e3 : scan st0 ((sg x).take (i + 3)) = { s with md := .S3 d 0 s.ln } := by
    rw [scan_take q.2, scan_take q.1, e1]
    simp [step]
  exact ⟨_, ⟨e3.symm, lt_of_get q.2, .inr ⟨rfl, .inl rfl⟩⟩, rfl, rfl, rfl⟩

/- a remark is passed over -/
theorem scan_C {s : St} (hs : s.md = .C) : ∀ (l : List Nat), (∀ c ∈ l, c ≠ 10) → scan s l = s
  | [], _ => rfl
  | c :: l, h => by
    have : step s c = s := by simp [step, hs, h c (.head _)]
    rw [scan_cons, this]
    exact scan_C hs l fun c hc => h c (.tail _ hc)

theorem outer_ok (C : Cel Wc k g b pr) (hl : ∀ i c, (sg x)[i]? = some c → i + 1 = (sg x).length → c = 10) (hend : sg x ≠ [] → (sg x)[(sg x).length - 1]? = some 10) (hsg : Signs x) (hbig : (sg x).length + 5 ≤ big) {n : Nat} {r : List (Option V)} (hr : r = [none, none, none, none]) {K : F → Sg' → Prop}
    (hK : ∀ s ct r, OutC x (sg x).length s ct → s = scan st0 (sg x) → K .next ⟨slots k g b x ct s.lv s.ln (sg x).length (sg x).length r, Wc s.gd⟩) :
    wpS P pr (n + 100) outW ⟨slots k g b x 0 0 0 0 (sg x).length r, Wc [0]⟩ K := by
  have hlen : (sg x).length = x.length := by simp [sg, Str.length]
  have hxb : x.length ≤ big := by omega
  unfold outW
  simp only [wpS]
  refine ⟨fun m τ => ∃ i s ct r1 r2 r3 r4, m = (sg x).length - i ∧ OutC x i s ct ∧ τ = ⟨slots k g b x ct s.lv s.ln i (sg x).length [r1, r2, r3, r4], Wc s.gd⟩, _, ⟨0, st0, 0, none, none, none, none, rfl, .inl ⟨⟨rfl, Nat.zero_le _, fun c _ => rfl, fun _ => .inl rfl⟩, rfl⟩, by rw [hr]; rfl⟩, ?_⟩
  rintro _ _ ⟨i, s, ct, r1, r2, r3, r4, rfl, h0, rfl⟩
  simp only [wpT, wpE, slots, lg0, lgs, cmp_lt]
  refine ⟨fun hlt => ?_, fun hge => ?_⟩
  · have hlt : i < (sg x).length := by have := of_decide_eq_true hlt; omega
    obtain ⟨h, hct⟩ : Out x i s ∧ ct = 0 := by
      rcases h0 with ⟨h, e⟩ | ⟨h, _⟩
      · exact ⟨h, by rw [e, if_neg (fun q => by omega)]⟩
      · omega
    subst hct
    obtain ⟨c, hc⟩ : ∃ c, (sg x)[i]? = some c := ⟨_, List.getElem?_eq_getElem hlt⟩
    have hi2 := item_nat hc
    have hstep : scan st0 ((sg x).take (i + 1)) = stepN s c := by rw [scan_take hc, ← h.1, h.2.2.1 c hc]
    have again : ∀ i' s' ct' r1 r2 r3 r4 (lv ln : Nat) gd, i < i' → OutC x i' s' ct' → i' ≤ (sg x).length → lv = s'.lv → ln = s'.ln → gd = s'.gd → ∃ k' υ', k' < (sg x).length - i ∧ Wk pr ⟨slots k g b x ct' lv ln i' (sg x).length [r1, r2, r3, r4], Wc gd⟩ υ' ∧
        ∃ i s ct r1 r2 r3 r4, k' = (sg x).length - i ∧ OutC x i s ct ∧ υ' = ⟨slots k g b x ct s.lv s.ln i (sg x).length [r1, r2, r3, r4], Wc s.gd⟩ := by
      rintro i' s' ct' r1 r2 r3 r4 _ _ _ h1 h2 h3 rfl rfl rfl
      exact ⟨_, _, by omega, wk_out C, i', s', ct', none, none, none, none, rfl, h2, rfl⟩
    have hgd : s.gd.length ≤ big := by rw [h.1]; exact gd_big hbig
    have hsl : Txt.slice x (some ((i : Int) + 1 - 1)) (some ((i : Int) + 1 + 2)) = ⟨(((sg x).drop i).take 3).toArray⟩ := by
      have := slice_nat x (a := i) (b := i + 3) (by omega) (by omega)
      rw [show (i : Int) + 1 - 1 = (i : Int) by omega, show ((i : Int) + 1 + 2) = ((i + 3 : Nat) : Int) by omega, this]
      congr 3; omega
    have neu : ∀ s', s' = scan st0 ((sg x).take (i + 1)) → s'.md = .N → OutC x (i + 1) s' 0 := fun s' e1 e2 =>
      .inl ⟨⟨e1, by omega, fun c _ => by unfold step; rw [e2], fun _ => .inl e2⟩, by rw [if_neg (fun q => by rw [e2] at q; cases q.1)]⟩
    show wpB P pr (n + 99) ibOutB ⟨slots k g b x 0 s.lv s.ln i (sg x).length [r1, r2, r3, r4], Wc s.gd⟩ _
    conv => whnf
    refine ⟨by omega, by omega, hxb, ?_⟩
    conv => whnf
    refine ⟨fun h1 => ?_, fun h1 => ?_⟩
    · have hc1 := chr_t hi2 h1
      subst hc1
      exact again (i + 1) _ 0 _ _ _ _ s.lv s.ln s.gd (by omega) (neu (stepN s 120) hstep.symm rfl) (by omega) rfl rfl rfl
    have n120 := chr_f hi2 h1
    conv => whnf
    refine ⟨fun h1 => ?_, fun h1 => ?_⟩
    · have hc1 := chr_t hi2 h1
      subst hc1
      conv => whnf
      refine ⟨fun hz => ?_, fun hz => ?_⟩
      · have hz : s.lv = 0 := by have := beq_iff_eq.mp hz; omega
        have e : (stepN s 10).gd = s.gd ++ [s.ln + 1] := by show (if s.lv = 0 then _ else _) = _; rw [if_pos hz]
        refine push_st C (n := n + 86) (gd := s.gd) (m := s.ln) rfl rfl hgd ?_
        exact again (i + 1) _ 0 _ _ _ _ s.lv (s.ln + 1) _ (by omega) (neu (stepN s 10) hstep.symm rfl) (by omega) rfl rfl e.symm
      · have hz : ¬ s.lv = 0 := by have := beq_eq_false_iff_ne.mp hz; omega
        have e : (stepN s 10).gd = s.gd := by show (if s.lv = 0 then _ else _) = _; rw [if_neg hz]
        exact again (i + 1) _ 0 _ _ _ _ s.lv (s.ln + 1) s.gd (by omega) (neu (stepN s 10) hstep.symm rfl) (by omega) rfl rfl e.symm
    have n10 := chr_f hi2 h1
    conv => whnf
    refine ⟨fun h1 => ?_, fun h1 => ?_⟩
    · have hc1 := chr_t hi2 h1
      subst hc1
      exact again (i + 1) _ 0 _ _ _ _ (s.lv + 1) s.ln s.gd (by omega) (neu (stepN s 40) hstep.symm rfl) (by omega) rfl rfl rfl
    have n40 := chr_f hi2 h1
    conv => whnf
    refine ⟨fun h1 => ?_, fun h1 => ?_⟩
    · have hc1 := chr_t hi2 h1
      subst hc1
      conv => whnf
      refine ⟨fun hz => ?_, fun hz => ?_⟩
      · have hz : s.lv ≠ 0 := by have := bne_iff_ne.mp hz; omega
        have := again (i + 1) _ 0 (some (.d (.str (Txt.item x i)))) r2 r3 r4 (s.lv - 1) s.ln s.gd (by omega) (neu (stepN s 41) hstep.symm rfl) (by omega) rfl rfl rfl
        have e : ((s.lv - 1 : Nat) : Int) = (s.lv : Int) - 1 := by omega
        unfold slots at this
        rw [e] at this
        exact this
      · have hz : s.lv = 0 := by have := bne_eq_false_iff_eq.mp hz; omega
        exact again (i + 1) _ 0 _ _ _ _ s.lv s.ln s.gd (by omega) (neu (stepN s 41) hstep.symm rfl) (by omega) (by show s.lv = s.lv - 1; omega) rfl rfl
    have n41 := chr_f hi2 h1
    have fin : ∀ i' s' (ct' : Int) ch r2 r3 r4, i + 1 ≤ i' → (Out x i' s' ∧ s'.md ≠ .Nb ∧ ct' = 0 ∨ i' = (sg x).length ∧ s' = scan st0 (sg x) ∧ ∃ f, openAt s'.md = some f ∧ ct' = if s'.ln = f + 1 then 2 else 3) →
        ∃ k' υ', k' < (sg x).length - i ∧ Wk pr ⟨slots k g b x ct' s'.lv s'.ln i' (sg x).length [ch, r2, r3, r4], Wc s'.gd⟩ υ' ∧ ∃ i s ct r1 r2 r3 r4, k' = (sg x).length - i ∧ OutC x i s ct ∧ υ' = ⟨slots k g b x ct s.lv s.ln i (sg x).length [r1, r2, r3, r4], Wc s.gd⟩ := by
      intro i' s' ct' ch r2 r3 r4 hi q
      refine again i' s' ct' ch r2 r3 r4 s'.lv s'.ln s'.gd (by omega) ?_ ?_ rfl rfl rfl
      · rcases q with ⟨q1, q2, rfl⟩ | q
        · exact .inl ⟨q1, by rw [if_neg (fun e => q2 e.1)]⟩
        · exact .inr q
      · rcases q with ⟨q1, q2, rfl⟩ | q
        · exact q1.2.1
        · exact Nat.le_of_eq q.1
    have quo : ∀ (d : Bool) (n' : Nat) (K0 : F → Sg' → Prop), c = qc d → (∀ i' s' (ct' : Int) ch r2 r3 r4, i + 1 ≤ i' → (Out x i' s' ∧ s'.md ≠ .Nb ∧ ct' = 0 ∨ i' = (sg x).length ∧ s' = scan st0 (sg x) ∧ ∃ f, openAt s'.md = some f ∧ ct' = if s'.ln = f + 1 then 2 else 3) → K0 .cont ⟨slots k g b x ct' s'.lv s'.ln i' (sg x).length [ch, r2, r3, r4], Wc s'.gd⟩) → wpB P pr (n' + 90) [
        .asg 10 (.v 9),
        .if_ (.cmp .Eq (.slice (.v 1) (.bin .Sub (.v 7) (.c (.int 1))) (.bin .Add (.v 7) (.c (.int 2)))) (.bin .Mult (.v 10) (.c (.int 3)))) [
          .asg 10 (.bin .Mult (.v 10) (.c (.int 3)))] [],
        .asg 11 (.v 4),
        .asg 12 (.bin .Sub (.call (.g (.bi .len)) [(.v 10)] none) (.c (.int 1))),
        .asg 7 (.bin .Add (.v 7) (.v 12)),
        inW,
        .cont] ⟨slots k g b x 0 s.lv s.ln (i + 1) (sg x).length [some (.d (.str (Txt.item x i))), r2, r3, r4], Wc s.gd⟩ K0 := by
      intro d n' K0 hcd hK0
      subst hcd
      rw [hi2]
      obtain ⟨hb1, hb2⟩ := str_begin (n := n) h hc
      refine asg_to (n := n' + 88) (.d (.str ⟨#[qc d]⟩)) (fun K' h => h) ?_
      conv => whnf
      refine ⟨hxb, ?_⟩
      conv => whnf
      refine ⟨rfl, rfl, ?_⟩
      conv => whnf
      refine ⟨fun hq => ?_, fun hq => ?_⟩
      · conv => whnf
        refine ⟨rfl, rfl, ?_⟩
        obtain ⟨s', hin, h2, h3, h4⟩ := hb1 (qtrue (d := 0) hc hsl hq)
        have := fun K0 => str_tail (P := P) (pr := pr) C hl hbig (d := d) (w := 2) (i := i + 1) (s := s') (n := n' + 28) (.inr rfl) (by rw [h3]; exact hin) (ch := some (.d (.str ⟨#[qc d]⟩))) (f' := r3) (w' := r4) (K := K0)
        rw [h2, h3, h4] at this
        refine this _ ?_
        intro i' s' ct' ch r2 r3 r4 hi q
        exact hK0 i' s' ct' ch r2 r3 r4 (by omega) q
      · obtain ⟨s', hin, h2, h3, h4⟩ := hb2 (qfalse (d := 0) hc hsl hq)
        have := fun K0 => str_tail (P := P) (pr := pr) C hl hbig (d := d) (w := 0) (i := i + 1) (s := s') (n := n' + 28) (.inl rfl) (by rw [h3]; exact hin) (ch := some (.d (.str ⟨#[qc d]⟩))) (f' := r3) (w' := r4) (K := K0)
        rw [h2, h3, h4] at this
        refine this _ ?_
        intro i' s' ct' ch r2 r3 r4 hi q
        exact hK0 i' s' ct' ch r2 r3 r4 (by omega) q
    conv => whnf
    refine ⟨fun h1 => ?_, fun h1 => ?_⟩
    · have hc1 := chr_t hi2 h1
      conv => whnf
      refine ⟨fun _ => ?_, fun q => by cases q⟩
      exact quo true (n + 1) _ hc1 fin
    have n34 := chr_f hi2 h1
    conv => whnf
    refine ⟨fun h1 => ?_, fun h1 => ?_⟩
    · have hc1 := chr_t hi2 h1
      exact quo false (n + 1) _ hc1 fin
    have n39 := chr_f hi2 h1
    conv => whnf
    refine ⟨fun h1 => ?_, fun h1 => ?_⟩
    · have hc1 := chr_t hi2 h1
      subst hc1
      obtain ⟨j, hf, hj1, hj2, hj3⟩ := find_nl (x := x) (i := i + 1) ⟨(sg x).length - 1, by
        rcases Nat.lt_or_ge (i + 1) (sg x).length with q | q
        · omega
        · exact absurd (hl i 35 hc (by omega)) (by decide), hend (fun e => by rw [e] at hlt; cases hlt)⟩
      have hjl : j + 1 ≤ (sg x).length := lt_of_get hj2
      have hsc : scan st0 ((sg x).take j) = { s with md := .C } := by
        have e1 : (sg x).take j = (sg x).take (i + 1) ++ ((sg x).take j).drop (i + 1) := by
          conv => lhs; rw [← List.take_append_drop (i + 1) ((sg x).take j)]
          rw [List.take_take, Nat.min_eq_left hj1]
        rw [e1, scan_append, hstep]
        refine scan_C rfl _ fun c hcm e => ?_
        subst e
        obtain ⟨m, hm⟩ := List.mem_iff_getElem?.mp hcm
        rw [List.getElem?_drop] at hm
        have hlt2 : i + 1 + m < j := by
          have := (List.getElem?_eq_some_iff.mp hm).1
          rw [List.length_take] at this; omega
        rw [List.getElem?_take, if_pos hlt2] at hm
        exact hj3 (i + 1 + m) (by omega) hlt2 hm
      have hO : OutC x j { s with md := .C } 0 := .inl ⟨⟨hsc.symm, by omega, fun c hc' => by rw [hj2] at hc'; cases hc'; rfl, fun q => by omega⟩, by rw [if_neg (fun q => by cases q.1)]⟩
      have fin := again j _ 0 (some (.d (.str (Txt.item x i)))) r2 r3 r4 s.lv s.ln s.gd (by omega) hO (by omega) rfl rfl rfl
      unfold slots at fin
      rw [← hf] at fin
      conv => whnf
      refine ⟨rfl, ?_⟩
      conv => whnf
      refine ⟨rfl, ?_⟩
      conv => whnf
      refine ⟨show decide ((0 : Int) ≤ Txt.find3 x ⟨#[10]⟩ ((i + 1 : Nat) : Int)) = true from decide_eq_true (by rw [hf]; omega), ?_⟩
      exact fin
    have n35 := chr_f hi2 h1
    have hc1 : c = 92 := by
      have := hsg c (List.mem_of_getElem? hc)
      omega
    subst hc1
    have hlt2 : i + 1 < (sg x).length := by
      rcases Nat.lt_or_ge (i + 1) (sg x).length with q | q
      · exact q
      · exact absurd (hl i 92 hc (by omega)) (by decide)
    obtain ⟨e, he⟩ : ∃ e, (sg x)[i + 1]? = some e := ⟨_, List.getElem?_eq_getElem hlt2⟩
    have he2 : Txt.item x ((i + 1 : Nat) : Int) = ⟨#[e]⟩ := item_nat he
    have hsc : scan st0 ((sg x).take (i + 2)) = if e = 10 then { s with md := .Nb, ln := s.ln + 1 } else { s with md := .N } := by
      rw [scan_take he, hstep]; rfl
    conv => whnf
    refine ⟨show (Txt.item x i == ⟨#[92]⟩) = true from by rw [hi2]; rfl, ?_⟩
    conv => whnf
    refine ⟨show decide (((i + 1 : Nat) : Int) < (sg x).length) = true from decide_eq_true (by omega), ?_⟩
    conv => whnf
    refine ⟨show -(x.length : Int) ≤ ((i + 1 : Nat) : Int) by omega, show ((i + 1 : Nat) : Int) < x.length by omega, hxb, ?_⟩
    conv => whnf
    refine ⟨fun h1 => ?_, fun h1 => ?_⟩
    · have he3 := chr_t he2 h1
      rw [if_pos he3] at hsc
      conv => whnf
      refine ⟨fun h2 => ?_, fun h2 => ?_⟩
      · have h2 : i + 2 = (sg x).length := by have := beq_iff_eq.mp h2; omega
        have hO : OutC x (i + 2) { s with md := .Nb, ln := s.ln + 1 } 1 := .inl ⟨⟨hsc.symm, by omega, fun c _ => rfl, fun _ => .inr rfl⟩, by rw [if_pos ⟨rfl, h2⟩]⟩
        exact again (i + 2) _ 1 _ _ _ _ s.lv (s.ln + 1) s.gd (by omega) hO (by omega) rfl rfl rfl
      · have h2 : i + 2 ≠ (sg x).length := by have := beq_eq_false_iff_ne.mp h2; omega
        have hO : OutC x (i + 2) { s with md := .Nb, ln := s.ln + 1 } 0 := .inl ⟨⟨hsc.symm, by omega, fun c _ => rfl, fun _ => .inr rfl⟩, by rw [if_neg (fun q => h2 q.2)]⟩
        exact again (i + 2) _ 0 _ _ _ _ s.lv (s.ln + 1) s.gd (by omega) hO (by omega) rfl rfl rfl
    · have he3 := chr_f he2 h1
      rw [if_neg he3] at hsc
      have hO : OutC x (i + 2) { s with md := .N } 0 := .inl ⟨⟨hsc.symm, by omega, fun c _ => rfl, fun _ => .inl rfl⟩, by rw [if_neg (fun q => by cases q.1)]⟩
      exact again (i + 2) _ 0 _ _ _ _ s.lv s.ln s.gd (by omega) hO (by omega) rfl rfl rfl
  · have hge : i = (sg x).length := by
      have h1 := of_decide_eq_false hge
      rcases h0 with ⟨h, _⟩ | ⟨h, _⟩
      · have := h.2.1; omega
      · exact h
    subst hge
    simp only [wpB]
    have hs : s = scan st0 (sg x) := by
      rcases h0 with ⟨h, _⟩ | ⟨_, h, _⟩
      · rw [h.1, List.take_length]
      · exact h
    exact hK s ct _ h0 hs
end
end Mine
end
section
set_option linter.unusedVariables false
set_option maxRecDepth 100000
namespace Mine
open PySem PyProof.Rows PySem.W

theorem celW_iff {c c' : Cells} : ∀ {r : Cells}, celW c c' r ↔ ∀ p ∈ r, ∃ o, cget c p.1 = some o ∧ oW c c' o p.2
  | [] => by simp [celW]
  | (k, o) :: r => by
    show (_ ∧ celW c c' r) ↔ _
    rw [celW_iff]
    simp
theorem vW_ext {c U U' : Cells} (h : ∀ k ∈ dom c, k ∈ dom U') {v v' : V} (w : vW c c v v') : vW U U' v v' := by
  rcases w with ⟨e, o⟩ | ⟨k, xs, rfl, h1, _, h3⟩
  · refine .inl ⟨e, ?_⟩
    cases v <;> first | exact h _ o | trivial
  · exact absurd (cget_mem h1) h3
theorem fsW_ext {c U U' : Cells} (h : ∀ k ∈ dom c, k ∈ dom U') : ∀ {a a' : List (Str × V)}, fsW c c a a' → fsW U U' a a'
  | [], [], _ => trivial
  | (_, _) :: _, (_, _) :: _, ⟨h1, h2, h3⟩ => ⟨h1, vW_ext h h2, fsW_ext h h3⟩
  | [], _ :: _, q => q.elim
  | _ :: _, [], q => q.elim
theorem oW_ext {c U U' : Cells} (h : ∀ k ∈ dom c, k ∈ dom U') {o o' : O} (w : oW c c o o') : oW U U' o o' := by
  cases o <;> cases o' <;> first | exact w | exact fsW_ext h w | exact ⟨w.1, w.2.1, h _ w.2.2⟩
theorem fsW_put {c c' : Cells} {x : Str} {v v' : V} (hv : vW c c' v v') : ∀ {a a' : List (Str × V)}, fsW c c' a a' → fsW c c' (put a x v) (put a' x v')
  | [], [], _ => ⟨rfl, hv, trivial⟩
  | (y, u) :: r, (y', u') :: r', ⟨h1, h2, h3⟩ => by
    subst h1
    simp only [put]
    by_cases e : y' = x
    · rw [if_pos e, if_pos e]; exact ⟨rfl, hv, h3⟩
    · rw [if_neg e, if_neg e]; exact ⟨rfl, h2, fsW_put hv h3⟩
  | [], _ :: _, q => q.elim
  | _ :: _, [], q => q.elim

theorem mem_of_cget {c : Cells} {k : Nat} {o : O} (h : cget c k = some o) : (k, o) ∈ c := by
  induction c with
  | nil => cases h
  | cons p r ih =>
    obtain ⟨j, u⟩ := p
    simp only [cget] at h
    by_cases e : j = k
    · rw [if_pos e] at h; cases h; rw [e]; exact .head _
    · rw [if_neg e] at h; exact .tail _ (ih h)
theorem mem_cset {c : Cells} (nd : (dom c).Nodup) {k : Nat} {o : O} {p : Nat × O} (h : p ∈ cset c k o) : p = (k, o) ∨ (p ∈ c ∧ p.1 ≠ k) := by
  induction c with
  | nil => cases h
  | cons q r ih =>
    obtain ⟨j, u⟩ := q
    obtain ⟨n1, n2⟩ := List.nodup_cons.mp (show (j :: dom r).Nodup from nd)
    simp only [cset] at h
    by_cases e : j = k
    · rw [if_pos e] at h
      rcases List.mem_cons.mp h with h | h
      · exact .inl (by rw [h, e])
      · refine .inr ⟨.tail _ h, fun q => n1 ?_⟩
        rw [e, ← q]; exact List.mem_map.mpr ⟨p, h, rfl⟩
    · rw [if_neg e] at h
      rcases List.mem_cons.mp h with h | h
      · exact .inr ⟨by rw [h]; exact .head _, by rw [h]; exact e⟩
      · rcases ih n2 h with h | h
        · exact .inl h
        · exact .inr ⟨.tail _ h.1, h.2⟩
theorem cset_append {c r : Cells} {k : Nat} (h : k ∈ dom c) (o : O) : cset (c ++ r) k o = cset c k o ++ r := by
  induction c with
  | nil => cases h
  | cons p c ih =>
    obtain ⟨j, u⟩ := p
    show (if j = k then _ else _) = (if j = k then _ else _) ++ r
    by_cases e : j = k
    · rw [if_pos e, if_pos e]; rfl
    · rw [if_neg e, if_neg e]
      have : k ∈ dom c := by
        rcases List.mem_cons.mp (show k ∈ j :: dom c from h) with q | q
        · exact absurd q.symm e
        · exact q
      show (j, u) :: cset (c ++ r) k o = _
      rw [ih this]; rfl
theorem cset_cset (c : Cells) (k : Nat) (o o' : O) : cset (cset c k o) k o' = cset c k o' := by
  induction c with
  | nil => rfl
  | cons p c ih =>
    obtain ⟨j, u⟩ := p
    simp only [cset]
    by_cases e : j = k
    · rw [if_pos e]; simp only [cset]; rw [if_pos e, if_pos e]
    · rw [if_neg e]; simp only [cset]; rw [if_neg e, if_neg e, ih]

/- well made cells -/
structure Wf (c : Cells) : Prop where
  w : celW c c c
  nd : (dom c).Nodup
theorem Wf.fs {c : Cells} (W : Wf c) {k : Nat} {fs : List (Str × V)} (h : cget c k = some (.ns fs)) : fsW c c fs fs := by
  obtain ⟨o, h1, h2⟩ := celW_iff.mp W.w _ (mem_of_cget h)
  rw [h] at h1; cases h1
  exact h2
/- less is known of cells that were changed at one place -/
theorem Wf.out {c U : Cells} (W : Wf c) {dk : Nat} {fs fs' : List (Str × V)} (hdk : cget c dk = some (.ns fs)) {f : List (Str × V)} (hU : ∀ j, j ≠ dk → j ∈ dom c → cget U j = cget c j) (hU2 : cget U dk = some (.ns f)) (hf : fsW U (cset c dk (.ns fs')) f fs') :
    celW U (cset c dk (.ns fs')) (cset c dk (.ns fs')) := by
  rw [celW_iff]
  intro p hp
  rcases mem_cset W.nd hp with rfl | ⟨h1, h2⟩
  · exact ⟨_, hU2, hf⟩
  · obtain ⟨o, h3, h4⟩ := celW_iff.mp W.w p h1
    refine ⟨o, by rw [hU p.1 h2 (cget_mem h3)]; exact h3, oW_ext (fun k hk => by rw [dom_cset]; exact hk) h4⟩

section
variable {c : Cells} {k dk g b : Nat} {C : Addr} {fs f : List (Str × V)}
/- the cells in the reader's loops -/
noncomputable def Wcs (c : Cells) (dk g b : Nat) (f : List (Str × V)) (gd : List Nat) : Cells := cset c dk (.ns f) ++ [(g, .list (gd.map fun m : Nat => D.int m))] ++ [(b, .bound "list.append" g)]

theorem wcs_dom (gd : List Nat) : dom (Wcs c dk g b f gd) = dom c ++ [g] ++ [b] := by unfold Wcs; rw [dom_append, dom_append, dom_cset]
theorem wcs_get (hg : g ∉ dom c) (hb : b ∉ dom c) (hgb : g ≠ b) (hdk : dk ∈ dom c) (gd : List Nat) (j : Nat) :
    cget (Wcs c dk g b f gd) j = if j = b then some (.bound "list.append" g) else if j = g then some (.list (gd.map fun m : Nat => D.int m)) else if j = dk then some (.ns f) else cget c j := by
  unfold Wcs
  rw [cget_append (by rw [dom_append, dom_cset]; simp [hb, Ne.symm hgb]), cget_append (by rw [dom_cset]; exact hg), cget_cset hdk]
theorem wcs_cel (W : Wf c) (hk : k ∈ dom c) (hg : g ∉ dom c) (hb : b ∉ dom c) (hgb : g ≠ b) (hdk : cget c dk = some (.ns fs)) (hf : fsW (Wcs c dk g b f []) (Wcs c dk g b f []) f f) : Cel (Wcs c dk g b f) k g b (dom c) := by
  have hdm := cget_mem hdk
  have ngd : g ≠ dk := fun e => hg (e ▸ hdm)
  have nbd : b ≠ dk := fun e => hb (e ▸ hdm)
  have get := fun gd j => wcs_get (c := c) (f := f) hg hb hgb hdm gd j
  refine ⟨fun gd => by rw [get, if_pos rfl], fun gd => by rw [get, if_neg hgb, if_pos rfl], fun gd m => ?_, fun gd => ?_, fun gd j hj => by rw [wcs_dom]; simp [hj], fun gd => by rw [wcs_dom]; simp [hk]⟩
  · unfold Wcs
    rw [cset_append (by rw [dom_append]; simp), cset_last (by rw [dom_cset]; exact hg)]
    simp
  · rw [celW_iff]
    have sub : ∀ j ∈ dom c, j ∈ dom (Wcs c dk g b f gd) := fun j hj => by rw [wcs_dom]; simp [hj]
    intro p hp
    unfold Wcs at hp
    rcases List.mem_append.mp hp with hp | hp
    · rcases List.mem_append.mp hp with hp | hp
      · rcases mem_cset W.nd hp with rfl | ⟨h1, h2⟩
        · refine ⟨.ns f, by rw [get, if_neg (Ne.symm nbd), if_neg (Ne.symm ngd), if_pos rfl], ?_⟩
          have dd : ∀ a a', fsW (Wcs c dk g b f []) (Wcs c dk g b f []) a a' → fsW (Wcs c dk g b f gd) (Wcs c dk g b f gd) a a' := fun a a' q => fsW_ext (fun j hj => by rw [wcs_dom] at hj ⊢; exact hj) q
          exact dd f f hf
        · obtain ⟨o, h3, h4⟩ := celW_iff.mp W.w p h1
          have hm := cget_mem h3
          refine ⟨o, by rw [get, if_neg (fun e : p.1 = b => hb (by rw [← e]; exact hm)), if_neg (fun e : p.1 = g => hg (by rw [← e]; exact hm)), if_neg h2]; exact h3, oW_ext sub h4⟩
      · have : p = (g, .list (gd.map fun m : Nat => D.int m)) := by simpa using hp
        subst this
        exact ⟨.list (gd.map fun m : Nat => D.int m), by rw [get, if_neg hgb, if_pos rfl], rfl⟩
    · have : p = (b, .bound "list.append" g) := by simpa using hp
      subst this
      exact ⟨.bound "list.append" g, by rw [get, if_pos rfl], rfl, rfl, by rw [wcs_dom]; simp⟩
end
end Mine
end
section
set_option linter.unusedVariables false
set_option maxRecDepth 100000
namespace Mine
open PySem PyProof.Rows PySem.W

/- the answer that a scan stands for -/
noncomputable def contOf (s : St) : Int := match openAt s.md with
  | some f => if s.ln = f + 1 then 2 else 3
  | none => if 0 < s.lv then 4 else if s.md = .Nb then 1 else 0
noncomputable def goodOf (s : St) : List Nat := if s.gd.getLast? = some s.ln then s.gd else s.gd ++ [s.ln]

/- the last good line is never behind -/
theorem gd_inv (s : St) (c : Nat) (h : ∃ m, s.gd.getLast? = some m ∧ m ≤ s.ln) : ∃ m, (step s c).gd.getLast? = some m ∧ m ≤ (step s c).ln := by
  obtain ⟨m, h1, h2⟩ := h
  have hn : ∃ m, (nl s).gd.getLast? = some m ∧ m ≤ (nl s).ln := by
    unfold nl; dsimp only
    split
    · exact ⟨s.ln + 1, by simp, Nat.le_refl _⟩
    · exact ⟨m, h1, Nat.le_succ_of_le h2⟩
  have hN : ∃ m, (stepN s c).gd.getLast? = some m ∧ m ≤ (stepN s c).ln := by
    unfold stepN
    repeat' split
    all_goals first | exact hn | exact ⟨m, h1, h2⟩
  have hS : ∀ d f, ∃ m, (stepS s d f c).gd.getLast? = some m ∧ m ≤ (stepS s d f c).ln := fun d f => by
    unfold stepS
    repeat' split
    all_goals first | exact hn | exact ⟨m, h1, h2⟩
  unfold step
  split <;> first | exact hN | exact hS _ _ | skip
  all_goals repeat' split
  all_goals first | exact hN | exact hS _ _ | exact hn | exact ⟨m, h1, h2⟩ | exact ⟨m, h1, Nat.le_succ_of_le h2⟩
theorem gd_scan (l : List Nat) : ∀ s : St, (∃ m, s.gd.getLast? = some m ∧ m ≤ s.ln) → ∃ m, (scan s l).gd.getLast? = some m ∧ m ≤ (scan s l).ln := by
  induction l with
  | nil => exact fun s h => h
  | cons c l ih => exact fun s h => ih (step s c) (gd_inv s c h)

theorem nl_last (s : St) (h : ∃ m, s.gd.getLast? = some m ∧ m ≤ s.ln) : (contOf (step s 10) = 0) ↔ (step s 10).gd.getLast? = some (step s 10).ln := by
  obtain ⟨m, h1, h2⟩ := h
  have hn : (contOf (nl s) = 0) ↔ (nl s).gd.getLast? = some (nl s).ln := by
    unfold nl contOf openAt; dsimp only
    by_cases hz : s.lv = 0
    · simp [hz]
    · have : 0 < s.lv := Nat.pos_of_ne_zero hz
      simp only [hz, this, if_true, if_false, h1]
      constructor
      · intro q; exact absurd q (by decide)
      · intro q; have : m = s.ln + 1 := by injection q
        omega
  have ne : s.gd.getLast? ≠ some (s.ln + 1) := fun q => by rw [h1] at q; injection q with q; omega
  have hq : ∀ d, ¬ 10 = qc d := fun d => by rcases qc_cases d with q | q <;> rw [q] <;> decide
  obtain ⟨md, lv, ln, gd⟩ := s
  cases md with
  | N => exact hn
  | Nb => exact hn
  | C => exact hn
  | E =>
    have e : step ⟨.E, lv, ln, gd⟩ 10 = ⟨.Nb, lv, ln + 1, gd⟩ := rfl
    rw [e]
    unfold contOf openAt; dsimp only
    refine ⟨fun q => ?_, fun q => absurd q ne⟩
    split at q <;> cases q
  | Q1 d f => have e : step ⟨.Q1 d f, lv, ln, gd⟩ 10 = nl ⟨.Q1 d f, lv, ln, gd⟩ := by simp [step, stepS, hq d]
              rw [e]; exact hn
  | Q2 d f => have e : step ⟨.Q2 d f, lv, ln, gd⟩ 10 = nl ⟨.Q2 d f, lv, ln, gd⟩ := by simp [step, stepN, hq d]
              rw [e]; exact hn
  | S1 d f => have e : step ⟨.S1 d f, lv, ln, gd⟩ 10 = nl ⟨.S1 d f, lv, ln, gd⟩ := by simp [step, stepS, hq d]
              rw [e]; exact hn
  | S1e d f =>
    have e : step ⟨.S1e d f, lv, ln, gd⟩ 10 = ⟨.S1 d f, lv, ln + 1, gd⟩ := rfl
    rw [e]
    unfold contOf openAt; dsimp only
    refine ⟨fun q => ?_, fun q => absurd q ne⟩
    split at q <;> cases q
  | S3 d k f =>
    have e : step ⟨.S3 d k f, lv, ln, gd⟩ 10 = ⟨.S3 d 0 f, lv, ln + 1, gd⟩ := by simp [step, hq d]
    rw [e]
    unfold contOf openAt; dsimp only
    refine ⟨fun q => ?_, fun q => absurd q ne⟩
    split at q <;> cases q
  | S3e d f =>
    have e : step ⟨.S3e d f, lv, ln, gd⟩ 10 = ⟨.S3 d 0 f, lv, ln + 1, gd⟩ := rfl
    rw [e]
    unfold contOf openAt; dsimp only
    refine ⟨fun q => ?_, fun q => absurd q ne⟩
    split at q <;> cases q

/- at the end of a text of whole lines -/
theorem end_last {l : List Nat} (h : l = [] ∨ l.getLast? = some 10) : (contOf (scan st0 l) = 0) ↔ (scan st0 l).gd.getLast? = some (scan st0 l).ln := by
  rcases h with rfl | h
  · exact ⟨fun _ => rfl, fun _ => rfl⟩
  · obtain ⟨a, rfl⟩ : ∃ a, l = a ++ [10] := by
      refine ⟨l.dropLast, ?_⟩
      have hne : l ≠ [] := fun e => by rw [e] at h; cases h
      have := List.dropLast_concat_getLast hne
      rw [List.getLast?_eq_some_getLast hne] at h
      injection h with h
      rw [h] at this; exact this.symm
    rw [scan_append]
    exact nl_last _ (gd_scan a st0 ⟨0, rfl, Nat.le_refl _⟩)
end Mine
end
section
set_option linter.unusedVariables false
set_option maxRecDepth 100000
set_option maxHeartbeats 4000000
namespace Mine
open PySem PyProof.Rows PySem.W
section
variable {P : Pm} {pr : List Nat}

theorem asg_to' {n i : Nat} {e : IE} {r : List IS} {l : Sl} {c c' : Cells} {K : F → Sg' → Prop} (v : V) (he : ∀ K' : V → Cells → Prop, K' v c' → wpE P n e l c K') (h : wpB P pr (n + 1) r ⟨l.set i (some v), c'⟩ K) : wpB P pr (n + 2) (.asg i e :: r) ⟨l, c⟩ K := by
  rw [wpB, wpS]
  exact he _ h
theorem if_to {n : Nat} {t : IE} {a b r : List IS} {l : Sl} {c c' : Cells} {K : F → Sg' → Prop} (q : Bool) (ht : ∀ K' : Bool → Cells → Prop, K' q c' → wpT P n t l c K')
    (h : wpB P pr n (if q then a else b) ⟨l, c'⟩ (fun f τ => match f with | .next => wpB P pr (n + 1) r τ K | f => K f τ)) : wpB P pr (n + 2) (.if_ t a b :: r) ⟨l, c⟩ K := by
  rw [wpB, wpS]
  refine ht _ ⟨fun e => ?_, fun e => ?_⟩
  · subst e; exact h
  · subst e; exact h
theorem nil_to {n : Nat} {σ : Sg'} {K : F → Sg' → Prop} (h : K .next σ) : wpB P pr (n + 1) [] σ K := by
  rw [wpB]; exact h
theorem assert_to {n : Nat} {t : IE} {r : List IS} {l : Sl} {c c' : Cells} {K : F → Sg' → Prop} (ht : ∀ K' : Bool → Cells → Prop, K' true c' → wpT P n t l c K')
    (h : wpB P pr (n + 1) r ⟨l, c'⟩ K) : wpB P pr (n + 2) (.assert t :: r) ⟨l, c⟩ K := by
  rw [wpB, wpS]
  exact ht _ ⟨rfl, h⟩
theorem setattrK_to {c : Cells} {k dk : Nat} {fs : List (Str × V)} {nm : Str} {v : V} {K : Cells → Prop} (hk : cget c k = some (.inst P.C dk)) (hdk : cget c dk = some (.ns fs)) (hat : P.attr nm = true) (hsz : fs.length ≤ 1000) (h : K (cset c dk (.ns (put fs nm v)))) : setattrK P c (.obj k) nm v K := by
  unfold setattrK
  dsimp only
  rw [hk]
  dsimp only
  rw [hdk]
  exact ⟨rfl, hat, hsz, h⟩
theorem asgA_to {n : Nat} {o e : IE} {nm : Str} {r : List IS} {l : Sl} {c c' : Cells} {K : F → Sg' → Prop} (v : V) {k dk : Nat} {fs : List (Str × V)} (he : ∀ K' : V → Cells → Prop, K' v c' → wpE P n e l c K') (ho : ∀ K' : V → Cells → Prop, K' (.obj k) c' → wpE P n o l c' K')
    (hk : cget c' k = some (.inst P.C dk)) (hdk : cget c' dk = some (.ns fs)) (hat : P.attr nm = true) (hsz : fs.length ≤ 1000)
    (h : wpB P pr (n + 1) r ⟨l, cset c' dk (.ns (put fs nm v))⟩ K) : wpB P pr (n + 2) (.asgA o nm e :: r) ⟨l, c⟩ K := by
  rw [wpB, wpS]
  exact he _ (ho _ (setattrK_to hk hdk hat hsz h))
theorem asgA2_to {n j : Nat} {o e : IE} {nm : Str} {r : List IS} {l : Sl} {c c' : Cells} {K : F → Sg' → Prop} (v : V) {k dk : Nat} {fs : List (Str × V)} (he : ∀ K' : V → Cells → Prop, K' v c' → wpE P n e l c K') (ho : ∀ K' : V → Cells → Prop, K' (.obj k) c' → wpE P n o l c' K')
    (hk : cget c' k = some (.inst P.C dk)) (hdk : cget c' dk = some (.ns fs)) (hat : P.attr nm = true) (hsz : fs.length ≤ 1000)
    (h : wpB P pr (n + 1) r ⟨l.set j (some v), cset c' dk (.ns (put fs nm v))⟩ K) : wpB P pr (n + 2) (.asgA2 o nm j e :: r) ⟨l, c⟩ K := by
  rw [wpB, wpS]
  exact he _ (ho _ (setattrK_to hk hdk hat hsz h))
theorem attr_to {n : Nat} {o : IE} {nm : Str} {l : Sl} {c : Cells} {k dk : Nat} {fs : List (Str × V)} {v : V} (ho : ∀ K' : V → Cells → Prop, K' (.obj k) c → wpE P n o l c K')
    (hk : cget c k = some (.inst P.C dk)) (hdk : cget c dk = some (.ns fs)) (hat : P.attr nm = true) (hl : look fs nm = some v) (hv : handV v = true) (K' : V → Cells → Prop) (h : K' v c) : wpE P (n + 1) (.attr o nm) l c K' := by
  rw [wpE]
  refine ho _ ⟨hat, ?_⟩
  unfold instK
  dsimp only
  rw [hk]
  dsimp only
  rw [hdk]
  refine ⟨rfl, ?_⟩
  dsimp only
  rw [hl]
  exact ⟨hv, h⟩
theorem attr_v {n i : Nat} {nm : Str} {l : Sl} {c : Cells} {k dk : Nat} {fs : List (Str × V)} {v : V} (hi : lget l i = some (.obj k))
    (hk : cget c k = some (.inst P.C dk)) (hdk : cget c dk = some (.ns fs)) (hat : P.attr nm = true) (hl : look fs nm = some v) (hv : handV v = true) (K' : V → Cells → Prop) (h : K' v c) : wpE P (n + 2) (.attr (.v i) nm) l c K' :=
  attr_to (n := n + 1) (k := k) (fun K' h => by rw [wpE, hi]; exact h) hk hdk hat hl hv K' h

theorem asg2_to {n i j : Nat} {e : IE} {r : List IS} {l : Sl} {c c' : Cells} {K : F → Sg' → Prop} (v : V) (he : ∀ K' : V → Cells → Prop, K' v c' → wpE P n e l c K') (h : wpB P pr (n + 1) r ⟨(l.set i (some v)).set j (some v), c'⟩ K) : wpB P pr (n + 2) (.asg2 i j e :: r) ⟨l, c⟩ K := by
  rw [wpB, wpS]
  exact he _ h
theorem unp2_to {n i j : Nat} {a b : IE} {r : List IS} {l : Sl} {c : Cells} {K : F → Sg' → Prop} (u v : D) (ha : ∀ K' : V → Cells → Prop, K' (.d u) c → wpE P n a l c K') (hb : ∀ K' : V → Cells → Prop, K' (.d v) c → wpE P n b l c K')
    (h : wpB P pr (n + 1) r ⟨(l.set j (some (.d v))).set i (some (.d u)), c⟩ K) : wpB P pr (n + 2) (.unp2 i j a b :: r) ⟨l, c⟩ K := by
  rw [wpB, wpS]
  exact ha _ (hb _ ⟨⟨_, _, rfl, rfl⟩, h⟩)
theorem bnd_v {n i b j : Nat} {l : Sl} {c : Cells} {xs : List D} (hi : lget l i = some (.obj j)) (hj : cget c j = some (.list xs)) (hb : b ∉ dom c) (K' : V → Cells → Prop) (h : K' (.obj b) (c ++ [(b, .bound "list.append" j)])) : wpE P (n + 2) (.bnd (.v i) b) l c K' := by
  rw [wpE, wpE, hi]
  dsimp only
  rw [hj]
  exact ⟨hb, h⟩
theorem last_item {c : Cells} {g : Nat} {gd : List Nat} {m : Nat} (hg : cget c g = some (.list (gd.map fun m : Nat => D.int m))) (hm : gd.getLast? = some m) (hl : gd.length ≤ big) {K : D → Prop} (h : K (.int m)) : itemK c (.obj g) (.d (.int (-1))) K := by
  have hne : gd ≠ [] := fun e => by rw [e] at hm; cases hm
  have hpos := List.length_pos_iff.mpr hne
  unfold itemK
  dsimp only [seqOf]
  rw [hg]
  refine ⟨by rw [List.length_map]; exact hl, gd.length - 1, .int m, ?_, ?_, h⟩
  · rw [List.length_map]
    unfold seqIndex?
    simp only [show ((-1 : Int) < 0) from by decide, if_true]
    rw [if_pos (by simp only [Bool.and_eq_true, decide_eq_true_eq]; omega)]
    congr 1; omega
  · rw [List.getLast?_eq_getElem?] at hm
    rw [List.getElem?_map, hm]; rfl

theorem vD (U U' : Cells) (d : D) : vW U U' (.d d) (.d d) := .inl ⟨rfl, trivial⟩
theorem cmpT_to {n : Nat} {op : CmpOp} {a b : IE} {l : Sl} {c : Cells} {K : Bool → Cells → Prop} (u v : V) (ha : ∀ K' : V → Cells → Prop, K' u c → wpE P n a l c K') (hb : ∀ K' : V → Cells → Prop, K' v c → wpE P n b l c K') (h : cmpK c op u v (fun r => K r c)) : wpT P (n + 1) (.cmp op a b) l c K := by
  rw [wpT]; exact ha _ (hb _ h)
theorem cmpE_to {n : Nat} {op : CmpOp} {a b : IE} {l : Sl} {c : Cells} {K : V → Cells → Prop} (u v : V) (ha : ∀ K' : V → Cells → Prop, K' u c → wpE P n a l c K') (hb : ∀ K' : V → Cells → Prop, K' v c → wpE P n b l c K') (h : cmpK c op u v (fun r => K (.d (.bool r)) c)) : wpE P (n + 1) (.cmp op a b) l c K := by
  rw [wpE]; exact ha _ (hb _ h)
theorem itemE_to {n : Nat} {a b : IE} {l : Sl} {c : Cells} {K : V → Cells → Prop} (u v : V) (ha : ∀ K' : V → Cells → Prop, K' u c → wpE P n a l c K') (hb : ∀ K' : V → Cells → Prop, K' v c → wpE P n b l c K') (h : itemK c u v (fun d => K (.d d) c)) : wpE P (n + 1) (.item a b) l c K := by
  rw [wpE]; exact ha _ (hb _ h)

noncomputable abbrev nSl : Str := Str.ofString "study_level"
noncomputable abbrev nCode : Str := Str.ofString "code"
noncomputable abbrev nGl : Str := Str.ofString "goodlines"
noncomputable abbrev nCt : Str := Str.ofString "continuation"
noncomputable def intsD (l : List Nat) : List D := l.map fun m : Nat => D.int m
noncomputable def trS (x : Str) : Str := ⟨x.cps.map tr⟩
noncomputable def fin (x : Str) : St := scan st0 ((sg x).map tr)
noncomputable def studied (fs : List (Str × V)) (x : Str) : List (Str × V) :=
  put (put (put fs nSl (.d (.int 1))) nGl (.d (.lst (intsD (goodOf (fin x)))))) nCt (.d (.int (contOf (fin x))))
structure TextOk (x : Str) : Prop where
  ascii : ∀ ch ∈ sg x, ch < 128
  ends : sg x = [] ∨ (sg x).getLast? = some 10
  len : (sg x).length + 5 ≤ big
structure AttrOk (P : Pm) : Prop where
  sl : P.attr nSl = true
  co : P.attr nCode = true
  gl : P.attr nGl = true
  ct : P.attr nCt = true

theorem nSl_code : nCode ≠ nSl := by decide +kernel
theorem put_len (fs : List (Str × V)) (x : Str) (v : V) : (put fs x v).length ≤ fs.length + 1 := by
  rw [length_put]; split <;> omega

theorem sg_len (x : Str) : (sg x).length = x.length := by simp [sg, Str.length]
theorem replace_le {x y z : Str} (hy : y.length ≠ 0) (h : (sg z).length ≤ (sg y).length) {m : Nat} (hx : x.length ≤ m) : (Txt.replace x y z).length ≤ m := by
  have := len_replace (x := x) hy h
  rw [sg_len, sg_len] at this; omega

theorem sg_trS (x : Str) : sg (trS x) = (sg x).map tr := by simp [sg, trS]
theorem tr_sign (c : Nat) : tr c = 10 ∨ tr c = 34 ∨ tr c = 35 ∨ tr c = 39 ∨ tr c = 40 ∨ tr c = 41 ∨ tr c = 92 ∨ tr c = 120 := by
  unfold tr
  split
  · simp
  split
  · simp
  split
  · rename_i h; rcases h with rfl | rfl | rfl | rfl | rfl <;> simp
  · simp
structure SqOk (y : Str) (s : St) : Prop where
  last : sg y = [] ∨ (sg y).getLast? = some 10
  signs : Signs y
  len : (sg y).length + 5 ≤ big
  scan : scan st0 (sg y) = s
theorem sq_ok {x : Str} (T : TextOk x) : SqOk (squash (trS x)) (fin x) := by
  have hl : sg (trS x) = [] ∨ (sg (trS x)).getLast? = some 10 := by
    rw [sg_trS]
    rcases T.ends with h | h
    · exact .inl (by rw [h]; rfl)
    · exact .inr (by rw [List.getLast?_map, h]; rfl)
  have hn : (sg (trS x)).getLast? ≠ some 120 := by
    rcases hl with h | h <;> rw [h] <;> simp
  have hlen : (sg (squash (trS x))).length ≤ (sg (trS x)).length := by
    unfold squash
    refine Nat.le_trans (len_replace (by decide) (by decide)) (Nat.le_trans (len_replace (by decide) (by decide)) (Nat.le_trans (len_replace (by decide) (by decide)) (Nat.le_trans (len_replace (by decide) (by decide)) (len_replace (by decide) (by decide)))))
  have hlen2 : (sg (trS x)).length = (sg x).length := by rw [sg_trS, List.length_map]
  refine ⟨?_, fun c hc => ?_, by have := T.len; omega, by rw [squash_scan _ hn, sg_trS]; rfl⟩
  · rcases hl with h | h
    · refine .inl (List.length_eq_zero_iff.mp ?_)
      rw [h] at hlen; exact Nat.le_zero.mp hlen
    · exact .inr (by rw [squash_last _ hn, h])
  · rcases squash_mem hc with h | h | h
    · simp [h]
    · simp [h]
    · rw [sg_trS] at h
      obtain ⟨a, _, rfl⟩ := List.mem_map.mp h
      exact tr_sign a

theorem cons_to {n : Nat} {st : IS} {r : List IS} {σ : Sg'} {K : F → Sg' → Prop} (h : wpS P pr n st σ (fun f τ => match f with | .next => wpB P pr n r τ K | f => K f τ)) : wpB P pr (n + 1) (st :: r) σ K := by
  rw [wpB]; exact h

theorem ct_end {y : Str} {s : St} {ct : Int} (hO : OutC y (sg y).length s ct) : contOf s = if (ct ≠ 2 ∧ ct ≠ 3 ∧ 0 < s.lv) then 4 else ct := by
  rcases hO with ⟨h, e⟩ | ⟨_, _, f, h, e⟩
  · have hm := h.2.2.2 rfl
    have ho : openAt s.md = none := by rcases hm with q | q <;> rw [q] <;> rfl
    unfold contOf
    rw [ho]
    dsimp only
    rcases hm with q | q
    · rw [q, if_neg (fun q => by cases q.1)] at e
      subst e
      rw [q]
      by_cases hz : 0 < s.lv
      · rw [if_pos hz, if_pos ⟨by decide, by decide, hz⟩]
      · rw [if_neg hz, if_neg (show ¬ Md.N = Md.Nb by simp), if_neg (fun q => hz q.2.2)]
    · rw [q, if_pos ⟨rfl, rfl⟩] at e
      subst e
      rw [q]
      by_cases hz : 0 < s.lv
      · rw [if_pos hz, if_pos ⟨by decide, by decide, hz⟩]
      · rw [if_neg hz, if_pos (show Md.Nb = Md.Nb from rfl), if_neg (fun q => hz q.2.2)]
  · unfold contOf
    rw [h]
    dsimp only
    rw [← e, if_neg]
    intro q
    rw [e] at q
    split at q
    · exact q.1 rfl
    · exact q.2.1 rfl

noncomputable def ibEnd : List IS := [
  .if_ (.and (.cmp .NotEq (.v 2) (.g (.d (.int 2)))) (.and (.cmp .NotEq (.v 2) (.g (.d (.int 3)))) (.cmp .Gt (.v 3) (.c (.int 0))))) [
    .asg 2 (.g (.d (.int 4)))] [],
  .asgA (.v 0) (Str.ofString "continuation") (.v 2),
  .assert (.cmp .Eq (.cmp .Eq (.v 2) (.g (.d (.int 0)))) (.cmp .Eq (.item (.v 5) (.c (.int (-1)))) (.v 4))),
  .if_ (.cmp .NotEq (.item (.v 5) (.c (.int (-1)))) (.v 4)) [
    .expr (.call (.v 6) [(.v 4)] none)] []]

theorem push_any {k g b : Nat} {Wc : List Nat → Cells} (C : Cel Wc k g b pr) {n : Nat} {l : Sl} {gd : List Nat} {m : Nat} {K : F → Sg' → Prop} (h6 : lget l 6 = some (.obj b)) (h4 : lget l 4 = some (.d (.int (m : Int)))) (hgd : gd.length ≤ big) (h : K .next ⟨l, Wc (gd ++ [m])⟩) :
    wpB P pr (n + 5) [.expr (.call (.v 6) [(.v 4)] none)] ⟨l, Wc gd⟩ K := by
  simp only [wpB, wpS, wpE, wpEs, h6, h4]
  unfold callK
  dsimp only
  rw [C.b_ gd]
  dsimp only
  rw [C.g_ gd]
  dsimp only
  rw [C.set gd m]
  exact ⟨rfl, by rw [List.length_map]; exact hgd, h⟩

theorem study_end {k dk g b n : Nat} {c : Cells} {fs f2 : List (Str × V)} {x y : Str} (A : AttrOk P) (W : Wf c) (hk : cget c k = some (.inst P.C dk)) (hdk : cget c dk = some (.ns fs)) (hsz : fs.length ≤ 900)
    (hg : g ∉ dom c) (hb : b ∉ dom c) (hgb : g ≠ b) (hf2 : put (put fs nSl (.d (.int 1))) nGl (.obj g) = f2) (T : TextOk x) (hsc : scan st0 (sg y) = fin x) (hlast : sg y = [] ∨ (sg y).getLast? = some 10) (hlen : (sg y).length + 5 ≤ big)
    {s : St} {ct : Int} {r : List (Option V)} (hO : OutC y (sg y).length s ct) (hs : s = scan st0 (sg y)) {K : V → Cells → Prop} (hK : K (.d .none) (cset c dk (.ns (studied fs x)))) :
    wpB P (dom c) (n + 100) ibEnd ⟨slots k g b y ct s.lv s.ln (sg y).length (sg y).length r, Wcs c dk g b f2 s.gd⟩ (fun f τ => ∃ v' c', vW τ.c c' (retOf f) v' ∧ celW τ.c c' c' ∧ (∀ j ∈ dom c, j ∈ dom c') ∧ K v' c') := by
  have kne : k ≠ dk := fun e => by rw [e, hdk] at hk; cases hk
  have kd := cget_mem hk
  have dkd := cget_mem hdk
  have ngk : k ≠ g := fun e => hg (e ▸ kd)
  have ngd : dk ≠ g := fun e => hg (e ▸ dkd)
  have nbk : k ≠ b := fun e => hb (e ▸ kd)
  have nbd : dk ≠ b := fun e => hb (e ▸ dkd)
  have hce := ct_end hO
  have get := fun (f : List (Str × V)) gd j => wcs_get (c := c) (f := f) hg hb hgb dkd gd j
  have hgd : s.gd.length ≤ big := by
    rw [hs]; have := gd_len st0 (sg y); have h3 : st0.gd.length = 1 := rfl; omega
  obtain ⟨m, hm1, hm2⟩ := gd_scan (sg y) st0 ⟨0, rfl, Nat.le_refl _⟩
  rw [← hs] at hm1 hm2
  have hel := end_last hlast
  rw [← hs] at hel
  unfold ibEnd
  have tail : ∀ n', wpB P (dom c) (n' + 90) [
      .asgA (.v 0) (Str.ofString "continuation") (.v 2),
      .assert (.cmp .Eq (.cmp .Eq (.v 2) (.g (.d (.int 0)))) (.cmp .Eq (.item (.v 5) (.c (.int (-1)))) (.v 4))),
      .if_ (.cmp .NotEq (.item (.v 5) (.c (.int (-1)))) (.v 4)) [
        .expr (.call (.v 6) [(.v 4)] none)] []] ⟨slots k g b y (contOf s) s.lv s.ln (sg y).length (sg y).length r, Wcs c dk g b f2 s.gd⟩ (fun f τ => ∃ v' c', vW τ.c c' (retOf f) v' ∧ celW τ.c c' c' ∧ (∀ j ∈ dom c, j ∈ dom c') ∧ K v' c') := by
    intro n'
    have hf2l : f2.length ≤ 1000 := by
      rw [← hf2]
      have h1 := put_len (put fs nSl (.d (.int 1))) nGl (.obj g)
      have h2 := put_len fs nSl (.d (.int 1))
      omega
    refine asgA_to (n := n' + 88) (.d (.int (contOf s))) (k := k) (dk := dk) (fs := f2) (c' := Wcs c dk g b f2 s.gd) (fun K' h => h) (fun K' h => h)
      (by rw [get, if_neg nbk, if_neg ngk, if_neg kne]; exact hk) (by rw [get, if_neg nbd, if_neg ngd, if_pos rfl]) A.ct hf2l ?_
    have e3 : cset (Wcs c dk g b f2 s.gd) dk (.ns (put f2 nCt (.d (.int (contOf s))))) = Wcs c dk g b (put f2 nCt (.d (.int (contOf s)))) s.gd := by
      unfold Wcs
      rw [cset_append (by rw [dom_append, dom_cset]; simp [dkd]), cset_append (by rw [dom_cset]; exact dkd), cset_cset]
    rw [e3]
    generalize hf3 : put f2 nCt (.d (.int (contOf s))) = f3
    have f3w : ∀ U U', (∀ j ∈ dom c, j ∈ dom U') → g ∈ dom U' → fsW U U' f3 f3 := fun U U' h1 h2 => by
      rw [← hf3, ← hf2]
      have v1 : vW U U' (.obj g) (.obj g) := .inl ⟨rfl, h2⟩
      have v2 : vW U U' (.d (.int 1)) (.d (.int 1)) := .inl ⟨rfl, trivial⟩
      have v3 : vW U U' (.d (.int (contOf s))) (.d (.int (contOf s))) := .inl ⟨rfl, trivial⟩
      exact fsW_put v3 (fsW_put v1 (fsW_put v2 (fsW_ext h1 (W.fs hdk))))
    have CE : Cel (Wcs c dk g b f3) k g b (dom c) := wcs_cel W kd hg hb hgb hdk (f3w _ _ (fun j hj => by rw [wcs_dom]; simp [hj]) (by rw [wcs_dom]; simp))
    have fine : ∀ gd, gd = goodOf s → ∃ v' c', vW (Wcs c dk g b f3 gd) c' (.d .none) v' ∧ celW (Wcs c dk g b f3 gd) c' c' ∧ (∀ j ∈ dom c, j ∈ dom c') ∧ K v' c' := by
      intro gd hgd'
      refine ⟨.d .none, cset c dk (.ns (studied fs x)), .inl ⟨rfl, trivial⟩, ?_, fun j hj => by rw [dom_cset]; exact hj, hK⟩
      refine W.out hdk (f := f3) (fun j h1 h2 => ?_) (by rw [get, if_neg nbd, if_neg ngd, if_pos rfl]) ?_
      · rw [get, if_neg (fun e : j = b => hb (by rw [← e]; exact h2)), if_neg (fun e : j = g => hg (by rw [← e]; exact h2)), if_neg h1]
      · rw [← hf3, ← hf2]
        unfold studied
        have hfin : fin x = s := by rw [hs, hsc]
        rw [hfin]
        have v1 : vW (Wcs c dk g b (put (put (put fs nSl (.d (.int 1))) nGl (.obj g)) nCt (.d (.int (contOf s)))) gd) (cset c dk (.ns (put (put (put fs nSl (.d (.int 1))) nGl (.d (.lst (intsD (goodOf s))))) nCt (.d (.int (contOf s)))))) (.obj g) (.d (.lst (intsD (goodOf s)))) :=
          .inr ⟨g, intsD (goodOf s), rfl, by rw [get, if_neg hgb, if_pos rfl, hgd']; rfl, rfl, by rw [dom_cset]; exact hg⟩
        refine fsW_put (vD _ _ _) (fsW_put v1 (fsW_put (vD _ _ _) (fsW_ext (fun j hj => by rw [dom_cset]; exact hj) (W.fs hdk))))
    have itl : ∀ n'' (K' : V → Cells → Prop), K' (.d (.int m)) (Wcs c dk g b f3 s.gd) → wpE P (n'' + 2) (.item (.v 5) (.c (.int (-1)))) (slots k g b y (contOf s) s.lv s.ln (sg y).length (sg y).length r) (Wcs c dk g b f3 s.gd) K' := fun n'' K' h =>
      itemE_to (n := n'' + 1) (.obj g) (.d (.int (-1))) (fun K' h => h) (fun K' h => h) (last_item (CE.g_ s.gd) hm1 hgd h)
    refine assert_to (n := n' + 87) (c' := Wcs c dk g b f3 s.gd) (fun K' h => ?_) ?_
    · refine cmpT_to (n := n' + 86) (.d (.bool (contOf s == 0))) (.d (.bool ((m : Int) == s.ln))) (fun K' h => h) (fun K' h => cmpE_to (n := n' + 85) (.d (.int m)) (.d (.int s.ln)) (itl (n' + 83)) (fun K' h => h) h) ?_
      have : ((contOf s == 0) == ((m : Int) == s.ln)) = true := by
        rw [hm1] at hel
        by_cases hme : m = s.ln
        · rw [hel.mpr (by rw [hme])]
          simp [hme]
        · have h1 : (contOf s == 0) = false := beq_eq_false_iff_ne.mpr fun e => hme (by have := hel.mp e; injection this)
          have h2 : ((m : Int) == s.ln) = false := beq_eq_false_iff_ne.mpr fun e => hme (by omega)
          rw [h1, h2]; rfl
      show K' ((contOf s == 0) == ((m : Int) == s.ln)) _
      rw [this]; exact h
    refine if_to (n := n' + 86) (c' := Wcs c dk g b f3 s.gd) (decide (m ≠ s.ln)) (fun K' h => ?_) ?_
    · refine cmpT_to (n := n' + 85) (.d (.int m)) (.d (.int s.ln)) (itl (n' + 83)) (fun K' h => h) ?_
      show K' ((m : Int) != s.ln) _
      have : ((m : Int) != s.ln) = decide (m ≠ s.ln) := by
        by_cases hme : m = s.ln
        · simp [hme]
        · have h2 : ((m : Int) != s.ln) = true := bne_iff_ne.mpr fun e => hme (by omega)
          rw [h2]; simp [hme]
      rw [this]; exact h
    · by_cases hme : m = s.ln
      · rw [if_neg (by simp [hme])]
        refine nil_to (nil_to (fine _ ?_))
        unfold goodOf
        rw [hm1, hme, if_pos rfl]
      · rw [if_pos (by simp [hme])]
        refine push_any (n := n' + 81) CE (m := s.ln) rfl rfl hgd (nil_to (fine _ ?_))
        unfold goodOf
        rw [hm1, if_neg (fun q => hme (by injection q))]
  have hq : ∀ n' (K' : Bool → Cells → Prop) cc, K' (decide (ct ≠ 2 ∧ ct ≠ 3 ∧ 0 < s.lv)) cc → wpT P (n' + 20) (.and (.cmp .NotEq (.v 2) (.g (.d (.int 2)))) (.and (.cmp .NotEq (.v 2) (.g (.d (.int 3)))) (.cmp .Gt (.v 3) (.c (.int 0))))) (slots k g b y ct s.lv s.ln (sg y).length (sg y).length r) cc K' := by
    intro n' K' cc h
    conv => whnf
    refine ⟨fun h1 => ?_, fun h1 => ?_⟩
    · have h1 : ct = 2 := bne_eq_false_iff_eq.mp h1
      rw [decide_eq_false (fun q => q.1 h1)] at h; exact h
    have h1 : ct ≠ 2 := bne_iff_ne.mp h1
    conv => whnf
    refine ⟨fun h2 => ?_, fun h2 => ?_⟩
    · have h2 : ct = 3 := bne_eq_false_iff_eq.mp h2
      rw [decide_eq_false (fun q => q.2.1 h2)] at h; exact h
    have h2 : ct ≠ 3 := bne_iff_ne.mp h2
    show K' (decide ((0 : Int) < s.lv)) cc
    have : decide ((0 : Int) < s.lv) = decide (ct ≠ 2 ∧ ct ≠ 3 ∧ 0 < s.lv) := by
      by_cases hz : 0 < s.lv
      · rw [decide_eq_true (by omega), decide_eq_true ⟨h1, h2, hz⟩]
      · rw [decide_eq_false (by omega), decide_eq_false (fun q => hz q.2.2)]
    rw [this]; exact h
  refine if_to (n := n + 98) (c' := Wcs c dk g b f2 s.gd) _ (fun K' h => hq (n + 78) K' _ h) ?_
  by_cases hz : ct ≠ 2 ∧ ct ≠ 3 ∧ 0 < s.lv
  · rw [if_pos (by rw [decide_eq_true hz])]
    rw [if_pos hz] at hce
    refine asg_to (n := n + 96) (.d (.int 4)) (fun K' h => h) (nil_to ?_)
    have := tail (n + 9)
    rw [hce] at this
    exact this
  · rw [if_neg (by rw [decide_eq_false hz]; decide)]
    rw [if_neg hz] at hce
    refine nil_to (n := n + 97) ?_
    have := tail (n + 9)
    rw [hce] at this
    exact this

theorem study_ok {k dk g b td n : Nat} {c : Cells} {fs : List (Str × V)} {x : Str} (A : AttrOk P) (htd : td = P.td) (htr : P.tr = tr) (W : Wf c) (hk : cget c k = some (.inst P.C dk)) (hdk : cget c dk = some (.ns fs)) (hsz : fs.length ≤ 900)
    (hlv : look fs nSl = some (.d (.int 0))) (hco : look fs nCode = some (.d (.str x))) (T : TextOk x) (hg : g ∉ dom c) (hb : b ∉ dom c) (hgb : g ≠ b) {K : V → Cells → Prop} (hK : K (.d .none) (cset c dk (.ns (studied fs x)))) :
    wpB P (dom c) (n + 130) (ibStudy td g b) ⟨start [.obj k] 12, c⟩ (fun f τ => ∃ v' c', vW τ.c c' (retOf f) v' ∧ celW τ.c c' c' ∧ (∀ j ∈ dom c, j ∈ dom c') ∧ K v' c') := by
  have kne : k ≠ dk := fun e => by rw [e, hdk] at hk; cases hk
  have kd := cget_mem hk
  have dkd := cget_mem hdk
  have hxb : x.length ≤ big := by have := T.len; rw [sg_len] at this; omega
  unfold ibStudy
  refine if_to (n := n + 128) false (c' := c) (fun K' h => ?_) (nil_to ?_)
  · rw [wpT]
    exact attr_v (n := n + 125) rfl hk hdk A.sl hlv rfl _ h
  refine asgA_to (n := n + 127) (.d (.int 1)) (c' := c) (k := k) (fun K' h => h) (fun K' h => h) hk hdk A.sl (by omega) ?_
  have hk1 : cget (cset c dk (.ns (put fs nSl (.d (.int 1))))) k = some (.inst P.C dk) := by rw [cget_cset dkd, if_neg kne]; exact hk
  have hdk1 : cget (cset c dk (.ns (put fs nSl (.d (.int 1))))) dk = some (.ns (put fs nSl (.d (.int 1)))) := by rw [cget_cset dkd, if_pos rfl]
  refine asg_to (n := n + 126) (.d (.str x)) (fun K' h => attr_v (n := n + 124) rfl hk1 hdk1 A.co (by rw [look_put, if_neg nSl_code]; exact hco) rfl _ h) ?_
  have htx : (⟨x.cps.map P.tr⟩ : Str) = trS x := by rw [htr]; rfl
  refine asg_to (n := n + 125) (.d (.str (trS x))) (fun K' h => ⟨htd, T.ascii, hxb, by rw [htx]; exact h⟩) ?_
  have l0 : (trS x).length ≤ big := by show (x.cps.map tr).size ≤ big; rw [Array.size_map]; exact hxb
  have l1 := replace_le (y := X 8) (z := X 1) (by decide) (by decide) l0
  have l2 := replace_le (y := X 4) (z := X 1) (by decide) (by decide) l1
  have l3 := replace_le (y := X 2) (z := X 1) (by decide) (by decide) l2
  have l4 := replace_le (y := X 2) (z := X 1) (by decide) (by decide) l3
  refine asg_to (n := n + 124) (.d (.str _)) (fun K' h => ⟨l0, by decide, by decide, h⟩) ?_
  refine asg_to (n := n + 123) (.d (.str _)) (fun K' h => ⟨l1, by decide, by decide, h⟩) ?_
  refine asg_to (n := n + 122) (.d (.str _)) (fun K' h => ⟨l2, by decide, by decide, h⟩) ?_
  refine asg_to (n := n + 121) (.d (.str _)) (fun K' h => ⟨l3, by decide, by decide, h⟩) ?_
  refine asg_to (n := n + 120) (.d (.str (squash (trS x)))) (fun K' h => ⟨l4, by decide, by decide, h⟩) ?_
  have SQ := sq_ok T
  generalize squash (trS x) = y at SQ ⊢
  have hyb : y.length ≤ big := by have := SQ.len; rw [sg_len] at this; omega
  refine asg_to (n := n + 119) (.d (.int 0)) (fun K' h => h) ?_
  refine asg2_to (n := n + 118) (.d (.int 0)) (fun K' h => h) ?_
  have d1 : dom (cset c dk (.ns (put fs nSl (.d (.int 1))))) = dom c := dom_cset ..
  have hg1 : g ∉ dom (cset c dk (.ns (put fs nSl (.d (.int 1))))) := by rw [d1]; exact hg
  have ngk : k ≠ g := fun e => hg (e ▸ kd)
  have ngd : dk ≠ g := fun e => hg (e ▸ dkd)
  refine asgA2_to (n := n + 117) (.obj g) (k := k) (dk := dk) (fs := put fs nSl (.d (.int 1))) (c' := cset c dk (.ns (put fs nSl (.d (.int 1)))) ++ [(g, .list [.int 0])]) (fun K' h => ⟨by decide, hg1, h⟩) (fun K' h => h)
    (by rw [cget_append hg1, if_neg ngk]; exact hk1) (by rw [cget_append hg1, if_neg ngd]; exact hdk1) A.gl (by have := put_len fs nSl (.d (.int 1)); omega) ?_
  have e2 : cset (cset c dk (.ns (put fs nSl (.d (.int 1)))) ++ [(g, .list [.int 0])]) dk (.ns (put (put fs nSl (.d (.int 1))) nGl (.obj g))) = cset c dk (.ns (put (put fs nSl (.d (.int 1))) nGl (.obj g))) ++ [(g, .list [.int 0])] := by
    rw [cset_append (by rw [d1]; exact dkd), cset_cset]
  rw [e2]
  generalize hf2 : put (put fs nSl (.d (.int 1))) nGl (.obj g) = f2
  have d2 : dom (cset c dk (.ns f2)) = dom c := dom_cset ..
  refine asg_to' (n := n + 116) (.obj b) (c' := Wcs c dk g b f2 [0]) (fun K' h => bnd_v (n := n + 114) (xs := [.int 0]) rfl (by rw [cget_append (by rw [d2]; exact hg), if_pos rfl]) (by rw [dom_append, d2]; simp [hb, Ne.symm hgb]) _ h) ?_
  refine unp2_to (n := n + 115) (.int 0) (.int ((sg y).length : Nat)) (fun K' h => h) (fun K' h => ⟨hyb, by rw [← sg_len]; exact h⟩) ?_
  have vok : ∀ (U : Cells) (v : D), vW U U (.d v) (.d v) := fun U v => .inl ⟨rfl, trivial⟩
  have f2w : ∀ U U', (∀ j ∈ dom c, j ∈ dom U') → g ∈ dom U' → fsW U U' f2 f2 := fun U U' h1 h2 => by
    rw [← hf2]
    have v1 : vW U U' (.obj g) (.obj g) := .inl ⟨rfl, h2⟩
    have v2 : vW U U' (.d (.int 1)) (.d (.int 1)) := .inl ⟨rfl, trivial⟩
    exact fsW_put v1 (fsW_put v2 (fsW_ext h1 (W.fs hdk)))
  have CE : Cel (Wcs c dk g b f2) k g b (dom c) := wcs_cel W kd hg hb hgb hdk (f2w _ _ (fun j hj => by rw [wcs_dom]; simp [hj]) (by rw [wcs_dom]; simp))
  have hl : ∀ i c, (sg y)[i]? = some c → i + 1 = (sg y).length → c = 10 := fun i c' h1 h2 => by
    rcases SQ.last with q | q
    · rw [q] at h1; simp at h1
    · rw [List.getLast?_eq_getElem?, ← h2, Nat.add_sub_cancel, h1] at q
      injection q
  have hend : sg y ≠ [] → (sg y)[(sg y).length - 1]? = some 10 := fun h1 => by
    rcases SQ.last with q | q
    · exact absurd q h1
    · rw [← List.getLast?_eq_getElem?]; exact q
  refine cons_to (n := n + 115) (outer_ok (n := n + 15) CE hl hend SQ.signs SQ.len (r := [none, none, none, none]) rfl fun s ct r hO hs => ?_)
  exact study_end A W hk hdk hsz hg hb hgb hf2 T (SQ.scan) SQ.last SQ.len hO hs hK
end
end Mine
end
section
set_option linter.unusedVariables false
set_option maxRecDepth 100000
set_option maxHeartbeats 4000000
namespace Mine
open PySem PyProof.Rows PySem.W
section
variable {P : Pm} {pr : List Nat}

theorem Wf.set {c : Cells} (W : Wf c) {dk : Nat} {fs fs' : List (Str × V)} (hdk : cget c dk = some (.ns fs)) (hf : fsW (cset c dk (.ns fs')) (cset c dk (.ns fs')) fs' fs') : Wf (cset c dk (.ns fs')) :=
  ⟨W.out hdk (f := fs') (fun j h1 h2 => by rw [cget_cset (cget_mem hdk), if_neg h1]) (by rw [cget_cset (cget_mem hdk), if_pos rfl]) hf, by rw [dom_cset]; exact W.nd⟩

noncomputable def ibInit : List IS := [
  .asgA (.v 0) (Str.ofString "indentwidth") (.v 1),
  .asgA (.v 0) (Str.ofString "tabwidth") (.v 2)]
noncomputable def ibSet : List IS := [
  .assert (.or (.cmp .Eq (.call (.g (.bi .len)) [(.v 1)] none) (.c (.int 0))) (.cmp .Eq (.item (.v 1) (.c (.int (-1)))) (.c (.str ⟨#[10]⟩)))),
  .asgA (.v 0) (Str.ofString "code") (.v 1),
  .asgA (.v 0) (Str.ofString "study_level") (.c (.int 0))]
noncomputable def ibCont (st : Addr) : List IS := [
  .expr (.umeth (.v 0) st (Str.ofString "_study1") []),
  .ret (some (.attr (.v 0) (Str.ofString "continuation")))]
noncomputable def ibNum (st : Addr) : List IS := [
  .expr (.umeth (.v 0) st (Str.ofString "_study1") []),
  .asg 1 (.attr (.v 0) (Str.ofString "goodlines")),
  .ret (some (.bin .Sub (.item (.v 1) (.c (.int (-1)))) (.item (.v 1) (.c (.int (-2))))))]
noncomputable def fs0 : List (Str × V) := [(Str.ofString "indentwidth", .d (.int 4)), (Str.ofString "tabwidth", .d (.int 8))]

/- the end of a def's body: nothing is dropped -/
noncomputable def EndP (c : Cells) (K : V → Cells → Prop) : F → Sg' → Prop := fun f τ => ∃ v' c', vW τ.c c' (retOf f) v' ∧ celW τ.c c' c' ∧ (∀ j ∈ dom c, j ∈ dom c') ∧ K v' c'
theorem EndP.same {c c' : Cells} {K : V → Cells → Prop} {f : F} {l : Sl} (W : Wf c') (hd : ∀ j ∈ dom c, j ∈ dom c') {d : D} (hr : retOf f = .d d) (h : K (.d d) c') : EndP c K f ⟨l, c'⟩ :=
  ⟨.d d, c', by rw [hr]; exact vD _ _ _, W.w, hd, h⟩

theorem init_ok {k dk n : Nat} {c : Cells} (h1 : P.attr (Str.ofString "indentwidth") = true) (h2 : P.attr (Str.ofString "tabwidth") = true) (W : Wf c) (hk : cget c k = some (.inst P.C dk)) (hdk : cget c dk = some (.ns []))
    {K : V → Cells → Prop} (hK : K (.d .none) (cset c dk (.ns fs0))) : wpB P (dom c) (n + 10) ibInit ⟨start [.obj k, .d (.int 4), .d (.int 8)] 0, c⟩ (EndP c K) := by
  have kne : k ≠ dk := fun e => by rw [e, hdk] at hk; cases hk
  have dkd := cget_mem hdk
  unfold ibInit
  refine asgA_to (n := n + 8) (.d (.int 4)) (c' := c) (k := k) (fun K' h => h) (fun K' h => h) hk hdk h1 (by decide) ?_
  refine asgA_to (n := n + 7) (.d (.int 8)) (c' := cset c dk (.ns (put [] (Str.ofString "indentwidth") (.d (.int 4))))) (k := k) (dk := dk) (fs := put [] (Str.ofString "indentwidth") (.d (.int 4))) (fun K' h => h) (fun K' h => h)
    (by rw [cget_cset dkd, if_neg kne]; exact hk) (by rw [cget_cset dkd, if_pos rfl]) h2 (by decide) ?_
  rw [cset_cset]
  have e : put (put [] (Str.ofString "indentwidth") (V.d (.int 4))) (Str.ofString "tabwidth") (V.d (.int 8)) = fs0 := by
    unfold fs0
    simp only [put]
    rw [if_neg (by decide +kernel)]
  rw [e]
  exact nil_to (EndP.same (W.set hdk ⟨rfl, vD _ _ _, rfl, vD _ _ _, trivial⟩) (fun j hj => by rw [dom_cset]; exact hj) rfl hK)

noncomputable def setd (fs : List (Str × V)) (x : Str) : List (Str × V) := put (put fs nCode (.d (.str x))) nSl (.d (.int 0))
theorem set_ok {k dk n : Nat} {c : Cells} {fs : List (Str × V)} {x : Str} (A : AttrOk P) (W : Wf c) (hk : cget c k = some (.inst P.C dk)) (hdk : cget c dk = some (.ns fs)) (hsz : fs.length ≤ 900) (T : TextOk x)
    {K : V → Cells → Prop} (hK : K (.d .none) (cset c dk (.ns (setd fs x)))) : wpB P (dom c) (n + 20) ibSet ⟨start [.obj k, .d (.str x)] 0, c⟩ (EndP c K) := by
  have kne : k ≠ dk := fun e => by rw [e, hdk] at hk; cases hk
  have dkd := cget_mem hdk
  have hxb : x.length ≤ big := by have := T.len; rw [sg_len] at this; omega
  unfold ibSet
  refine assert_to (n := n + 18) (c' := c) (fun K' h => ?_) ?_
  · conv => whnf
    refine ⟨hxb, ?_⟩
    conv => whnf
    refine ⟨fun q => h, fun q => ?_⟩
    have hne : sg x ≠ [] := fun e => by
      have : x.length = 0 := by rw [← sg_len, e]; rfl
      have q' : ((x.length : Int) == 0) = false := q
      rw [this] at q'; cases q'
    have hlast : (sg x).getLast? = some 10 := T.ends.resolve_left hne
    have hpos : 0 < x.length := by rw [← sg_len]; exact List.length_pos_iff.mpr hne
    conv => whnf
    refine ⟨show -(x.length : Int) ≤ -1 by omega, show (-1 : Int) < x.length by omega, hxb, ?_⟩
    show K' (Txt.item x (-1) == ⟨#[10]⟩) c
    rw [item_last hlast]
    exact h
  refine asgA_to (n := n + 17) (.d (.str x)) (c' := c) (k := k) (fun K' h => h) (fun K' h => h) hk hdk A.co (by omega) ?_
  refine asgA_to (n := n + 16) (.d (.int 0)) (c' := cset c dk (.ns (put fs nCode (.d (.str x))))) (k := k) (dk := dk) (fs := put fs nCode (.d (.str x))) (fun K' h => h) (fun K' h => h)
    (by rw [cget_cset dkd, if_neg kne]; exact hk) (by rw [cget_cset dkd, if_pos rfl]) A.sl (by have := put_len fs nCode (.d (.str x)); omega) ?_
  rw [cset_cset]
  refine nil_to (EndP.same (W.set hdk ?_) (fun j hj => by rw [dom_cset]; exact hj) rfl hK)
  exact fsW_put (vD _ _ _) (fsW_put (vD _ _ _) (fsW_ext (fun j hj => by rw [dom_cset]; exact hj) (W.fs hdk)))

theorem study_again {k dk g b td n : Nat} {c : Cells} {fs : List (Str × V)} (A : AttrOk P) (W : Wf c) (hk : cget c k = some (.inst P.C dk)) (hdk : cget c dk = some (.ns fs)) 
    (hlv : look fs nSl = some (.d (.int 1))) {K : V → Cells → Prop} (hK : K (.d .none) c) : wpB P (dom c) (n + 130) (ibStudy td g b) ⟨start [.obj k] 12, c⟩ (EndP c K) := by
  unfold ibStudy
  refine if_to (n := n + 128) true (c' := c) (fun K' h => ?_) ?_
  · rw [wpT]
    exact attr_v (n := n + 125) rfl hk hdk A.sl hlv rfl _ h
  · exact ⟨.d .none, c, vD _ _ _, W.w, fun _ h => h, hK⟩
end
end Mine
end
section
set_option linter.unusedVariables false
set_option maxRecDepth 100000
set_option maxHeartbeats 4000000
namespace Mine
open PySem PyProof.Rows PySem.W

noncomputable abbrev nS1 : Str := Str.ofString "_study1"
/- a parser with a text, read or not -/
structure ParAt (C : Addr) (c : Cells) (k dk : Nat) (fs : List (Str × V)) : Prop where
  w : Wf c
  k_ : cget c k = some (.inst C dk)
  d_ : cget c dk = some (.ns fs)
  no : look fs nS1 = none
structure Fresh (fs : List (Str × V)) (x : Str) : Prop where
  sl : look fs nSl = some (.d (.int 0))
  co : look fs nCode = some (.d (.str x))
  t : TextOk x
  len : fs.length ≤ 900
structure Read (fs : List (Str × V)) (s : St) : Prop where
  sl : look fs nSl = some (.d (.int 1))
  gl : look fs nGl = some (.d (.lst (intsD (goodOf s))))
  ct : look fs nCt = some (.d (.int (contOf s)))

noncomputable def studySpec (C : Addr) (g b : Nat) : Spec := fun vs c K => ∃ k dk fs, vs = [.obj k] ∧ ParAt C c k dk fs ∧
  ((look fs nSl = some (.d (.int 1)) ∧ K (.d .none) c) ∨ ∃ x, Fresh fs x ∧ g ∉ dom c ∧ b ∉ dom c ∧ K (.d .none) (cset c dk (.ns (studied fs x))))
noncomputable def initSpec (C : Addr) : Spec := fun vs c K => ∃ k dk, vs = [.obj k, .d (.int 4), .d (.int 8)] ∧ Wf c ∧ cget c k = some (.inst C dk) ∧ cget c dk = some (.ns []) ∧ K (.d .none) (cset c dk (.ns fs0))
noncomputable def setSpec (C : Addr) : Spec := fun vs c K => ∃ k dk fs x, vs = [.obj k, .d (.str x)] ∧ ParAt C c k dk fs ∧ fs.length ≤ 900 ∧ TextOk x ∧ K (.d .none) (cset c dk (.ns (setd fs x)))
noncomputable def contSpec (C : Addr) (g b : Nat) : Spec := fun vs c K => ∃ k dk fs, vs = [.obj k] ∧ ParAt C c k dk fs ∧
  ((∃ s, Read fs s ∧ K (.d (.int (contOf s))) c) ∨ ∃ x, Fresh fs x ∧ g ∉ dom c ∧ b ∉ dom c ∧ K (.d (.int (contOf (fin x)))) (cset c dk (.ns (studied fs x))))
noncomputable def numOf (s : St) : Int := ((goodOf s)[(goodOf s).length - 1]?.getD 0 : Nat) - ((goodOf s)[(goodOf s).length - 2]?.getD 0 : Nat)
noncomputable def numSpec (C : Addr) (g b : Nat) : Spec := fun vs c K => ∃ k dk fs, vs = [.obj k] ∧ ParAt C c k dk fs ∧
  ((∃ s, Read fs s ∧ 2 ≤ (goodOf s).length ∧ (goodOf s).length ≤ big ∧ K (.d (.int (numOf s))) c) ∨ ∃ x, Fresh fs x ∧ 2 ≤ (goodOf (fin x)).length ∧ g ∉ dom c ∧ b ∉ dom c ∧ K (.d (.int (numOf (fin x)))) (cset c dk (.ns (studied fs x))))

theorem ne1 : nSl ≠ nGl := by decide +kernel
theorem ne2 : nSl ≠ nCt := by decide +kernel
theorem ne3 : nGl ≠ nCt := by decide +kernel
theorem ne4 : nS1 ≠ nCt := by decide +kernel
theorem ne5 : nS1 ≠ nGl := by decide +kernel
theorem ne6 : nS1 ≠ nSl := by decide +kernel
theorem ne7 : nS1 ≠ nCode := by decide +kernel
theorem studied_read (fs : List (Str × V)) (x : Str) : Read (studied fs x) (fin x) := by
  unfold studied
  exact ⟨by rw [look_put, if_neg ne2, look_put, if_neg ne1, look_put, if_pos rfl], by rw [look_put, if_neg ne3, look_put, if_pos rfl], by rw [look_put, if_pos rfl]⟩
theorem studied_no {fs : List (Str × V)} (x : Str) (h : look fs nS1 = none) : look (studied fs x) nS1 = none := by
  unfold studied
  rw [look_put, if_neg ne4, look_put, if_neg ne5, look_put, if_neg ne6]; exact h
theorem setd_no {fs : List (Str × V)} (x : Str) (h : look fs nS1 = none) : look (setd fs x) nS1 = none := by
  unfold setd
  rw [look_put, if_neg ne6, look_put, if_neg ne7]; exact h
theorem setd_fresh {fs : List (Str × V)} {x : Str} (T : TextOk x) (h : fs.length ≤ 890) : Fresh (setd fs x) x := by
  unfold setd
  refine ⟨by rw [look_put, if_pos rfl], by rw [look_put, if_neg nSl_code, look_put, if_pos rfl], T, ?_⟩
  have h1 := put_len (put fs nCode (.d (.str x))) nSl (.d (.int 0))
  have h2 := put_len fs nCode (.d (.str x))
  omega
section
variable {C : Addr} {c : Cells} {k dk : Nat} {fs : List (Str × V)}
theorem ParAt.set (p : ParAt C c k dk fs) {fs' : List (Str × V)} (hf : fsW (cset c dk (.ns fs')) (cset c dk (.ns fs')) fs' fs') (no : look fs' nS1 = none) : ParAt C (cset c dk (.ns fs')) k dk fs' := by
  have dkd := cget_mem p.d_
  have kne : k ≠ dk := fun e => by have := p.k_; rw [e, p.d_] at this; cases this
  exact ⟨p.w.set p.d_ hf, by rw [cget_cset dkd, if_neg kne]; exact p.k_, by rw [cget_cset dkd, if_pos rfl], no⟩
theorem ParAt.studied (p : ParAt C c k dk fs) (x : Str) : ParAt C (cset c dk (.ns (studied fs x))) k dk (studied fs x) := by
  refine p.set ?_ (studied_no x p.no)
  unfold Mine.studied
  exact fsW_put (vD _ _ _) (fsW_put (vD _ _ _) (fsW_put (vD _ _ _) (fsW_ext (fun j hj => by rw [dom_cset]; exact hj) (p.w.fs p.d_))))
theorem ParAt.setd (p : ParAt C c k dk fs) (x : Str) : ParAt C (cset c dk (.ns (setd fs x))) k dk (setd fs x) := by
  refine p.set ?_ (setd_no x p.no)
  unfold Mine.setd
  exact fsW_put (vD _ _ _) (fsW_put (vD _ _ _) (fsW_ext (fun j hj => by rw [dom_cset]; exact hj) (p.w.fs p.d_)))
end

section
variable {P : Pm} {pr : List Nat}
theorem expr_to {n : Nat} {e : IE} {r : List IS} {l : Sl} {c c' : Cells} {K : F → Sg' → Prop} (v : V) (he : ∀ K' : V → Cells → Prop, K' v c' → wpE P n e l c K') (h : wpB P pr (n + 1) r ⟨l, c'⟩ K) : wpB P pr (n + 2) (.expr e :: r) ⟨l, c⟩ K := by
  rw [wpB, wpS]
  exact he _ h
theorem ret_to {n : Nat} {e : IE} {r : List IS} {l : Sl} {c c' : Cells} {K : F → Sg' → Prop} (v : V) (he : ∀ K' : V → Cells → Prop, K' v c' → wpE P n e l c K') (h : K (.ret v) ⟨l, c'⟩) : wpB P pr (n + 2) (.ret (some e) :: r) ⟨l, c⟩ K := by
  rw [wpB, wpS]
  exact he _ h
theorem instK_to {c : Cells} {k dk : Nat} {fs : List (Str × V)} {K : List (Str × V) → Prop} (hk : cget c k = some (.inst P.C dk)) (hdk : cget c dk = some (.ns fs)) (h : K fs) : instK P c (.obj k) K := by
  unfold instK
  dsimp only
  rw [hk]
  dsimp only
  rw [hdk]
  exact ⟨rfl, h⟩
/- a method without arguments on a named parser -/
theorem umeth0 {n i : Nat} {f : Addr} {nm : Str} {l : Sl} {c : Cells} {k dk : Nat} {fs : List (Str × V)} (hi : lget l i = some (.obj k)) (hk : cget c k = some (.inst P.C dk)) (hdk : cget c dk = some (.ns fs)) (hno : look fs nm = none) (hf : P.isFn f = true) (K' : V → Cells → Prop)
    (h : P.fn f [.obj k] c (fun v c3 => domOk c c3 ∧ K' v c3)) : wpE P (n + 3) (.umeth (.v i) f nm []) l c K' := by
  rw [wpE, wpE, hi]
  refine ⟨instK_to hk hdk hno, ?_⟩
  rw [wpEs]
  exact ⟨hf, h⟩

theorem study_call {n i : Nat} {st : Addr} {g b : Nat} {l : Sl} {c : Cells} {k dk : Nat} {fs : List (Str × V)} (hi : lget l i = some (.obj k)) (p : ParAt P.C c k dk fs) (hf : P.isFn st = true) (hfn : P.fn st = studySpec P.C g b) (K' : V → Cells → Prop)
    (h : (look fs nSl = some (.d (.int 1)) ∧ K' (.d .none) c) ∨ ∃ x, Fresh fs x ∧ g ∉ dom c ∧ b ∉ dom c ∧ K' (.d .none) (cset c dk (.ns (studied fs x)))) : wpE P (n + 3) (.umeth (.v i) st nS1 []) l c K' := by
  refine umeth0 hi p.k_ p.d_ p.no hf K' ?_
  rw [hfn]
  refine ⟨k, dk, fs, rfl, p, ?_⟩
  rcases h with ⟨h1, h2⟩ | ⟨x, h1, h2, h3, h4⟩
  · exact .inl ⟨h1, fun _ q => q, h2⟩
  · exact .inr ⟨x, h1, h2, h3, fun j q => by rw [dom_cset]; exact q, h4⟩

theorem cont_ok {k dk g b n : Nat} {st : Addr} {c : Cells} {fs : List (Str × V)} (A : AttrOk P) (p : ParAt P.C c k dk fs) (hf : P.isFn st = true) (hfn : P.fn st = studySpec P.C g b) {K : V → Cells → Prop}
    (h : (∃ s, Read fs s ∧ K (.d (.int (contOf s))) c) ∨ ∃ x, Fresh fs x ∧ g ∉ dom c ∧ b ∉ dom c ∧ K (.d (.int (contOf (fin x)))) (cset c dk (.ns (studied fs x)))) :
    wpB P (dom c) (n + 20) (ibCont st) ⟨start [.obj k] 0, c⟩ (EndP c K) := by
  unfold ibCont
  rcases h with ⟨s, h1, h2⟩ | ⟨x, h1, h2, h3, h4⟩
  · refine expr_to (n := n + 18) (.d .none) (c' := c) (fun K' h => study_call (n := n + 15) (k := k) rfl p hf hfn K' (.inl ⟨h1.sl, h⟩)) ?_
    refine ret_to (n := n + 17) (.d (.int (contOf s))) (c' := c) (fun K' h => attr_v (n := n + 15) (k := k) rfl p.k_ p.d_ A.ct h1.ct rfl K' h) ?_
    exact EndP.same p.w (fun _ h => h) rfl h2
  · have p' := p.studied x
    refine expr_to (n := n + 18) (.d .none) (c' := cset c dk (.ns (studied fs x))) (fun K' h => study_call (n := n + 15) (k := k) rfl p hf hfn K' (.inr ⟨x, h1, h2, h3, h⟩)) ?_
    refine ret_to (n := n + 17) (.d (.int (contOf (fin x)))) (c' := cset c dk (.ns (studied fs x))) (fun K' h => attr_v (n := n + 15) (k := k) rfl p'.k_ p'.d_ A.ct (studied_read fs x).ct rfl K' h) ?_
    exact EndP.same p'.w (fun j h => by rw [dom_cset]; exact h) rfl h4

end
end Mine
end
section
set_option linter.unusedVariables false
set_option maxRecDepth 100000
namespace Mine
open PySem PyProof.Rows PySem.W

noncomputable def fdOf (K : Frag) (a : Addr) : FuncData := (fnData K a).getD default

theorem cells_keep : ∀ (names : List (Str × NameKind)) (n : Nat) (acc : List (Str × Addr)) (x : Str), (acc.lookup x).isSome = true → ((cellsFrom n names acc).lookup x).isSome = true
  | [], n, acc, x, h => h
  | (name, kind) :: r, n, acc, x, h => by
    unfold cellsFrom
    split
    · refine cells_keep r _ _ x ?_
      rw [List.lookup_cons]
      split
      · rfl
      · exact h
    · exact cells_keep r _ _ x h
theorem cells_all : ∀ (names : List (Str × NameKind)) (n : Nat) (acc : List (Str × Addr)) (x : Str), (x, NameKind.cell) ∈ names → ((cellsFrom n names acc).lookup x).isSome = true
  | (name, kind) :: r, n, acc, x, h => by
    unfold cellsFrom
    rcases List.mem_cons.mp h with h | h
    · cases h
      rw [if_pos (by decide)]
      refine cells_keep r _ _ name ?_
      simp
    · split
      · exact cells_all r _ _ x h
      · exact cells_all r _ _ x h

noncomputable def fnChk (K : Frag) (a : Addr) (ps : List Str) : Bool :=
  let fd := fdOf K a
  (fnData K a).isSome && codeIn K fd.code fd.qualname && fd.closure.isEmpty && (match fd.body with | .stmts _ => true | _ => false) && decide ps.Nodup &&
  (ps.all fun p => fd.scope.names.lookup p == some .local || fd.scope.names.lookup p == some .cell) && !fd.scope.isCoroutine && !fd.scope.isGenerator && fd.scope.kind == .function && fd.globals == mainGlobals && fd.builtins == builtinsNs

theorem fnT_of {K : Frag} {hb : Heap} (X : K.In hb) (lim : hb.NoLimit) {a : Addr} {T : Tb} {ib : List IS} {m : Nat} {ps rest : List Str} (chk : fnChk K a ps = true)
    (hbind : ∀ ws : List Value, ws.length = ps.length → bindArgs (fdOf K a) ⟨ws, []⟩ = pure (ps.zip ws)) (hT : T.kinds = fnKinds K a) (hn : T.names = ps ++ rest) (nd : decide T.names.Nodup = true) (comp : compB m T (fnBody K a) = some ib) :
    FnT hb a T ib ps rest (fdOf K a) (fnBody K a) m := by
  unfold fnChk at chk
  simp only [Bool.and_eq_true] at chk
  obtain ⟨⟨⟨⟨⟨⟨⟨⟨⟨⟨c1, c2⟩, c3⟩, c4⟩, c5⟩, c6⟩, c7⟩, c8⟩, c9⟩, c10⟩, c11⟩ := chk
  obtain ⟨fd, hfd⟩ := Option.isSome_iff_exists.mp c1
  have e : fdOf K a = fd := by unfold fdOf; rw [hfd]; rfl
  have hk : fnKinds K a = fd.scope.names := by unfold fnKinds; rw [hfd]
  have hb' : fd.body = .stmts (fnBody K a) := by
    unfold fnBody; rw [hfd]; dsimp only
    rw [e] at c4
    split at c4
    · rename_i b q; rw [q]
    · cases c4
  rw [e] at c2 c3 c6 c7 c8 c9 c10 c11 hbind ⊢
  have at_ : ∃ o, hb.get? a = some o ∧ o.data = .func fd := by
    unfold fnData at hfd
    split at hfd
    · rename_i o ho
      split at hfd
      · rename_i fd' hd; cases hfd; exact ⟨o, X _ _ ho, hd⟩
      · cases hfd
    · cases hfd
  refine ⟨⟨at_, lim, codeRec_of X c2, hb', List.isEmpty_iff.mp c3, hbind, of_decide_eq_true c5, fun p hp => ?_, by simpa using c7, by simpa using c8, beq_iff_eq.mp c9⟩, hT.trans hk, hn, of_decide_eq_true nd, fun p hp hc n => ?_, beq_iff_eq.mp c10, beq_iff_eq.mp c11, comp⟩
  · have := List.all_eq_true.mp c6 p hp
    simp only [Bool.or_eq_true] at this
    rcases this with q | q
    · exact .inl (beq_iff_eq.mp q)
    · exact .inr ⟨beq_iff_eq.mp q, fun n => cells_all _ _ _ _ (mem_of_lookup (beq_iff_eq.mp q))⟩
  · obtain ⟨x, k⟩ := p
    subst hc
    exact cells_all _ _ _ _ hp

/- a name in the text's own namespace -/
theorem glob_of {prog : Program} {w : World} {hb : Heap} {mg : Str → Option Value} (hg : hb.Ns mainGlobals mg) {x : Str} {g : Value} {v : V} (e : mg x = some g) (iv : ∀ c α h, IsV c α h v g) : GlobOk prog w hb x v := by
  refine ⟨g, iv, fun env A s Q EO h1 h2 hk base hq => ?_⟩
  rw [loadName_read EO.kind hk]
  refine Calls.loadGlobal_global (mg := mg) ?_ e hq
  rw [h1]; exact hg.keeps base
/- a built-in name -/
theorem glob_bi {prog : Program} {w : World} {hb : Heap} {mg mb : Str → Option Value} (hg : hb.Ns mainGlobals mg) (hb' : hb.Ns builtinsNs mb) {x : Str} {g : Value} {v : V} (e : mg x = none) (e2 : mb x = some g) (iv : ∀ c α h, IsV c α h v g) : GlobOk prog w hb x v := by
  refine ⟨g, iv, fun env A s Q EO h1 h2 hk base hq => ?_⟩
  rw [loadName_read EO.kind hk]
  refine Calls.loadGlobal_builtin (mg := mg) (mb := mb) ?_ e ?_ e2 hq
  · rw [h1]; exact hg.keeps base
  · rw [h2]; exact hb'.keeps base
/- the text's own namespace, from the fragment -/
theorem mg_of {K : Frag} {hb : Heap} (X : K.In hb) {mg : Str → Option Value} (hg : hb.Ns mainGlobals mg) (hk : (K.lookup mainGlobals).isSome = true) (x : Str) : mg x = nsFind (nsOf K mainGlobals) x := by
  obtain ⟨o, ho⟩ := Option.isSome_iff_exists.mp hk
  obtain ⟨o', es, ep, h1, h2, h3, h4⟩ := hg
  rw [X _ _ ho] at h1; cases h1
  unfold nsOf
  rw [ho]; dsimp only
  rw [h2]
  exact (h4 x).symm
end Mine
end
section
set_option linter.unusedVariables false
set_option maxRecDepth 100000
set_option maxHeartbeats 4000000
namespace Mine
open PySem PyProof.Rows PySem.W

noncomputable abbrev K1 (p : Params) : Frag := H6.K p
noncomputable def G1 : List (Str × V) := [(Str.ofString "C_NONE", .d (.int 0)), (Str.ofString "C_BACKSLASH", .d (.int 1)), (Str.ofString "C_STRING_FIRST_LINE", .d (.int 2)), (Str.ofString "C_STRING_NEXT_LINES", .d (.int 3)), (Str.ofString "C_BRACKET", .d (.int 4)),
  (Str.ofString "trans", .val (.ref 50)), (Str.ofString "Parser", .val (.ref 208)), (Str.ofString "_law_draw", .val (.ref 219)), (Str.ofString "_law_lines", .val (.ref 226)), (Str.ofString "len", .bi .len), (Str.ofString "isinstance", .bi .isinstance), (Str.ofString "bool", .bi .bool), (Str.ofString "int", .bi .int), (Str.ofString "range", .bi .range), (Str.ofString "max", .bi .max), (Str.ofString "min", .bi .min), (Str.ofString "list", .bi .list)]
noncomputable def cells1 : List Pos := [⟨44, 37, 0, 40⟩, ⟨45, 20, 0, 36⟩, ⟨156, 13, 0, 37⟩, ⟨157, 11, 0, 23⟩, ⟨188, 15, 0, 69⟩, ⟨189, 33, 0, 99⟩]
noncomputable def mak1 : Str → Pos → Option (Addr × Nat × Nat) := fun f _ => if f = Str.ofString "Parser" then some (208, 0, 0) else none
noncomputable def meth1 : List (Str × Addr) := [(Str.ofString "set_code", 121), (Str.ofString "_study1", 142), (Str.ofString "get_continuation_type", 149)]
noncomputable def T1 (p : Params) (a : Addr) : Tb := { tbOf (K1 p) a G1 cells1 mak1 meth1 with dicts := fun x => x == Str.ofString "begins" }

theorem comp_init (p : Params) : compB 60 (T1 p 114) (fnBody (K1 p) 114) = some ibInit := by kernel_rfl
theorem comp_set (p : Params) : compB 60 (T1 p 121) (fnBody (K1 p) 121) = some ibSet := by kernel_rfl
theorem comp_study (p : Params) : compB 60 (T1 p 142) (fnBody (K1 p) 142) = some (ibStudy 50 44037 45020) := by kernel_rfl
theorem comp_cont (p : Params) : compB 60 (T1 p 149) (fnBody (K1 p) 149) = some (ibCont 142) := by kernel_rfl

section
variable {p : Params} {hb : Heap} (X : (K1 p).In hb) (lim : hb.NoLimit)
include X lim
theorem fn_init : FnT hb 114 (T1 p 114) ibInit [Str.ofString "self", Str.ofString "indentwidth", Str.ofString "tabwidth"] [] (fdOf (K1 p) 114) (fnBody (K1 p) 114) 60 :=
  fnT_of X lim (by kernel_rfl) (fun ws h => by match ws, h with | [a, b, c], _ => kernel_rfl) rfl (by kernel_rfl) (by kernel_rfl) (comp_init p)
theorem fn_set : FnT hb 121 (T1 p 121) ibSet [Str.ofString "self", Str.ofString "s"] [] (fdOf (K1 p) 121) (fnBody (K1 p) 121) 60 :=
  fnT_of X lim (by kernel_rfl) (fun ws h => by match ws, h with | [a, b], _ => kernel_rfl) rfl (by kernel_rfl) (by kernel_rfl) (comp_set p)
theorem fn_study : FnT hb 142 (T1 p 142) (ibStudy 50 44037 45020) [Str.ofString "self"] (fnRest (K1 p) 142) (fdOf (K1 p) 142) (fnBody (K1 p) 142) 60 :=
  fnT_of X lim (by kernel_rfl) (fun ws h => by match ws, h with | [a], _ => kernel_rfl) rfl (by kernel_rfl) (by kernel_rfl) (comp_study p)
end
end Mine
namespace Mine
open PySem PyProof.Rows PySem.W
noncomputable def attrs : List Str := [Str.ofString "indentwidth", Str.ofString "tabwidth", nCode, nSl, nGl, nCt]
noncomputable def Pm1 (w : World) (fn : Addr → Spec) (isFn : Addr → Bool) : Pm where
  C := 208
  attr := fun x => attrs.contains x
  fn := fn
  isFn := isFn
  init := 114
  td := 50
  tr := tr
  hash := hashStr w
theorem cls1 (p : Params) : ClsOk (K1 p) 208 := ⟨by kernel_rfl, by kernel_rfl, by kernel_rfl, by kernel_rfl, by kernel_rfl⟩
theorem attr1 (p : Params) (x : Str) (h : attrs.contains x = true) : findIn (K1 p) (.ref 208) x = some none := by
  have := List.contains_iff_mem.mp h
  simp only [attrs, List.mem_cons, List.not_mem_nil, or_false] at this
  rcases this with rfl | rfl | rfl | rfl | rfl | rfl <;> kernel_rfl
theorem lookup_mem {β : Type} {l : List (Str × β)} {x : Str} {v : β} (h : l.lookup x = some v) : (x, v) ∈ l := by
  induction l with
  | nil => cases h
  | cons p r ih =>
    obtain ⟨y, u⟩ := p
    rw [List.lookup_cons] at h
    split at h
    · rename_i e; cases h; rw [beq_iff_eq.mp e]; exact .head _
    · exact .tail _ (ih h)
theorem meth1_ok (p : Params) (x : Str) (f : Addr) (h : meth1.lookup x = some f) : findIn (K1 p) (.ref 208) x = some (some (.ref f)) ∧ typeIn (K1 p) (.ref f) = some (.type "function") := by
  have := lookup_mem h
  simp only [meth1, List.mem_cons, List.not_mem_nil, or_false, Prod.mk.injEq] at this
  rcases this with ⟨rfl, rfl⟩ | ⟨rfl, rfl⟩ | ⟨rfl, rfl⟩ <;> exact ⟨by kernel_rfl, by kernel_rfl⟩
theorem make1 (p : Params) : makesIn (K1 p) 208 = true := by kernel_rfl
theorem ini1 (p : Params) : findIn (K1 p) (.ref 208) "__init__" = some (some (.ref 114)) ∧ typeIn (K1 p) (.ref 114) = some (.type "function") := ⟨by kernel_rfl, by kernel_rfl⟩
theorem keep1 (p : Params) : keepIn (K1 p) (.ref 208) = true := by kernel_rfl
end Mine
namespace Mine
open PySem PyProof.Rows PySem.W
noncomputable def intKeysB (es : Array DictEntry) : Bool := es.toList.all fun e => match e.key with | .int k _ => e.hash == hashInt k | _ => false
theorem intKeys_of {es : Array DictEntry} (h : intKeysB es = true) : PySem.IntKeys es := by
  intro e he
  have := List.all_eq_true.mp h e (Array.mem_toList_iff.mpr he)
  split at this
  · rename_i k t q; exact ⟨k, t, q, beq_iff_eq.mp this⟩
  · cases this
noncomputable def tabB (es : Array DictEntry) (f : Nat → Nat) : Bool := (List.range 128).all fun c => match findBy Value.isInt es (c : Int) with | some (.int v _) => v == (f c : Nat) && decide (f c < 128) | _ => false
theorem tab_of {es : Array DictEntry} {f : Nat → Nat} (h : tabB es f = true) (c : Nat) (hc : c < 128) : ∃ t, findBy Value.isInt es (c : Int) = some (.int (f c : Nat) t) ∧ f c < 128 := by
  have := List.all_eq_true.mp h c (List.mem_range.mpr hc)
  split at this
  · rename_i v t q
    simp only [Bool.and_eq_true, decide_eq_true_eq] at this
    exact ⟨t, by rw [q, beq_iff_eq.mp this.1], this.2⟩
  · cases this
noncomputable def objAt (K : Frag) (a : Addr) : Obj := (K.lookup a).getD default
noncomputable def epOf (K : Frag) (a : Addr) : Nat := match (objAt K a).data with | .dict _ n => n | _ => 0
theorem tab1 (p : Params) : ∃ C', TabOk (K1 p) 50 C' tr := by
  refine ⟨42, ⟨(objAt (K1 p) 50).dict, nsOf (K1 p) 50, epOf (K1 p) 50, (objAt (K1 p) 50).slots, by kernel_rfl, intKeys_of (by kernel_rfl), tab_of (by kernel_rfl)⟩, by kernel_rfl, by kernel_rfl, by kernel_rfl⟩

theorem iv_int (i : Int) (t : Tok) (c : Cells) (α : Al) (h : Heap) : IsV c α h (.d (.int i)) (.int i t) := .int i t
noncomputable def tokOf : Option Value → Tok
  | some (.int _ t) => t
  | _ => 0
theorem glob1 {prog : Program} {w : World} {p : Params} {hb : Heap} (X : (K1 p).In hb) {mg mb : Str → Option Value} (hg : hb.Ns mainGlobals mg) (hb' : hb.Ns builtinsNs mb) (hmb : ∀ x : Str, x ≠ "__name__" → mb x = bootBuiltins x) (x : Str) (v : V) (h : G1.lookup x = some v) : GlobOk prog w hb x v := by
  have mge := mg_of X hg (by kernel_rfl)
  have gi : ∀ (x : Str) (i : Int), nsFind (nsOf (K1 p) mainGlobals) x = some (.int i (tokOf (nsFind (nsOf (K1 p) mainGlobals) x))) → GlobOk prog w hb x (.d (.int i)) := fun x i e => glob_of hg ((mge x).trans e) (fun c α h => .int _ _)
  have gr : ∀ (x : Str) (a : Addr), nsFind (nsOf (K1 p) mainGlobals) x = some (.ref a) → GlobOk prog w hb x (.val (.ref a)) := fun x a e => glob_of hg ((mge x).trans e) (fun c α h => rfl)
  have gb : ∀ (x : Str) (b : Bi), nsFind (nsOf (K1 p) mainGlobals) x = none → x ≠ "__name__" → bootBuiltins x = some b.val → GlobOk prog w hb x (.bi b) := fun x b e e2 e3 => glob_bi hg hb' ((mge x).trans e) ((hmb x e2).trans e3) (fun c α h => rfl)
  have := lookup_mem h
  simp only [G1, List.mem_cons, List.not_mem_nil, or_false, Prod.mk.injEq] at this
  rcases this with ⟨rfl, rfl⟩ | ⟨rfl, rfl⟩ | ⟨rfl, rfl⟩ | ⟨rfl, rfl⟩ | ⟨rfl, rfl⟩ | ⟨rfl, rfl⟩ | ⟨rfl, rfl⟩ | ⟨rfl, rfl⟩ | ⟨rfl, rfl⟩ | ⟨rfl, rfl⟩ | ⟨rfl, rfl⟩ | ⟨rfl, rfl⟩ | ⟨rfl, rfl⟩ | ⟨rfl, rfl⟩ | ⟨rfl, rfl⟩ | ⟨rfl, rfl⟩ | ⟨rfl, rfl⟩
  · exact gi _ _ (by kernel_rfl)
  · exact gi _ _ (by kernel_rfl)
  · exact gi _ _ (by kernel_rfl)
  · exact gi _ _ (by kernel_rfl)
  · exact gi _ _ (by kernel_rfl)
  · exact gr _ _ (by kernel_rfl)
  · exact gr _ _ (by kernel_rfl)
  · exact gr _ _ (by kernel_rfl)
  · exact gr _ _ (by kernel_rfl)
  · exact gb _ _ (by kernel_rfl) (by decide +kernel) (by kernel_rfl)
  · exact gb _ _ (by kernel_rfl) (by decide +kernel) (by kernel_rfl)
  · exact gb _ _ (by kernel_rfl) (by decide +kernel) (by kernel_rfl)
  · exact gb _ _ (by kernel_rfl) (by decide +kernel) (by kernel_rfl)
  · exact gb _ _ (by kernel_rfl) (by decide +kernel) (by kernel_rfl)
  · exact gb _ _ (by kernel_rfl) (by decide +kernel) (by kernel_rfl)
  · exact gb _ _ (by kernel_rfl) (by decide +kernel) (by kernel_rfl)
  · exact gb _ _ (by kernel_rfl) (by decide +kernel) (by kernel_rfl)

structure Base1 (w : World) (p : Params) (hb : Heap) (mg mb : Str → Option Value) : Prop where
  x : (K1 p).In hb
  lim : hb.NoLimit
  g : hb.Ns mainGlobals mg
  b : hb.Ns builtinsNs mb
  mb : ∀ x : Str, x ≠ "__name__" → mb x = bootBuiltins x

theorem sys1 {p : Params} {hb : Heap} (X : (K1 p).In hb) : ∃ b o, sysModules < b ∧ hb.get? b = some o :=
  ⟨208, objAt (K1 p) 208, by decide, X 208 _ (by kernel_rfl)⟩
theorem cx1 {prog : Program} {w : World} {p : Params} {hb : Heap} {mg mb : Str → Option Value} (B : Base1 w p hb mg mb) {fn : Addr → Spec} {isFn : Addr → Bool} {dep : Nat} (a : Addr)
    (hfn : ∀ a, isFn a = true → (∃ o fd, hb.get? a = some o ∧ o.data = .func fd) ∧ FnOk prog w hb dep a (fn a)) (hin : FnOk prog w hb dep 114 (fn 114)) : Cx0 prog w hb (K1 p) (T1 p a) (Pm1 w fn isFn) dep :=
  ⟨B.x, fun x v h => glob1 B.x B.g B.b B.mb x v h, cls1 p, fun x h => attr1 p x h, fun x f h => meth1_ok p x f h, hfn, make1 p, ini1 p, hin, keep1 p, tab1 p, rfl, sys1 B.x⟩

theorem attrOk1 (w : World) (fn : Addr → Spec) (isFn : Addr → Bool) : AttrOk (Pm1 w fn isFn) := ⟨by kernel_rfl, by kernel_rfl, by kernel_rfl, by kernel_rfl⟩

section
variable {prog : Program} {w : World} {p : Params} {hb : Heap} {mg mb : Str → Option Value} (B : Base1 w p hb mg mb)
include B
noncomputable def noFn : Addr → Spec := fun _ _ _ _ => False
theorem cx1a (a : Addr) : Cx0 prog w hb (K1 p) (T1 p a) (Pm1 w noFn fun _ => false) 0 := cx1 B a (fun a h => by cases h) (fun A r vs ws c α s K R h1 h2 h3 h4 => h4.elim)
theorem init1 : FnOk prog w hb 2 114 (initSpec 208) := by
  refine fn_by (fn_init B.x B.lim) (cx1a B 114) fun vs c K h => ?_
  obtain ⟨k, dk, rfl, W, hk, hdk, hK⟩ := h
  exact ⟨rfl, _, init_ok (P := Pm1 w noFn fun _ => false) (n := 0) (by kernel_rfl) (by kernel_rfl) W hk hdk hK⟩
theorem set1 : FnOk prog w hb 2 121 (setSpec 208) := by
  refine fn_by (fn_set B.x B.lim) (cx1a B 121) fun vs c K h => ?_
  obtain ⟨k, dk, fs, x, rfl, pa, hl, T, hK⟩ := h
  exact ⟨rfl, _, set_ok (P := Pm1 w noFn fun _ => false) (n := 0) (attrOk1 _ _ _) pa.w pa.k_ pa.d_ hl T hK⟩
theorem study1 : FnOk prog w hb 2 142 (studySpec 208 44037 45020) := by
  refine fn_by (fn_study B.x B.lim) (cx1a B 142) fun vs c K h => ?_
  obtain ⟨k, dk, fs, rfl, pa, h⟩ := h
  refine ⟨rfl, 130, ?_⟩
  have hr : (fnRest (K1 p) 142).length = 12 := by kernel_rfl
  rw [hr]
  rcases h with ⟨h1, h2⟩ | ⟨x, h1, h2, h3, h4⟩
  · exact study_again (P := Pm1 w noFn fun _ => false) (n := 0) (attrOk1 _ _ _) pa.w pa.k_ pa.d_ h1 h2
  · exact study_ok (P := Pm1 w noFn fun _ => false) (n := 0) (attrOk1 _ _ _) rfl rfl pa.w pa.k_ pa.d_ h1.len h1.sl h1.co h1.t h2 h3 (by decide) h4
end
end Mine
end
section
set_option linter.unusedVariables false
set_option maxRecDepth 100000
set_option maxHeartbeats 4000000
namespace Mine
open PySem PyProof.Rows PySem.W

/- law 06's lines: the text, and what it does in each of four states -/
noncomputable def tab6 : List (List Str) := [
  [⟨#[102, 40, 10]⟩, ⟨#[43]⟩, ⟨#[]⟩, ⟨#[]⟩, ⟨#[46]⟩], [⟨#[34, 34, 34, 10]⟩, ⟨#[50]⟩, ⟨#[46]⟩, ⟨#[]⟩, ⟨#[46]⟩], [⟨#[97, 10]⟩, ⟨#[]⟩, ⟨#[]⟩, ⟨#[]⟩, ⟨#[46]⟩], [⟨#[41, 10]⟩, ⟨#[45]⟩, ⟨#[]⟩, ⟨#[]⟩, ⟨#[46]⟩],
  [⟨#[39, 39, 39, 98, 10]⟩, ⟨#[51]⟩, ⟨#[]⟩, ⟨#[46]⟩, ⟨#[46]⟩], [⟨#[99, 32, 92, 10]⟩, ⟨#[92]⟩, ⟨#[]⟩, ⟨#[]⟩, ⟨#[]⟩], [⟨#[35, 32, 40, 91, 123, 32, 92, 10]⟩, ⟨#[]⟩, ⟨#[]⟩, ⟨#[]⟩, ⟨#[]⟩],
  [⟨#[39, 100, 32, 40, 10]⟩, ⟨#[]⟩, ⟨#[]⟩, ⟨#[]⟩, ⟨#[46, 43]⟩], [⟨#[10]⟩, ⟨#[]⟩, ⟨#[]⟩, ⟨#[]⟩, ⟨#[46]⟩], [⟨#[92, 34, 34, 34, 32, 91, 10]⟩, ⟨#[43]⟩, ⟨#[]⟩, ⟨#[]⟩, ⟨#[46]⟩],
  [⟨#[39, 101, 92, 10]⟩, ⟨#[52]⟩, ⟨#[]⟩, ⟨#[]⟩, ⟨#[46, 92]⟩], [⟨#[103, 39, 39, 39, 104, 39, 32, 40, 10]⟩, ⟨#[51]⟩, ⟨#[]⟩, ⟨#[46]⟩, ⟨#[46]⟩], [⟨#[34, 105, 34, 32, 43, 32, 40, 34, 34, 10]⟩, ⟨#[43]⟩, ⟨#[]⟩, ⟨#[]⟩, ⟨#[46]⟩],
  [⟨#[106, 41, 32, 35, 32, 34, 34, 34, 10]⟩, ⟨#[45]⟩, ⟨#[46]⟩, ⟨#[]⟩, ⟨#[46]⟩]]
noncomputable def beg6 : List (Str × Int) := [(⟨#[50]⟩, 2), (⟨#[51]⟩, 3), (⟨#[52]⟩, 4)]

/- the five ways in which a line ends -/
inductive A6 where
  | N | B | D | S | L
  deriving DecidableEq
noncomputable def A6.md : A6 → Nat → Md
  | .N, _ => .N
  | .B, _ => .Nb
  | .D, f => .S3 true 0 f
  | .S, f => .S3 false 0 f
  | .L, f => .S1 false f
noncomputable def A6.st : A6 → Nat
  | .N | .B => 1
  | .D => 2
  | .S => 3
  | .L => 4
/- what is done to the depth -/
inductive Op6 where
  | no | up | dn
  deriving DecidableEq
noncomputable def Op6.on : Op6 → Nat → Nat
  | .no, n => n
  | .up, n => n + 1
  | .dn, n => n - 1
/- a line's work: the way behind it, the depth, whether a string begins -/
noncomputable def work6 : Nat → A6 → A6 × Op6 × Bool
  | 0, .D => (.D, .no, false) | 0, .S => (.S, .no, false) | 0, .L => (.N, .no, false) | 0, _ => (.N, .up, false)
  | 1, .D => (.N, .no, false) | 1, .S => (.S, .no, false) | 1, .L => (.N, .no, false) | 1, _ => (.D, .no, true)
  | 2, .D => (.D, .no, false) | 2, .S => (.S, .no, false) | 2, .L => (.N, .no, false) | 2, _ => (.N, .no, false)
  | 3, .D => (.D, .no, false) | 3, .S => (.S, .no, false) | 3, .L => (.N, .no, false) | 3, _ => (.N, .dn, false)
  | 4, .D => (.D, .no, false) | 4, .S => (.N, .no, false) | 4, .L => (.N, .no, false) | 4, _ => (.S, .no, true)
  | 5, .D => (.D, .no, false) | 5, .S => (.S, .no, false) | 5, .L => (.L, .no, false) | 5, _ => (.B, .no, false)
  | 6, .D => (.D, .no, false) | 6, .S => (.S, .no, false) | 6, .L => (.L, .no, false) | 6, _ => (.N, .no, false)
  | 7, .D => (.D, .no, false) | 7, .S => (.S, .no, false) | 7, .L => (.N, .up, false) | 7, _ => (.N, .no, false)
  | 8, .D => (.D, .no, false) | 8, .S => (.S, .no, false) | 8, .L => (.N, .no, false) | 8, _ => (.N, .no, false)
  | 9, .D => (.D, .no, false) | 9, .S => (.S, .no, false) | 9, .L => (.N, .no, false) | 9, _ => (.N, .up, false)
  | 10, .D => (.D, .no, false) | 10, .S => (.S, .no, false) | 10, .L => (.B, .no, false) | 10, _ => (.L, .no, true)
  | 11, .D => (.D, .no, false) | 11, .S => (.N, .no, false) | 11, .L => (.N, .no, false) | 11, _ => (.S, .no, true)
  | 12, .D => (.D, .no, false) | 12, .S => (.S, .no, false) | 12, .L => (.N, .no, false) | 12, _ => (.N, .up, false)
  | _, .D => (.N, .no, false) | _, .S => (.S, .no, false) | _, .L => (.N, .no, false) | _, _ => (.N, .dn, false)
noncomputable def txt6 (i : Nat) : Str := ((tab6[i]?).getD [])[0]?.getD ⟨#[]⟩
noncomputable def deed6 (i s : Nat) : Str := ((tab6[i]?).getD [])[s]?.getD ⟨#[]⟩
theorem scan6 : ∀ i, i < 14 → ∀ (a : A6) (f lv ln : Nat) (gd : List Nat),
    (scan ⟨a.md f, lv, ln, gd⟩ ((sg (txt6 i)).map tr)).md = (work6 i a).1.md (if (work6 i a).2.2 then ln else f) ∧ (scan ⟨a.md f, lv, ln, gd⟩ ((sg (txt6 i)).map tr)).lv = (work6 i a).2.1.on lv ∧ (scan ⟨a.md f, lv, ln, gd⟩ ((sg (txt6 i)).map tr)).ln = ln + 1
  | 0, _, a, f, lv, ln, gd => by cases a <;> exact ⟨rfl, rfl, rfl⟩
  | 1, _, a, f, lv, ln, gd => by cases a <;> exact ⟨rfl, rfl, rfl⟩
  | 2, _, a, f, lv, ln, gd => by cases a <;> exact ⟨rfl, rfl, rfl⟩
  | 3, _, a, f, lv, ln, gd => by cases a <;> exact ⟨rfl, rfl, rfl⟩
  | 4, _, a, f, lv, ln, gd => by cases a <;> exact ⟨rfl, rfl, rfl⟩
  | 5, _, a, f, lv, ln, gd => by cases a <;> exact ⟨rfl, rfl, rfl⟩
  | 6, _, a, f, lv, ln, gd => by cases a <;> exact ⟨rfl, rfl, rfl⟩
  | 7, _, a, f, lv, ln, gd => by cases a <;> exact ⟨rfl, rfl, rfl⟩
  | 8, _, a, f, lv, ln, gd => by cases a <;> exact ⟨rfl, rfl, rfl⟩
  | 9, _, a, f, lv, ln, gd => by cases a <;> exact ⟨rfl, rfl, rfl⟩
  | 10, _, a, f, lv, ln, gd => by cases a <;> exact ⟨rfl, rfl, rfl⟩
  | 11, _, a, f, lv, ln, gd => by cases a <;> exact ⟨rfl, rfl, rfl⟩
  | 12, _, a, f, lv, ln, gd => by cases a <;> exact ⟨rfl, rfl, rfl⟩
  | 13, _, a, f, lv, ln, gd => by cases a <;> exact ⟨rfl, rfl, rfl⟩
  | n + 14, h, _, _, _, _, _ => absurd h (by omega)

noncomputable abbrev dotS : Str := ⟨#[46]⟩
noncomputable abbrev upS : Str := ⟨#[43]⟩
noncomputable abbrev dnS : Str := ⟨#[45]⟩
noncomputable abbrev bsS : Str := ⟨#[92]⟩
/- the deeds say what the lines do -/
noncomputable def says6 (i : Nat) (a : A6) : Bool :=
  let d := deed6 i a.st
  let (b, op, new) := work6 i a
  (look beg6 d == if new then some (b.st : Int) else none) &&
  (new || ((if Txt.contains d dotS then 1 else a.st) == b.st)) &&
  (Txt.contains d upS == (op == .up)) && (Txt.contains d dnS == (op == .dn)) &&
  (b.st != 1 || (Txt.contains d bsS == (b == .B))) && (!new || b.st != 1)
theorem says6_all : ∀ i ∈ List.range 14, ∀ a ∈ [A6.N, .B, .D, .S, .L], says6 i a = true := by decide +kernel
theorem says6_ok {i : Nat} (h : i < 14) (a : A6) : says6 i a = true := says6_all i (List.mem_range.mpr h) a (by cases a <;> simp)
end Mine
end
section
set_option linter.unusedVariables false
set_option maxRecDepth 100000
set_option maxHeartbeats 4000000
namespace Mine
open PySem PyProof.Rows PySem.W
theorem Wf.drop {c : Cells} (W : Wf c) {kk : Nat} {o : O} (hk : kk ∉ dom c) : celW (c ++ [(kk, o)]) c c := by
  rw [celW_iff]
  intro p hp
  obtain ⟨o', h3, h4⟩ := celW_iff.mp W.w p hp
  have hm := cget_mem h3
  exact ⟨o', by rw [cget_append hk, if_neg (fun e : p.1 = kk => hk (by rw [← e]; exact hm))]; exact h3, oW_ext (fun _ h => h) h4⟩
theorem fmod_lt (a : Int) {m : Int} (h : 0 < m) : 0 ≤ a.fmod m ∧ a.fmod m < m := ⟨Int.fmod_nonneg_of_pos a h, Int.fmod_lt_of_pos a h⟩
theorem pys_ints : ∀ l : List Int, PyData.canLayAll0 (pys (l.map .int)) = true ∧ PyData.depthAll (pys (l.map .int)) = 0
  | [] => ⟨rfl, rfl⟩
  | a :: l => by
    obtain ⟨h1, h2⟩ := pys_ints l
    exact ⟨by show (true && PyData.canLayAll0 (pys (l.map .int))) = true; rw [h1]; rfl, by show max 0 (PyData.depthAll (pys (l.map .int))) = 0; rw [h2]; rfl⟩
theorem cmp_nil {c : Cells} {l : List Int} {K : Bool → Prop} (h : K (!l.isEmpty)) : cmpK c .NotEq (.d (.lst (l.map .int))) (.d (.lst [])) K := by
  obtain ⟨h1, h2⟩ := pys_ints l
  refine ⟨?_, by decide, ?_, ?_⟩
  · show (PyData.canLayAll0 (pys (l.map .int)) && decide (PyData.depthAll (pys (l.map .int)) + 1 ≤ 64)) = true
    rw [h1, h2]; rfl
  · cases l <;> rfl
  · cases l with
    | nil => exact h
    | cons a l => exact h
section
variable {P : Pm} {pr : List Nat}
theorem item_at {c : Cells} {xs : List D} {i : Int} {d : D} (h0 : 0 ≤ i) (h1 : xs[i.toNat]? = some d) (hb : xs.length ≤ big) {K : D → Prop} (h : K d) : itemK c (.d (.lst xs)) (.d (.int i)) K := by
  have hlt := (List.getElem?_eq_some_iff.mp h1).1
  refine ⟨hb, i.toNat, d, ?_, h1, h⟩
  unfold seqIndex?
  have hn : ¬ i < 0 := by omega
  simp only [hn, if_false]
  rw [if_pos (by simp only [Bool.and_eq_true, decide_eq_true_eq]; omega)]
theorem binE_to {n : Nat} {op : Operator} {a b : IE} {l : Sl} {c : Cells} {K : V → Cells → Prop} (u v : V) (ha : ∀ K' : V → Cells → Prop, K' u c → wpE P n a l c K') (hb : ∀ K' : V → Cells → Prop, K' v c → wpE P n b l c K') (h : binK c op u v (fun d => K (.d d) c)) : wpE P (n + 1) (.bin op a b) l c K := by
  rw [wpE]; exact ha _ (hb _ h)
end
theorem fs0_w (U : Cells) : fsW U U fs0 fs0 := ⟨rfl, vD _ _ _, rfl, vD _ _ _, trivial⟩
end Mine
end
section
set_option linter.unusedVariables false
set_option maxRecDepth 100000
set_option maxHeartbeats 4000000
namespace Mine
open PySem PyProof.Rows PySem.W
noncomputable def ibDraw6 : List IS := [
  .if_ (.cmp .Eq (.v 0) (.lst [] none)) [
    .ret (some (.c (.int 0)))] [],
  .ret (some (.bin .Mod (.meth (.v 0) .pop [(.c (.int 0))]) (.v 1)))]
noncomputable def ibLines6 : List IS := [
  .asg 0 (.lst [(.tup [(.c (.str ⟨#[102, 40, 10]⟩)), (.c (.str ⟨#[43]⟩)), (.c (.str ⟨#[]⟩)), (.c (.str ⟨#[]⟩)), (.c (.str ⟨#[46]⟩))]), (.tup [(.c (.str ⟨#[34, 34, 34, 10]⟩)), (.c (.str ⟨#[50]⟩)), (.c (.str ⟨#[46]⟩)), (.c (.str ⟨#[]⟩)), (.c (.str ⟨#[46]⟩))]), (.tup [(.c (.str ⟨#[97, 10]⟩)), (.c (.str ⟨#[]⟩)), (.c (.str ⟨#[]⟩)), (.c (.str ⟨#[]⟩)), (.c (.str ⟨#[46]⟩))]), (.tup [(.c (.str ⟨#[41, 10]⟩)), (.c (.str ⟨#[45]⟩)), (.c (.str ⟨#[]⟩)), (.c (.str ⟨#[]⟩)), (.c (.str ⟨#[46]⟩))])] none),
  .asg 0 (.bin .Add (.v 0) (.lst [(.tup [(.c (.str ⟨#[39, 39, 39, 98, 10]⟩)), (.c (.str ⟨#[51]⟩)), (.c (.str ⟨#[]⟩)), (.c (.str ⟨#[46]⟩)), (.c (.str ⟨#[46]⟩))]), (.tup [(.c (.str ⟨#[99, 32, 92, 10]⟩)), (.c (.str ⟨#[92]⟩)), (.c (.str ⟨#[]⟩)), (.c (.str ⟨#[]⟩)), (.c (.str ⟨#[]⟩))]), (.tup [(.c (.str ⟨#[35, 32, 40, 91, 123, 32, 92, 10]⟩)), (.c (.str ⟨#[]⟩)), (.c (.str ⟨#[]⟩)), (.c (.str ⟨#[]⟩)), (.c (.str ⟨#[]⟩))])] none)),
  .asg 0 (.bin .Add (.v 0) (.lst [(.tup [(.c (.str ⟨#[39, 100, 32, 40, 10]⟩)), (.c (.str ⟨#[]⟩)), (.c (.str ⟨#[]⟩)), (.c (.str ⟨#[]⟩)), (.c (.str ⟨#[46, 43]⟩))]), (.tup [(.c (.str ⟨#[10]⟩)), (.c (.str ⟨#[]⟩)), (.c (.str ⟨#[]⟩)), (.c (.str ⟨#[]⟩)), (.c (.str ⟨#[46]⟩))]), (.tup [(.c (.str ⟨#[92, 34, 34, 34, 32, 91, 10]⟩)), (.c (.str ⟨#[43]⟩)), (.c (.str ⟨#[]⟩)), (.c (.str ⟨#[]⟩)), (.c (.str ⟨#[46]⟩))])] none)),
  .asg 0 (.bin .Add (.v 0) (.lst [(.tup [(.c (.str ⟨#[39, 101, 92, 10]⟩)), (.c (.str ⟨#[52]⟩)), (.c (.str ⟨#[]⟩)), (.c (.str ⟨#[]⟩)), (.c (.str ⟨#[46, 92]⟩))]), (.tup [(.c (.str ⟨#[103, 39, 39, 39, 104, 39, 32, 40, 10]⟩)), (.c (.str ⟨#[51]⟩)), (.c (.str ⟨#[]⟩)), (.c (.str ⟨#[46]⟩)), (.c (.str ⟨#[46]⟩))]), (.tup [(.c (.str ⟨#[34, 105, 34, 32, 43, 32, 40, 34, 34, 10]⟩)), (.c (.str ⟨#[43]⟩)), (.c (.str ⟨#[]⟩)), (.c (.str ⟨#[]⟩)), (.c (.str ⟨#[46]⟩))])] none)),
  .ret (some (.bin .Add (.v 0) (.lst [(.tup [(.c (.str ⟨#[106, 41, 32, 35, 32, 34, 34, 34, 10]⟩)), (.c (.str ⟨#[45]⟩)), (.c (.str ⟨#[46]⟩)), (.c (.str ⟨#[]⟩)), (.c (.str ⟨#[46]⟩))])] none)))]
noncomputable def ibBody6 : List IS := [
    .asg 10 (.item (.v 1) (.bin .Mod (.bin .Add (.v 9) (.call (.g (.val (.ref 219))) [(.v 3), (.c (.int 14))] none)) (.c (.int 14)))),
    .asg 11 (.item (.v 10) (.v 6)),
    .asg 5 (.bin .Add (.v 5) (.item (.v 10) (.c (.int 0)))),
    .asg 8 (.bin .Add (.v 8) (.c (.int 1))),
    .if_ (.inD (.v 11) (.v 2)) [
      .asg 6 (.itemD (.v 2) (.v 11)),
      .asg 8 (.c (.int 1))] [
      .if_ (.cmp .In (.c (.str ⟨#[46]⟩)) (.v 11)) [
        .asg 6 (.c (.int 1))] []],
    .if_ (.cmp .In (.c (.str ⟨#[43]⟩)) (.v 11)) [
      .asg 7 (.bin .Add (.v 7) (.c (.int 1)))] [
      .if_ (.cmp .In (.c (.str ⟨#[45]⟩)) (.v 11)) [
        .asg 7 (.call (.g (.bi .max)) [(.bin .Sub (.v 7) (.c (.int 1))), (.c (.int 0))] none)] []],
    .if_ (.and (.cmp .Gt (.v 6) (.c (.int 1))) (.cmp .Eq (.v 8) (.c (.int 1)))) [
      .asg 12 (.g (.d (.int 2)))] [
      .if_ (.cmp .Gt (.v 6) (.c (.int 1))) [
        .asg 12 (.g (.d (.int 3)))] [
        .if_ (.cmp .Gt (.v 7) (.c (.int 0))) [
          .asg 12 (.g (.d (.int 4)))] [
          .if_ (.cmp .In (.c (.str ⟨#[92]⟩)) (.v 11)) [
            .asg 12 (.g (.d (.int 1)))] [
            .asg 12 (.g (.d (.int 0)))]]]],
    .expr (.umeth (.v 4) 121 (Str.ofString "set_code") [(.v 5)]),
    .asgC 13 (.comp (.umeth (.v 1) 149 (Str.ofString "get_continuation_type") []) (.call (.g (.bi .range)) [(.c (.int 2))] none) none [4] 188015),
    .if_ (.or (.cmp .NotEq (.v 13) (.lst [(.v 12), (.v 12)] none)) (.cmp .NotEq (.comp (.v 0) (.v 13) (some (.or (.call (.g (.bi .isinstance)) [(.v 0), (.g (.bi .bool))] none) (.not (.call (.g (.bi .isinstance)) [(.v 0), (.g (.bi .int))] none)))) [] 189033) (.lst [] none))) [
      .ret (some (.c (.bool false)))] []]
noncomputable def ibLaw6 : List IS := [
  .asg 1 (.call (.g (.val (.ref 226))) [] none),
  .asg 2 (.dict [(⟨#[50]⟩, 2), (⟨#[51]⟩, 3), (⟨#[52]⟩, 4)] 156013),
  .asg 3 (.call (.g (.bi .list)) [(.v 0)] (some 157011)),
  .asg 4 (.make 208 [(.c (.int 4)), (.c (.int 8))] 0 0),
  .asg 5 (.c (.str ⟨#[]⟩)),
  .asg 6 (.c (.int 1)),
  .asg 7 (.c (.int 0)),
  .asg 8 (.c (.int 0)),
  .for_ 9 (.call (.g (.bi .range)) [(.call (.g (.bi .max)) [(.c (.int 4)), (.call (.g (.bi .min)) [(.c (.int 10)), (.call (.g (.bi .len)) [(.v 3)] none)] none)] none)] none) ibBody6,
  .ret (some (.c (.bool true)))]
noncomputable abbrev nCT6 : Str := Str.ofString "get_continuation_type"
noncomputable abbrev nSC : Str := Str.ofString "set_code"
noncomputable def line6 (i : Nat) : D := .tup (((tab6[i]?).getD []).map .str)
noncomputable def lines6 : D := .lst (tab6.map fun r => .tup (r.map .str))
noncomputable def drawSpec : Spec := fun vs c K => ∃ (k : Nat) (l : List Int) (b : Int), vs = [.obj k, .d (.int b)] ∧ Wf c ∧ cget c k = some (.list (l.map .int)) ∧ b ≠ 0 ∧ l.length ≤ big ∧
  ((l = [] ∧ K (.d (.int 0)) c) ∨ ∃ a r, l = a :: r ∧ K (.d (.int (a.fmod b))) (cset c k (.list (r.map .int))))
noncomputable def linesSpec : Spec := fun vs c K => vs = [] ∧ Wf c ∧ K (.d lines6) c

section
variable {P : Pm} {pr : List Nat}
theorem asgC_to {n i : Nat} {e : IE} {r : List IS} {l : Sl} {c c' : Cells} {K : F → Sg' → Prop} (v : V) (he : ∀ K' : V → Cells → Prop, K' v c' → wpE P n e l c K') (h : wpB P pr (n + 1) r ⟨l.set i (some v), c'⟩ K) : wpB P pr (n + 2) (.asgC i e :: r) ⟨l, c⟩ K := by
  rw [wpB, wpS]
  exact he _ h
theorem cmp_nilE {c : Cells} {k : Nat} {l : List Int} (hk : cget c k = some (.list (l.map .int))) {K : Bool → Prop} (h : K l.isEmpty) : cmpK c .Eq (.obj k) (.d (.lst [])) K := by
  obtain ⟨h1, h2⟩ := pys_ints l
  show (match pairs2 c (.obj k) (.d (.lst [])) with | some (x, y) => _ | none => False)
  have e : pairs2 c (.obj k) (.d (.lst [])) = some (.lst (l.map .int), .lst []) := by
    unfold pairs2 rd
    dsimp only
    rw [hk]
  rw [e]
  refine ⟨?_, by decide, ?_, ?_⟩
  · show (PyData.canLayAll0 (pys (l.map .int)) && decide (PyData.depthAll (pys (l.map .int)) + 1 ≤ 64)) = true
    rw [h1, h2]; rfl
  · cases l <;> rfl
  · cases l with
    | nil => exact h
    | cons a l => exact h
theorem Wf.list {c : Cells} (W : Wf c) {k : Nat} {xs ys : List D} (hk : cget c k = some (.list xs)) : Wf (cset c k (.list ys)) := by
  have hkd := cget_mem hk
  refine ⟨?_, by rw [dom_cset]; exact W.nd⟩
  rw [celW_iff]
  intro p hp
  rcases mem_cset W.nd hp with rfl | ⟨hp, hne⟩
  · exact ⟨.list ys, by rw [cget_cset hkd, if_pos rfl], rfl⟩
  · obtain ⟨o, h3, h4⟩ := celW_iff.mp W.w p hp
    exact ⟨o, by rw [cget_cset hkd, if_neg hne]; exact h3, oW_ext (fun j hj => by rw [dom_cset]; exact hj) h4⟩
theorem draw_ok {n k : Nat} {c : Cells} {l : List Int} {b : Int} (W : Wf c) (hk : cget c k = some (.list (l.map .int))) (hb : b ≠ 0) (hl : l.length ≤ big) {K : V → Cells → Prop}
    (h : (l = [] ∧ K (.d (.int 0)) c) ∨ ∃ a r, l = a :: r ∧ K (.d (.int (a.fmod b))) (cset c k (.list (r.map .int)))) : wpB P (dom c) (n + 20) ibDraw6 ⟨start [.obj k, .d (.int b)] 0, c⟩ (EndP c K) := by
  unfold ibDraw6
  refine if_to (n := n + 18) l.isEmpty (c' := c) (fun K' h => cmpT_to (n := n + 17) (.obj k) (.d (.lst [])) (fun K' h => h) (fun K' h => ⟨by decide, h⟩) (cmp_nilE hk h)) ?_
  rcases h with ⟨rfl, h⟩ | ⟨a, r, rfl, h⟩
  · exact ret_to (n := n + 16) (.d (.int 0)) (c' := c) (fun K' h => h) (EndP.same W (fun _ h => h) rfl h)
  · refine nil_to (n := n + 17) ?_
    refine ret_to (n := n + 17) (.d (.int (a.fmod b))) (c' := cset c k (.list (r.map .int))) (fun K' h => ?_) (EndP.same (W.list hk) (fun j hj => by rw [dom_cset]; exact hj) rfl h)
    rw [wpE, wpE]
    show wpE P (n + 15) (.v 0) _ _ _
    rw [wpE]
    show methable c (.obj k) .pop = true ∧ _
    have hm : methable c (.obj k) .pop = true := by unfold methable; dsimp only; rw [hk]; rfl
    refine ⟨hm, ?_⟩
    rw [wpEs, wpE, wpEs]
    unfold methK
    dsimp only
    rw [hk]
    refine ⟨rfl, rfl, by rw [List.length_map]; exact hl, .int a, r.map .int, rfl, ?_⟩
    exact ⟨hb, h⟩
theorem lines_ok6 {n : Nat} {c : Cells} (W : Wf c) {K : V → Cells → Prop} (h : K (.d lines6) c) : wpB P (dom c) (n + 30) ibLines6 ⟨start [] 1, c⟩ (EndP c K) := by
  unfold ibLines6
  refine asg_to (n := n + 28) (.d (.lst ((tab6.take 4).map fun r => .tup (r.map .str)))) (fun K' h => ?_) ?_
  · exact ⟨by decide, by decide, by decide, by decide, by decide, h⟩
  refine asg_to (n := n + 27) (.d (.lst ((tab6.take 7).map fun r => .tup (r.map .str)))) (fun K' h => ?_) ?_
  · exact ⟨by decide, by decide, by decide, by decide, by decide, h⟩
  refine asg_to (n := n + 26) (.d (.lst ((tab6.take 10).map fun r => .tup (r.map .str)))) (fun K' h => ?_) ?_
  · exact ⟨by decide, by decide, by decide, by decide, by decide, h⟩
  refine asg_to (n := n + 25) (.d (.lst ((tab6.take 13).map fun r => .tup (r.map .str)))) (fun K' h => ?_) ?_
  · exact ⟨by decide, by decide, by decide, by decide, by decide, h⟩
  refine ret_to (n := n + 24) (.d lines6) (c' := c) (fun K' h => ?_) (EndP.same W (fun _ h => h) rfl h)
  exact ⟨by decide, by decide, by decide, h⟩
end
end Mine
end
section
set_option linter.unusedVariables false
set_option maxRecDepth 100000
set_option maxHeartbeats 4000000
namespace Mine
open PySem PyProof.Rows PySem.W

noncomputable abbrev c6 (hf : Str → Int) (C : Addr) (rest : List Int) (fs : List (Str × V)) : Cells := [(156013, .dic hf beg6), (157011, .list (rest.map .int)), (2, .ns fs), (1, .inst C 2)]
noncomputable abbrev sl6 (a0 : D) (x : Str) (st dep age : Int) (r9 r10 r11 r12 r13 : Option V) : Sl :=
  [some (.d a0), some (.d lines6), some (.obj 156013), some (.obj 157011), some (.obj 1), some (.d (.str x)), some (.d (.int st)), some (.d (.int dep)), some (.d (.int age)), r9, r10, r11, r12, r13]
structure L6Ok (P : Pm) : Prop where
  C : P.C = 208
  A : AttrOk P
  dr : P.isFn 219 = true
  drS : P.fn 219 = drawSpec
  li : P.isFn 226 = true
  liS : P.fn 226 = linesSpec
  sc : P.isFn 121 = true
  scS : P.fn 121 = setSpec P.C
  ct : P.isFn 149 = true
  ctS : P.fn 149 = contSpec P.C 44037 45020
  ini : P.fn P.init = initSpec P.C

structure Fs6 (m : Nat) (fs : List (Str × V)) : Prop where
  no1 : look fs nS1 = none
  no2 : look fs nCT6 = none
  no3 : look fs nSC = none
  len : fs.length ≤ m
  w : ∀ U, fsW U U fs fs
theorem ne_a : nCT6 ≠ nSl ∧ nCT6 ≠ nCode ∧ nCT6 ≠ nGl ∧ nCT6 ≠ nCt := by decide +kernel
theorem ne_b : nSC ≠ nSl ∧ nSC ≠ nCode ∧ nSC ≠ nGl ∧ nSC ≠ nCt := by decide +kernel
theorem Fs6.setd {m : Nat} {fs : List (Str × V)} (h : Fs6 m fs) (x : Str) : Fs6 (m + 2) (setd fs x) := by
  have l1 := put_len (put fs nCode (.d (.str x))) nSl (.d (.int 0))
  have l2 := put_len fs nCode (.d (.str x))
  have l3 := h.len
  refine ⟨setd_no x h.no1, ?_, ?_, by unfold Mine.setd; omega, fun U => fsW_put (vD _ _ _) (fsW_put (vD _ _ _) (h.w U))⟩
  · unfold Mine.setd; rw [look_put, if_neg ne_a.1, look_put, if_neg ne_a.2.1]; exact h.no2
  · unfold Mine.setd; rw [look_put, if_neg ne_b.1, look_put, if_neg ne_b.2.1]; exact h.no3
theorem Fs6.studied {m : Nat} {fs : List (Str × V)} (h : Fs6 m fs) (x : Str) : Fs6 (m + 3) (studied fs x) := by
  have l0 := h.len
  have l1 := put_len fs nSl (.d (.int 1))
  have l2 := put_len (put fs nSl (.d (.int 1))) nGl (.d (.lst (intsD (goodOf (fin x)))))
  have l3 := put_len (put (put fs nSl (.d (.int 1))) nGl (.d (.lst (intsD (goodOf (fin x)))))) nCt (.d (.int (contOf (fin x))))
  refine ⟨studied_no x h.no1, ?_, ?_, by unfold Mine.studied; omega, fun U => fsW_put (vD _ _ _) (fsW_put (vD _ _ _) (fsW_put (vD _ _ _) (h.w U)))⟩
  · unfold Mine.studied; rw [look_put, if_neg ne_a.2.2.2, look_put, if_neg ne_a.2.2.1, look_put, if_neg ne_a.1]; exact h.no2
  · unfold Mine.studied; rw [look_put, if_neg ne_b.2.2.2, look_put, if_neg ne_b.2.2.1, look_put, if_neg ne_b.1]; exact h.no3
section
variable {hf : Str → Int} {C : Addr} {rest : List Int} {fs : List (Str × V)} {m : Nat}
theorem wf6 (h : Fs6 m fs) : Wf (c6 hf C rest fs) :=
  ⟨⟨⟨_, rfl, rfl, rfl⟩, ⟨_, rfl, rfl⟩, ⟨_, rfl, h.w _⟩, ⟨_, rfl, rfl, rfl, by simp [dom]⟩, trivial⟩, by simp [dom]⟩
theorem wf6x (h : Fs6 m fs) (acc : List D) : Wf (c6 hf C rest fs ++ [(188015, .list acc)]) :=
  ⟨⟨⟨_, rfl, rfl, rfl⟩, ⟨_, rfl, rfl⟩, ⟨_, rfl, h.w _⟩, ⟨_, rfl, rfl, rfl, by simp [dom]⟩, ⟨_, rfl, rfl⟩, trivial⟩, by simp [dom]⟩
theorem par6 (h : Fs6 m fs) : ParAt C (c6 hf C rest fs) 1 2 fs := ⟨wf6 h, rfl, rfl, h.no1⟩
theorem par6x (h : Fs6 m fs) (acc : List D) : ParAt C (c6 hf C rest fs ++ [(188015, .list acc)]) 1 2 fs := ⟨wf6x h acc, rfl, rfl, h.no1⟩
end

theorem same2 (a : Int) (c : Cells) {K : Bool → Prop} (h : K false) : cmpK c .NotEq (.d (.lst [.int a, .int a])) (.d (.lst [.int a, .int a])) K := by
  refine ⟨rfl, rfl, rfl, ?_⟩
  have e : PySem.Spec.same (D.lst [.int a, .int a]).py (D.lst [.int a, .int a]).py = true := by
    simp [D.py, pys, PySem.Spec.same, PySem.Spec.sameAll]
  rw [e]; exact h

noncomputable def ibTail6 : List IS := [
    .expr (.umeth (.v 4) 121 (Str.ofString "set_code") [(.v 5)]),
    .asgC 13 (.comp (.umeth (.v 1) 149 (Str.ofString "get_continuation_type") []) (.call (.g (.bi .range)) [(.c (.int 2))] none) none [4] 188015),
    .if_ (.or (.cmp .NotEq (.v 13) (.lst [(.v 12), (.v 12)] none)) (.cmp .NotEq (.comp (.v 0) (.v 13) (some (.or (.call (.g (.bi .isinstance)) [(.v 0), (.g (.bi .bool))] none) (.not (.call (.g (.bi .isinstance)) [(.v 0), (.g (.bi .int))] none)))) [] 189033) (.lst [] none))) [
      .ret (some (.c (.bool false)))] []]
section
variable {P : Pm} {pr : List Nat}
theorem umeth1 {n i j : Nat} {f : Addr} {nm : Str} {l : Sl} {c : Cells} {k dk : Nat} {fs : List (Str × V)} {v : V} (hi : lget l i = some (.obj k)) (hj : lget l j = some v) (hk : cget c k = some (.inst P.C dk)) (hdk : cget c dk = some (.ns fs)) (hno : look fs nm = none) (hf : P.isFn f = true) (K' : V → Cells → Prop)
    (h : P.fn f [.obj k, v] c (fun v c3 => domOk c c3 ∧ K' v c3)) : wpE P (n + 3) (.umeth (.v i) f nm [(.v j)]) l c K' := by
  rw [wpE, wpE, hi]
  refine ⟨instK_to hk hdk hno, ?_⟩
  rw [wpEs, wpE, hj]
  show wpEs P (n + 1) [] l c _
  rw [wpEs]
  exact ⟨hf, h⟩

theorem tail6 (L : L6Ok P) {N m : Nat} {rest : List Int} {fs : List (Str × V)} (hfs : Fs6 m fs) (hm : m ≤ 800) {x : Str} (T : TextOk x) {a0 : D} {st dep age : Int} {r9 r10 r11 : Option V} {due : Int} (hd : contOf (fin x) = due) {K : F → Sg' → Prop}
    (hK : K .next ⟨sl6 a0 x st dep age r9 r10 r11 (some (.d (.int due))) (some (.d (.lst [.int due, .int due]))), c6 P.hash P.C rest (studied (setd fs x) x)⟩) :
    wpB P pr (N + 52) ibTail6 ⟨sl6 a0 x st dep age r9 r10 r11 (some (.d (.int due))) none, c6 P.hash P.C rest fs⟩ K := by
  have h1 := hfs.setd x
  have h2 := h1.studied x
  unfold ibTail6
  refine expr_to (n := N + 50) (.d .none) (c' := c6 P.hash P.C rest (setd fs x)) (fun K' h => ?_) ?_
  · refine umeth1 (n := N + 47) (k := 1) (dk := 2) (v := .d (.str x)) rfl rfl rfl rfl hfs.no3 L.sc K' ?_
    rw [L.scS]
    exact ⟨1, 2, fs, x, rfl, par6 hfs, by have := hfs.len; omega, T, fun j hj => hj, h⟩
  refine asgC_to (n := N + 49) (.d (.lst [.int due, .int due])) (c' := c6 P.hash P.C rest (studied (setd fs x) x)) (fun K' h => ?_) ?_
  · rw [wpE]
    show smallV (.rng 0 2) ∧ ∃ xs, iterItems (.rng 0 2) = some xs ∧ _
    refine ⟨⟨by decide, by decide, by decide, by decide⟩, [.int 0, .int 1], rfl, by decide, by simp [dom], fun i acc c' => (i = 0 ∧ acc = [] ∧ c' = c6 P.hash P.C rest (setd fs x)) ∨ (0 < i ∧ i ≤ 2 ∧ acc = List.replicate i (.int due) ∧ c' = c6 P.hash P.C rest (studied (setd fs x) x)), .inl ⟨rfl, rfl, rfl⟩, ?_, ?_⟩
    · rintro i d acc c' hi (⟨rfl, rfl, rfl⟩ | ⟨h0, hi2, rfl, rfl⟩)
      · refine ⟨by simp [dom], ?_⟩
        show wpE P (N + 48) (.umeth (.v 1) 149 nCT6 []) _ _ _
        refine umeth0 (n := N + 45) (k := 1) (dk := 2) rfl rfl rfl h1.no2 L.ct _ ?_
        rw [L.ctS]
        refine ⟨1, 2, setd fs x, rfl, par6x h1 [], .inr ⟨x, setd_fresh T (by have := hfs.len; omega), by simp [dom], by simp [dom], fun j hj => hj, ?_⟩⟩
        exact ⟨.int due, c6 P.hash P.C rest (studied (setd fs x) x), by rw [hd], rfl, by simp [dom], .inr ⟨by decide, by decide, rfl, rfl⟩⟩
      · have hi1 : i = 1 := by
          have := (List.getElem?_eq_some_iff.mp hi).1
          have : i < 2 := this
          omega
        subst hi1
        refine ⟨by simp [dom], ?_⟩
        show wpE P (N + 48) (.umeth (.v 1) 149 nCT6 []) _ _ _
        refine umeth0 (n := N + 45) (k := 1) (dk := 2) rfl rfl rfl h2.no2 L.ct _ ?_
        rw [L.ctS]
        refine ⟨1, 2, studied (setd fs x) x, rfl, par6x h2 _, .inl ⟨fin x, studied_read _ _, fun j hj => hj, ?_⟩⟩
        exact ⟨.int due, c6 P.hash P.C rest (studied (setd fs x) x), by rw [hd], rfl, by simp [dom], .inr ⟨by decide, by decide, rfl, rfl⟩⟩
    · rintro acc c' (⟨q, _⟩ | ⟨_, _, rfl, rfl⟩)
      · cases q
      · exact ⟨by simp [dom], (wf6 h2).drop (by simp [dom]), h⟩
  refine if_to (n := N + 48) false (c' := c6 P.hash P.C rest (studied (setd fs x) x)) (fun K' h => ?_) (nil_to (n := N + 47) (nil_to (n := N + 48) hK))
  rw [wpT, wpT, wpE]
  show wpE P (N + 46) (.lst [(.v 12), (.v 12)] none) _ _ _
  refine ⟨by show 2 ≤ big; decide, ?_⟩
  unfold newListK
  dsimp only
  refine same2 due _ ⟨fun q => (by cases q), fun _ => ?_⟩
  rw [wpT, wpE]
  show smallV (.d (.lst [.int due, .int due])) ∧ _
  refine ⟨trivial, [.int due, .int due], rfl, by show 2 ≤ big; decide, by simp [dom], fun i acc c' => acc = [] ∧ c' = c6 P.hash P.C rest (studied (setd fs x) x), ⟨rfl, rfl⟩, ?_, ?_⟩
  · rintro i d acc c' hi ⟨rfl, rfl⟩
    have hd' : d = .int due := by
      have := List.mem_of_getElem? hi
      simpa using this
    subst hd'
    refine ⟨by simp [dom], ?_⟩
    show wpT P (N + 45) (.or _ _) _ _ _
    refine ⟨fun q => (by cases q), fun _ => ?_⟩
    refine ⟨fun q => (by cases q), fun _ => ⟨_, rfl, by simp [dom], rfl, rfl⟩⟩
  · rintro acc c' ⟨rfl, rfl⟩
    refine ⟨by simp [dom], (wf6 h2).drop (by simp [dom]), ?_⟩
    refine ⟨by decide, ?_⟩
    unfold newListK
    dsimp only
    exact cmp_nil (c := c6 P.hash P.C rest (studied (setd fs x) x)) (l := []) (K := fun r => K' r (c6 P.hash P.C rest (studied (setd fs x) x))) h
end
end Mine
end
section
set_option linter.unusedVariables false
set_option maxRecDepth 100000
set_option maxHeartbeats 4000000
namespace Mine
open PySem PyProof.Rows PySem.W

noncomputable def ibState6 : IS := .if_ (.inD (.v 11) (.v 2)) [
      .asg 6 (.itemD (.v 2) (.v 11)),
      .asg 8 (.c (.int 1))] [
      .if_ (.cmp .In (.c (.str ⟨#[46]⟩)) (.v 11)) [
        .asg 6 (.c (.int 1))] []]
noncomputable def ibDepth6 : IS := .if_ (.cmp .In (.c (.str ⟨#[43]⟩)) (.v 11)) [
      .asg 7 (.bin .Add (.v 7) (.c (.int 1)))] [
      .if_ (.cmp .In (.c (.str ⟨#[45]⟩)) (.v 11)) [
        .asg 7 (.call (.g (.bi .max)) [(.bin .Sub (.v 7) (.c (.int 1))), (.c (.int 0))] none)] []]
noncomputable def ibDue6 : IS := .if_ (.and (.cmp .Gt (.v 6) (.c (.int 1))) (.cmp .Eq (.v 8) (.c (.int 1)))) [
      .asg 12 (.g (.d (.int 2)))] [
      .if_ (.cmp .Gt (.v 6) (.c (.int 1))) [
        .asg 12 (.g (.d (.int 3)))] [
        .if_ (.cmp .Gt (.v 7) (.c (.int 0))) [
          .asg 12 (.g (.d (.int 4)))] [
          .if_ (.cmp .In (.c (.str ⟨#[92]⟩)) (.v 11)) [
            .asg 12 (.g (.d (.int 1)))] [
            .asg 12 (.g (.d (.int 0)))]]]]
section
variable {P : Pm} {pr : List Nat}
theorem item_tup {c : Cells} {xs : List D} {i : Nat} {d : D} (h1 : xs[i]? = some d) (hb : xs.length ≤ big) {K : D → Prop} (h : K d) : itemK c (.d (.tup xs)) (.d (.int i)) K := by
  have hlt := (List.getElem?_eq_some_iff.mp h1).1
  refine ⟨hb, i, d, ?_, h1, h⟩
  unfold seqIndex?
  have hn : ¬ (i : Int) < 0 := by omega
  simp only [hn, if_false]
  rw [if_pos (by simp only [Bool.and_eq_true, decide_eq_true_eq]; omega)]
  rfl
theorem draw_call (L : L6Ok P) {n m : Nat} {l : Sl} (h3 : lget l 3 = some (.obj 157011)) {rest : List Int} {fs : List (Str × V)} (hfs : Fs6 m fs) (hr : rest.length ≤ big) :
    ∃ (z : Int) (rest' : List Int), rest'.length ≤ rest.length ∧ ∀ K' : V → Cells → Prop, K' (.d (.int z)) (c6 P.hash P.C rest' fs) → wpE P (n + 5) (.call (.g (.val (.ref 219))) [(.v 3), (.c (.int 14))] none) l (c6 P.hash P.C rest fs) K' := by
  have go : ∀ K' : V → Cells → Prop, (∃ k : Nat, drawSpec [.obj 157011, .d (.int 14)] (c6 P.hash P.C rest fs) (fun v c' => domOk (c6 P.hash P.C rest fs) c' ∧ K' v c')) → wpE P (n + 5) (.call (.g (.val (.ref 219))) [(.v 3), (.c (.int 14))] none) l (c6 P.hash P.C rest fs) K' := fun K' ⟨_, h⟩ => by
    rw [wpE, wpE, wpEs, wpE, h3]
    show wpEs P (n + 3) [.c (.int 14)] l _ _
    rw [wpEs, wpE, wpEs]
    refine ⟨L.dr, ?_⟩
    rw [L.drS]
    exact h
  cases rest with
  | nil => exact ⟨0, [], Nat.le_refl _, fun K' h => go K' ⟨0, 157011, [], 14, rfl, wf6 hfs, rfl, by decide, by decide, .inl ⟨rfl, fun j hj => hj, h⟩⟩⟩
  | cons a r => exact ⟨a.fmod 14, r, Nat.le_succ _, fun K' h => go K' ⟨0, 157011, a :: r, 14, rfl, wf6 hfs, rfl, by decide, hr, .inr ⟨a, r, rfl, fun j hj => hj, h⟩⟩⟩

theorem row_ok : ∀ i ∈ List.range 14, ((tab6[i]?).getD []).length = 5 ∧ (tab6[i]?).isSome = true := by decide +kernel
theorem row_at {i : Nat} (h : i < 14) (s : Nat) (hs : s < 5) : (((tab6[i]?).getD []).map D.str)[s]? = some (.str (deed6 i s)) := by
  have hl := (row_ok i (List.mem_range.mpr h)).1
  unfold deed6
  rw [List.getElem?_map, List.getElem?_eq_getElem (by omega)]
  rfl
theorem A6.st_lt (a : A6) : a.st < 5 := by cases a <;> decide
theorem line_at {i : Nat} (h : i < 14) : (tab6.map fun r => D.tup (r.map .str))[i]? = some (line6 i) := by
  have hs := (row_ok i (List.mem_range.mpr h)).2
  unfold line6
  rw [List.getElem?_map]
  cases q : tab6[i]? with
  | none => rw [q] at hs; cases hs
  | some r => rfl

/- what is due behind a line -/
noncomputable def due6 (st : Nat) (dep : Nat) (age : Int) (bs : Bool) : Int := if 1 < st then (if age = 1 then 2 else 3) else if 0 < dep then 4 else if bs then 1 else 0

theorem due_ok {N : Nat} {a0 : D} {x : Str} {st dep : Nat} {age : Int} {r9 r10 : Option V} {d : Str} {c : Cells} {r : List IS} {K : F → Sg' → Prop}
    (h : wpB P pr (N + 53) r ⟨sl6 a0 x st dep age r9 r10 (some (.d (.str d))) (some (.d (.int (due6 st dep age (Txt.contains d bsS))))) none, c⟩ K) :
    wpB P pr (N + 54) (ibDue6 :: r) ⟨sl6 a0 x st dep age r9 r10 (some (.d (.str d))) none none, c⟩ K := by
  unfold ibDue6
  by_cases h1 : 1 < st
  · have e1 : decide ((1 : Int) < st) = true := decide_eq_true (by omega)
    by_cases h2 : age = 1
    · refine if_to (n := N + 52) true (c' := c) (fun K' h => ?_) ?_
      · rw [wpT]
        refine cmpT_to (n := N + 50) (.d (.int st)) (.d (.int 1)) (fun K' h => h) (fun K' h => h) ?_
        show (decide ((1 : Int) < st) = false → _) ∧ _
        refine ⟨fun q => (by rw [e1] at q; cases q), fun _ => ?_⟩
        refine cmpT_to (n := N + 50) (.d (.int age)) (.d (.int 1)) (fun K' h => h) (fun K' h => h) ?_
        show K' (age == 1) c
        rw [h2]; exact h
      · refine asg_to (n := N + 50) (.d (.int 2)) (fun K' h => h) (nil_to (n := N + 50) ?_)
        have e : due6 st dep age (Txt.contains d bsS) = 2 := by unfold due6; rw [if_pos h1, if_pos h2]
        rw [e] at h
        exact h
    · refine if_to (n := N + 52) false (c' := c) (fun K' h => ?_) ?_
      · rw [wpT]
        refine cmpT_to (n := N + 50) (.d (.int st)) (.d (.int 1)) (fun K' h => h) (fun K' h => h) ?_
        show (decide ((1 : Int) < st) = false → _) ∧ _
        refine ⟨fun q => (by rw [e1] at q; cases q), fun _ => ?_⟩
        refine cmpT_to (n := N + 50) (.d (.int age)) (.d (.int 1)) (fun K' h => h) (fun K' h => h) ?_
        show K' (age == 1) c
        rw [beq_eq_false_iff_ne.mpr h2]; exact h
      · refine if_to (n := N + 50) true (c' := c) (fun K' h => ?_) ?_
        · refine cmpT_to (n := N + 49) (.d (.int st)) (.d (.int 1)) (fun K' h => h) (fun K' h => h) ?_
          show K' (decide ((1 : Int) < st)) c
          rw [e1]; exact h
        · refine asg_to (n := N + 48) (.d (.int 3)) (fun K' h => h) (nil_to (n := N + 48) (nil_to (n := N + 50) ?_))
          have e : due6 st dep age (Txt.contains d bsS) = 3 := by unfold due6; rw [if_pos h1, if_neg h2]
          rw [e] at h
          exact h
  · have e1 : decide ((1 : Int) < st) = false := decide_eq_false (by omega)
    refine if_to (n := N + 52) false (c' := c) (fun K' h => ?_) ?_
    · rw [wpT]
      refine cmpT_to (n := N + 50) (.d (.int st)) (.d (.int 1)) (fun K' h => h) (fun K' h => h) ?_
      show (decide ((1 : Int) < st) = false → _) ∧ (decide ((1 : Int) < st) = true → _)
      exact ⟨fun _ => h, fun q => (by rw [e1] at q; cases q)⟩
    · refine if_to (n := N + 50) false (c' := c) (fun K' h => ?_) ?_
      · refine cmpT_to (n := N + 49) (.d (.int st)) (.d (.int 1)) (fun K' h => h) (fun K' h => h) ?_
        show K' (decide ((1 : Int) < st)) c
        rw [e1]; exact h
      · by_cases h3 : 0 < dep
        · refine if_to (n := N + 48) true (c' := c) (fun K' h => ?_) ?_
          · refine cmpT_to (n := N + 47) (.d (.int dep)) (.d (.int 0)) (fun K' h => h) (fun K' h => h) ?_
            show K' (decide ((0 : Int) < dep)) c
            rw [decide_eq_true (by omega)]; exact h
          · refine asg_to (n := N + 46) (.d (.int 4)) (fun K' h => h) (nil_to (n := N + 46) (nil_to (n := N + 48) (nil_to (n := N + 50) ?_)))
            have e : due6 st dep age (Txt.contains d bsS) = 4 := by unfold due6; rw [if_neg h1, if_pos h3]
            rw [e] at h
            exact h
        · refine if_to (n := N + 48) false (c' := c) (fun K' h => ?_) ?_
          · refine cmpT_to (n := N + 47) (.d (.int dep)) (.d (.int 0)) (fun K' h => h) (fun K' h => h) ?_
            show K' (decide ((0 : Int) < dep)) c
            rw [decide_eq_false (by omega)]; exact h
          · refine if_to (n := N + 46) (Txt.contains d bsS) (c' := c) (fun K' h => cmpT_to (n := N + 45) (.d (.str bsS)) (.d (.str d)) (fun K' h => h) (fun K' h => h) h) ?_
            cases q : Txt.contains d bsS with
            | true =>
              refine asg_to (n := N + 44) (.d (.int 1)) (fun K' h => h) (nil_to (n := N + 44) (nil_to (n := N + 46) (nil_to (n := N + 48) (nil_to (n := N + 50) ?_))))
              have e : due6 st dep age (Txt.contains d bsS) = 1 := by unfold due6; rw [if_neg h1, if_neg h3, q]; rfl
              rw [e] at h
              exact h
            | false =>
              refine asg_to (n := N + 44) (.d (.int 0)) (fun K' h => h) (nil_to (n := N + 44) (nil_to (n := N + 46) (nil_to (n := N + 48) (nil_to (n := N + 50) ?_))))
              have e : due6 st dep age (Txt.contains d bsS) = 0 := by unfold due6; rw [if_neg h1, if_neg h3, q]; rfl
              rw [e] at h
              exact h
end
end Mine
end
section
set_option linter.unusedVariables false
set_option maxRecDepth 100000
set_option maxHeartbeats 4000000
namespace Mine
open PySem PyProof.Rows PySem.W
section
variable {P : Pm} {pr : List Nat}
theorem depth_ok {N : Nat} {a0 : D} {x : Str} {st dep : Nat} {age : Int} {r9 r10 : Option V} {d : Str} {c : Cells} {r : List IS} {op : Op6} (hu : Txt.contains d upS = (op == .up)) (hn : Txt.contains d dnS = (op == .dn)) {K : F → Sg' → Prop}
    (h : wpB P pr (N + 54) r ⟨sl6 a0 x st (op.on dep : Nat) age r9 r10 (some (.d (.str d))) none none, c⟩ K) :
    wpB P pr (N + 55) (ibDepth6 :: r) ⟨sl6 a0 x st dep age r9 r10 (some (.d (.str d))) none none, c⟩ K := by
  unfold ibDepth6
  refine if_to (n := N + 53) (Txt.contains d upS) (c' := c) (fun K' h => cmpT_to (n := N + 52) (.d (.str upS)) (.d (.str d)) (fun K' h => h) (fun K' h => h) h) ?_
  cases op with
  | up =>
    rw [hu]
    refine asg_to (n := N + 51) (.d (.int ((dep : Int) + 1))) (fun K' h => h) (nil_to (n := N + 51) ?_)
    have e : ((dep : Int) + 1) = ((Op6.up.on dep : Nat) : Int) := by show _ = ((dep + 1 : Nat) : Int); omega
    rw [e]; exact h
  | dn =>
    rw [hu]
    refine if_to (n := N + 51) (Txt.contains d dnS) (c' := c) (fun K' h => cmpT_to (n := N + 50) (.d (.str dnS)) (.d (.str d)) (fun K' h => h) (fun K' h => h) h) ?_
    rw [hn]
    refine asg_to (n := N + 49) (.d (.int (if (0 : Int) > (dep : Int) - 1 then 0 else (dep : Int) - 1))) (fun K' h => h) (nil_to (n := N + 49) (nil_to (n := N + 51) ?_))
    have e : (if (0 : Int) > (dep : Int) - 1 then 0 else (dep : Int) - 1) = ((Op6.dn.on dep : Nat) : Int) := by
      show _ = ((dep - 1 : Nat) : Int)
      split <;> omega
    rw [e]; exact h
  | no =>
    rw [hu]
    refine if_to (n := N + 51) (Txt.contains d dnS) (c' := c) (fun K' h => cmpT_to (n := N + 50) (.d (.str dnS)) (.d (.str d)) (fun K' h => h) (fun K' h => h) h) ?_
    rw [hn]
    exact nil_to (n := N + 50) (nil_to (n := N + 51) h)
theorem inD_to {n : Nat} {l : Sl} {c : Cells} {d : Str} {j : Nat} {fs : List (Str × Int)} (h1 : lget l 11 = some (.d (.str d))) (h2 : lget l 2 = some (.obj j)) (hc : cget c j = some (.dic P.hash fs)) (K' : Bool → Cells → Prop) (h : K' (look fs d).isSome c) : wpT P (n + 2) (.inD (.v 11) (.v 2)) l c K' := by
  rw [wpT, wpE, h1]
  show wpE P (n + 1) (.v 2) l c _
  rw [wpE, h2]
  unfold inDK
  dsimp only
  rw [hc]
  exact ⟨rfl, h⟩
theorem itemD_to {n : Nat} {l : Sl} {c : Cells} {d : Str} {j : Nat} {fs : List (Str × Int)} {i : Int} (h1 : lget l 11 = some (.d (.str d))) (h2 : lget l 2 = some (.obj j)) (hc : cget c j = some (.dic P.hash fs)) (hl : look fs d = some i) (K' : V → Cells → Prop) (h : K' (.d (.int i)) c) : wpE P (n + 2) (.itemD (.v 2) (.v 11)) l c K' := by
  rw [wpE, wpE, h2]
  show wpE P (n + 1) (.v 11) l c _
  rw [wpE, h1]
  unfold itemDK
  dsimp only
  rw [hc]
  exact ⟨rfl, i, hl, h⟩
theorem state_ok {N : Nat} {a0 : D} {x : Str} {st st' dep : Nat} {age : Int} {r9 r10 : Option V} {d : Str} {c : Cells} {r : List IS} {new : Bool} (hc : cget c 156013 = some (.dic P.hash beg6)) (hl : look beg6 d = if new then some (st' : Int) else none) (hs : new = true ∨ (if Txt.contains d dotS then 1 else st) = st') {K : F → Sg' → Prop}
    (h : wpB P pr (N + 55) r ⟨sl6 a0 x st' dep (if new then 1 else age) r9 r10 (some (.d (.str d))) none none, c⟩ K) :
    wpB P pr (N + 56) (ibState6 :: r) ⟨sl6 a0 x st dep age r9 r10 (some (.d (.str d))) none none, c⟩ K := by
  unfold ibState6
  refine if_to (n := N + 54) (look beg6 d).isSome (c' := c) (fun K' h => inD_to (n := N + 52) rfl rfl hc K' h) ?_
  cases new with
  | true =>
    rw [hl]
    refine asg_to (n := N + 52) (.d (.int st')) (fun K' h => itemD_to (n := N + 50) rfl rfl hc hl K' h) ?_
    exact asg_to (n := N + 51) (.d (.int 1)) (fun K' h => h) (nil_to (n := N + 51) h)
  | false =>
    rw [hl]
    have hs : (if Txt.contains d dotS then 1 else st) = st' := hs.resolve_left (by decide)
    refine if_to (n := N + 52) (Txt.contains d dotS) (c' := c) (fun K' h => cmpT_to (n := N + 51) (.d (.str dotS)) (.d (.str d)) (fun K' h => h) (fun K' h => h) h) ?_
    cases q : Txt.contains d dotS with
    | true =>
      rw [q] at hs
      have hs : 1 = st' := hs
      subst hs
      exact asg_to (n := N + 50) (.d (.int 1)) (fun K' h => h) (nil_to (n := N + 50) (nil_to (n := N + 52) h))
    | false =>
      rw [q] at hs
      have hs : st = st' := hs
      subst hs
      exact nil_to (n := N + 51) (nil_to (n := N + 52) h)

/- the state of the reading that the law keeps -/
structure Kept (x : Str) (a : A6) (lv : Nat) (age : Int) : Prop where
  e : ∃ f ln gd, fin x = ⟨a.md f, lv, ln, gd⟩ ∧ (a.st ≠ 1 → (ln : Int) = f + age)
theorem sg_app (x y : Str) : sg (x ++ y) = sg x ++ sg y := sg_append x y
theorem fin_app (x y : Str) : fin (x ++ y) = scan (fin x) ((sg y).map tr) := by
  unfold fin; rw [sg_append, List.map_append, scan_append]
/- one line more -/
theorem Kept.step {x : Str} {a : A6} {lv : Nat} {age : Int} (h : Kept x a lv age) {i : Nat} (hi : i < 14) :
    Kept (x ++ txt6 i) (work6 i a).1 ((work6 i a).2.1.on lv) (if (work6 i a).2.2 then 1 else age + 1) ∧
    contOf (fin (x ++ txt6 i)) = due6 (work6 i a).1.st ((work6 i a).2.1.on lv) (if (work6 i a).2.2 then 1 else age + 1) (Txt.contains (deed6 i a.st) bsS) := by
  obtain ⟨f, ln, gd, e, hag⟩ := h.e
  obtain ⟨e1, e2, e3⟩ := scan6 i hi a f lv ln gd
  have sy := says6_ok hi a
  unfold says6 at sy
  simp only [Bool.and_eq_true, Bool.or_eq_true, Bool.not_eq_true', beq_iff_eq, bne_iff_ne, ne_eq] at sy
  obtain ⟨⟨⟨⟨⟨s1, s2⟩, s3⟩, s4⟩, s5⟩, s6⟩ := sy
  rw [← e, ← fin_app] at e1 e2 e3
  generalize hw : work6 i a = wk at *
  obtain ⟨b, op, new⟩ := wk
  dsimp only at *
  have hs : fin (x ++ txt6 i) = ⟨b.md (if new then ln else f), op.on lv, ln + 1, (fin (x ++ txt6 i)).gd⟩ := by rw [← e1, ← e2, ← e3]
  have age' : b.st ≠ 1 → ((ln + 1 : Nat) : Int) = ((if new then ln else f : Nat) : Int) + (if new then 1 else age + 1) := by
    intro hb
    cases new with
    | true => simp
    | false =>
      have : a.st ≠ 1 := by
        rcases s2 with q | q
        · cases q
        · intro ha
          rw [ha] at q
          split at q <;> exact hb q.symm
      have := hag this
      simp only [Bool.false_eq_true, if_false]; omega
  refine ⟨⟨_, _, _, hs, age'⟩, ?_⟩
  rw [hs]
  unfold contOf due6
  dsimp only
  cases b with
  | N =>
    have s5 : Txt.contains (deed6 i a.st) bsS = false := by rcases s5 with q | q; exact absurd rfl q; rw [q]; rfl
    rw [s5]; rfl
  | B =>
    have s5 : Txt.contains (deed6 i a.st) bsS = true := by rcases s5 with q | q; exact absurd rfl q; rw [q]; rfl
    rw [s5]; rfl
  | D =>
    have h1 := age' (by decide)
    show (if ln + 1 = (if new then ln else f) + 1 then (2 : Int) else 3) = if (if new then 1 else age + 1) = 1 then 2 else 3
    by_cases q : ln + 1 = (if new then ln else f) + 1
    · rw [if_pos q, if_pos (by omega)]
    · rw [if_neg q, if_neg (by omega)]
  | S =>
    have h1 := age' (by decide)
    show (if ln + 1 = (if new then ln else f) + 1 then (2 : Int) else 3) = if (if new then 1 else age + 1) = 1 then 2 else 3
    by_cases q : ln + 1 = (if new then ln else f) + 1
    · rw [if_pos q, if_pos (by omega)]
    · rw [if_neg q, if_neg (by omega)]
  | L =>
    have h1 := age' (by decide)
    show (if ln + 1 = (if new then ln else f) + 1 then (2 : Int) else 3) = if (if new then 1 else age + 1) = 1 then 2 else 3
    by_cases q : ln + 1 = (if new then ln else f) + 1
    · rw [if_pos q, if_pos (by omega)]
    · rw [if_neg q, if_neg (by omega)]
end
end Mine
end
section
set_option linter.unusedVariables false
set_option maxRecDepth 100000
set_option maxHeartbeats 4000000
namespace Mine
open PySem PyProof.Rows PySem.W

theorem txt6_ok : ∀ i ∈ List.range 14, (sg (txt6 i)).length ≤ 10 ∧ (∀ ch ∈ sg (txt6 i), ch < 128) ∧ (sg (txt6 i)).getLast? = some 10 := by decide +kernel
/- a text so far -/
structure Tx (t : Nat) (x : Str) : Prop where
  ascii : ∀ ch ∈ sg x, ch < 128
  len : (sg x).length ≤ 10 * t
theorem Tx.more {t : Nat} {x : Str} (h : Tx t x) (ht : t ≤ 1000) {i : Nat} (hi : i < 14) : Tx (t + 1) (x ++ txt6 i) ∧ TextOk (x ++ txt6 i) := by
  obtain ⟨h1, h2, h3⟩ := txt6_ok i (List.mem_range.mpr hi)
  have hl := h.len
  have ha : ∀ ch ∈ sg (x ++ txt6 i), ch < 128 := by
    intro ch hc
    rw [sg_append] at hc
    rcases List.mem_append.mp hc with q | q
    · exact h.ascii ch q
    · exact h2 ch q
  have e : (sg (x ++ txt6 i)).length = (sg x).length + (sg (txt6 i)).length := by rw [sg_append, List.length_append]
  refine ⟨⟨ha, by omega⟩, ha, .inr ?_, by unfold big; omega⟩
  rw [sg_append, List.getLast?_append, h3]; rfl

section
variable {P : Pm}
theorem body_ok (L : L6Ok P) {N m t : Nat} {rest : List Int} {fs : List (Str × V)} (hfs : Fs6 m fs) (hm : m ≤ 800) (hr : rest.length ≤ big) {a : A6} {lv : Nat} {age : Int} {x : Str} (hk : Kept x a lv age) (hx : Tx t x) (ht : t ≤ 1000) {a0 : D} (j : Int) {pr : List Nat} {K : F → Sg' → Prop}
    (hK : ∀ (rest' : List Int) (a' : A6) (lv' : Nat) (age' : Int) (x' : Str) (fs' : List (Str × V)) r9 r10 r11 r12 r13, rest'.length ≤ rest.length → Kept x' a' lv' age' → Tx (t + 1) x' → Fs6 (m + 5) fs' → K .next ⟨sl6 a0 x' a'.st lv' age' r9 r10 r11 r12 r13, c6 P.hash P.C rest' fs'⟩) :
    wpB P pr (N + 60) ibBody6 ⟨sl6 a0 x a.st lv age (some (.d (.int j))) none none none none, c6 P.hash P.C rest fs⟩ K := by
  obtain ⟨z, rest', hr', hdraw⟩ := draw_call L (n := N + 50) (l := sl6 a0 x a.st lv age (some (.d (.int j))) none none none none) rfl hfs hr
  obtain ⟨f1, f2⟩ := fmod_lt (j + z) (m := 14) (by decide)
  have hi : ((j + z).fmod 14).toNat < 14 := by omega
  generalize hI : ((j + z).fmod 14).toNat = i at hi
  obtain ⟨hk', hdue⟩ := hk.step hi
  obtain ⟨hx', hT⟩ := hx.more ht hi
  have sy := says6_ok hi a
  unfold says6 at sy
  simp only [Bool.and_eq_true, Bool.or_eq_true, Bool.not_eq_true', beq_iff_eq, bne_iff_ne, ne_eq] at sy
  obtain ⟨⟨⟨⟨⟨s1, s2⟩, s3⟩, s4⟩, s5⟩, s6⟩ := sy
  have hfs' := (hfs.setd (x ++ txt6 i)).studied (x ++ txt6 i)
  show wpB P pr (N + 60) (.asg 10 (.item (.v 1) (.bin .Mod (.bin .Add (.v 9) (.call (.g (.val (.ref 219))) [(.v 3), (.c (.int 14))] none)) (.c (.int 14)))) ::
    .asg 11 (.item (.v 10) (.v 6)) :: .asg 5 (.bin .Add (.v 5) (.item (.v 10) (.c (.int 0)))) :: .asg 8 (.bin .Add (.v 8) (.c (.int 1))) :: ibState6 :: ibDepth6 :: ibDue6 :: ibTail6) _ K
  refine asg_to' (n := N + 58) (.d (line6 i)) (c' := c6 P.hash P.C rest' fs) (fun K' h => ?_) ?_
  · rw [wpE, wpE]
    show wpE P (N + 57) (.bin .Mod _ _) _ _ _
    rw [wpE, wpE, wpE]
    show wpE P (N + 55) (.call (.g (.val (.ref 219))) [(.v 3), (.c (.int 14))] none) _ _ _
    refine hdraw _ ?_
    refine ⟨by decide, ?_⟩
    exact item_at (c := c6 P.hash P.C rest' fs) (K := fun d => K' (.d d) (c6 P.hash P.C rest' fs)) (xs := tab6.map fun r => D.tup (r.map .str)) (d := line6 i) f1 (by rw [hI]; exact line_at hi) (by decide) h
  refine asg_to (n := N + 57) (.d (.str (deed6 i a.st))) (fun K' h => ?_) ?_
  · rw [wpE, wpE]
    show wpE P (N + 56) (.v 6) _ _ _
    rw [wpE]
    exact item_tup (row_at hi a.st a.st_lt) (by rw [List.length_map, (row_ok i (List.mem_range.mpr hi)).1]; decide) h
  refine asg_to (n := N + 56) (.d (.str (x ++ txt6 i))) (fun K' h => ?_) ?_
  · rw [wpE, wpE]
    show wpE P (N + 55) (.item (.v 10) (.c (.int 0))) _ _ _
    rw [wpE, wpE]
    show wpE P (N + 54) (.c (.int 0)) _ _ _
    rw [wpE]
    refine item_tup (i := 0) (d := .str (txt6 i)) (row_at hi 0 (by decide)) (by rw [List.length_map, (row_ok i (List.mem_range.mpr hi)).1]; decide) ?_
    refine ⟨?_, h⟩
    have h1 := (txt6_ok i (List.mem_range.mpr hi)).1
    have h2 := hx.len
    rw [sg_len] at h1 h2
    unfold big; omega
  refine asg_to (n := N + 55) (.d (.int (age + 1))) (fun K' h => h) ?_
  refine state_ok (N := N) (st' := (work6 i a).1.st) (new := (work6 i a).2.2) rfl s1 s2 ?_
  refine depth_ok (N := N) (op := (work6 i a).2.1) s3 s4 ?_
  refine due_ok (N := N - 0) ?_
  refine tail6 L (N := N + 1) hfs hm hT hdue ?_
  exact hK rest' _ _ _ _ _ _ _ _ _ _ hr' hk' hx' hfs'
end
end Mine
end
section
set_option linter.unusedVariables false
set_option maxRecDepth 100000
set_option maxHeartbeats 4000000
namespace Mine
open PySem PyProof.Rows PySem.W
theorem nilWf6 : Wf [] := ⟨trivial, .nil⟩
theorem fs06 : Fs6 2 fs0 := ⟨by decide +kernel, by decide +kernel, by decide +kernel, by decide, fun U => fs0_w U⟩
theorem kept0 : Kept ⟨#[]⟩ .N 0 0 := ⟨0, 0, [0], rfl, fun h => absurd rfl h⟩
theorem rangeD0 {n : Int} {j : Nat} {d : D} (h : (rangeD 0 n)[j]? = some d) : d = .int (0 + (j : Nat)) ∧ (j : Int) < n := by
  unfold rangeD at h
  rw [List.getElem?_map] at h
  obtain ⟨i, hi, rfl⟩ := Option.map_eq_some_iff.mp h
  obtain ⟨h1, h2⟩ := List.getElem?_eq_some_iff.mp hi
  rw [List.getElem_range] at h2
  rw [List.length_range] at h1
  subst h2
  exact ⟨rfl, by omega⟩
section
variable {P : Pm}
theorem law6_ok (L : L6Ok P) {N : Nat} (l : List Int) (hl : l.length ≤ 63) {K : F → Sg' → Prop} (hK : ∀ l c, K (.ret (.d (.bool true))) ⟨l, c⟩) :
    wpB P [] (N + 80) ibLaw6 ⟨start [.d (.lst (l.map .int))] 13, []⟩ K := by
  have hll : (l.map D.int).length ≤ big := by rw [List.length_map]; unfold big; omega
  unfold ibLaw6
  show wpB P [] (N + 80) _ ⟨[some (.d (.lst (l.map .int))), none, none, none, none, none, none, none, none, none, none, none, none, none], []⟩ K
  refine asg_to' (n := N + 78) (.d lines6) (c' := []) (fun K' h => ?_) ?_
  · rw [wpE, wpE, wpEs]
    refine ⟨L.li, ?_⟩
    rw [L.liS]
    exact ⟨rfl, nilWf6, fun j hj => hj, h⟩
  refine asg_to' (n := N + 77) (.obj 156013) (c' := [(156013, .dic P.hash beg6)]) (fun K' h => ⟨by simp [dom], h⟩) ?_
  refine asg_to' (n := N + 76) (.obj 157011) (c' := [(156013, .dic P.hash beg6), (157011, .list (l.map .int))]) (fun K' h => ⟨hll, by simp [dom], h⟩) ?_
  refine asg_to' (n := N + 75) (.obj 1) (c' := c6 P.hash P.C l fs0) (fun K' h => ?_) ?_
  · rw [wpE]
    refine ⟨L.C.symm, ?_⟩
    show ∃ k dk, _
    rw [← L.C, L.ini]
    refine ⟨1, 2, by simp [dom], by simp [dom], by decide, 1, 2, rfl, ?_, rfl, rfl, rfl, fun j hj => hj, h⟩
    exact ⟨⟨⟨_, rfl, rfl, rfl⟩, ⟨_, rfl, rfl⟩, ⟨_, rfl, trivial⟩, ⟨_, rfl, rfl, rfl, by simp [dom]⟩, trivial⟩, by simp [dom]⟩
  refine asg_to (n := N + 74) (.d (.str ⟨#[]⟩)) (fun K' h => h) ?_
  refine asg_to (n := N + 73) (.d (.int 1)) (fun K' h => h) ?_
  refine asg_to (n := N + 72) (.d (.int 0)) (fun K' h => h) ?_
  refine asg_to (n := N + 71) (.d (.int 0)) (fun K' h => h) ?_
  show wpB P [] (N + 72) _ ⟨sl6 (.lst (l.map .int)) ⟨#[]⟩ 1 0 0 none none none none none, c6 P.hash P.C l fs0⟩ K
  refine cons_to (n := N + 71) ?_
  generalize hn : (if (if ((l.map D.int).length : Int) < 10 then ((l.map D.int).length : Int) else 10) > 4 then (if ((l.map D.int).length : Int) < 10 then ((l.map D.int).length : Int) else 10) else 4) = n
  have hn1 : 0 ≤ n ∧ n ≤ 10 := by rw [← hn]; split <;> split <;> omega
  rw [wpS]
  have hit : ∀ K' : V → Cells → Prop, K' (.rng 0 n) (c6 P.hash P.C l fs0) → wpE P (N + 70) (.call (.g (.bi .range)) [(.call (.g (.bi .max)) [(.c (.int 4)), (.call (.g (.bi .min)) [(.c (.int 10)), (.call (.g (.bi .len)) [(.v 3)] none)] none)] none)] none) (sl6 (.lst (l.map .int)) ⟨#[]⟩ 1 0 0 none none none none none) (c6 P.hash P.C l fs0) K' := fun K' h => by
    refine ⟨hll, ?_⟩
    rw [← hn] at h
    exact h
  refine hit _ ?_
  refine ⟨⟨by decide, by decide, by omega, by omega⟩, _, rfl, fun j τ => ∃ rest a lv age x fs, rest.length ≤ 63 ∧ Kept x a lv age ∧ Tx j x ∧ Fs6 (2 + 5 * j) fs ∧ τ = ⟨sl6 (.lst (l.map .int)) x a.st lv age none none none none none, c6 P.hash P.C rest fs⟩,
    ⟨l, .N, 0, 0, ⟨#[]⟩, fs0, hl, kept0, ⟨fun ch hc => (by cases hc), Nat.le_refl _⟩, fs06, rfl⟩, ?_, ?_⟩
  · rintro j d _ hd ⟨rest, a, lv, age, x, fs, hr, hk, hx, hfs, rfl⟩
    obtain ⟨rfl, hlt⟩ := rangeD0 hd
    refine ⟨by show 9 < 14; decide, ?_⟩
    refine body_ok L (N := N + 10) hfs (by omega) (by unfold big; omega) hk hx (by omega) _ fun rest' a' lv' age' x' fs' r9 r10 r11 r12 r13 h1 h2 h3 h4 => ?_
    refine ⟨⟨sl6 (.lst (l.map .int)) x' a'.st lv' age' none none none none none, c6 P.hash P.C rest' fs'⟩, ⟨?_, rfl, (wf6 h4).w, fun k hk => by cases hk⟩, rest', a', lv', age', x', fs', by omega, h2, h3, ⟨h4.no1, h4.no2, h4.no3, by have := h4.len; omega, h4.w⟩, rfl⟩
    exact ⟨⟨_, rfl, vD _ _ _⟩, ⟨_, rfl, vD _ _ _⟩, ⟨_, rfl, .inl ⟨rfl, by show (156013 : Nat) ∈ dom (c6 P.hash P.C rest' fs'); simp [dom]⟩⟩, ⟨_, rfl, .inl ⟨rfl, by show (157011 : Nat) ∈ dom (c6 P.hash P.C rest' fs'); simp [dom]⟩⟩, ⟨_, rfl, .inl ⟨rfl, by show (1 : Nat) ∈ dom (c6 P.hash P.C rest' fs'); simp [dom]⟩⟩,
      ⟨_, rfl, vD _ _ _⟩, ⟨_, rfl, vD _ _ _⟩, ⟨_, rfl, vD _ _ _⟩, ⟨_, rfl, vD _ _ _⟩, trivial⟩
  · rintro _ ⟨rest, a, lv, age, x, fs, hr, hk, hx, hfs, rfl⟩
    exact ret_to (n := N + 69) (.d (.bool true)) (c' := c6 P.hash P.C rest fs) (fun K' h => h) (hK _ _)
end
end Mine
end
section
set_option linter.unusedVariables false
namespace Mine
open PySem PyProof.Rows PySem.W
theorem well_isDs {P : Params} {h : Heap} {own : Addr → Prop} : ∀ {l : List Int} {ws : List Value}, WellAll P h ws (ofPys (l.map .int)) → IsDs h own (l.map D.int) ws
  | [], _, .nil => .nil
  | n :: l, _, .cons (.int _ t) r => .cons (.int n t) (well_isDs r)
/- a law by its contract -/
theorem enter {prog : Program} {w : World} {s : Shared} {d : Nat} {a : Addr} {spec : Spec} (F : FnOk0 prog w s.heap d a spec) (hd : d ≤ 20) {l : List Int} {b : Addr} (hl : Well w.params s.heap (.ref b) (ofPy (.list (l.map .int))))
    (sp : spec [.d (.lst (l.map .int))] [] (fun v c => v = .d (.bool true))) {Q : Value → Shared → Prop} {E : Value → Shared → Prop}
    (hq : ∀ h' tk, (∀ x o, s.heap.get? x = some o → h'.get? x = some o) → Q (.bool true) { s with heap := h', toks := tk }) : wpAny (model prog w) callerA (call (.ref a) [.ref b]) Q E s := by
  have C : Cst s.heap [] [] (fun _ => 0) s.heap := ⟨fun _ _ e => e, fun k o e => (by cases e), fun k hk => (by cases hk), fun k hk => (by cases hk), fun k hk => (by cases hk)⟩
  refine wpAny_call (F callerA ⟨rfl, ?_, ?_⟩ [.d (.lst (l.map .int))] [.ref b] [] (fun _ => 0) s _ _ C ?_ sp ?_)
  · have : (1 + claimMargin) + 20 < recursionLimit := by decide +kernel
    show (1 + claimMargin) + d < recursionLimit; omega
  · have : 4 + 10 * 20 + 200 < cLine := by decide +kernel
    show 4 + 10 * d + 200 < cLine; omega
  · refine .cons ?_ .nil
    have hl : Well w.params s.heap (.ref b) (.list (ofPys (l.map .int))) := hl
    cases hl with
    | @list _ vs _ g r =>
      refine IsD.lst (ws := vs) (ep := 0) g ?_ (well_isDs r)
      rintro ⟨k, hk, _⟩; cases hk
  · rintro v c' α' g h' tk rfl C' L' i
    cases i
    exact hq h' tk fun x o e => L'.kept x o e (by rintro ⟨k, hk, _⟩; cases hk)
end Mine
end
section
set_option linter.unusedVariables false
set_option maxRecDepth 100000
set_option maxHeartbeats 8000000
namespace Mine
open PySem PyProof.Rows PySem.W
theorem comp_draw (p : Params) : compB 60 (T1 p 219) (fnBody (K1 p) 219) = some ibDraw6 := by kernel_rfl
theorem comp_lines (p : Params) : compB 60 (T1 p 226) (fnBody (K1 p) 226) = some ibLines6 := by kernel_rfl
theorem comp_law (p : Params) : compB 60 (T1 p 231) (fnBody (K1 p) 231) = some ibLaw6 := by kernel_rfl
section
variable {p : Params} {hb : Heap} (X : (K1 p).In hb) (lim : hb.NoLimit)
include X lim
theorem fn_cont : FnT hb 149 (T1 p 149) (ibCont 142) [Str.ofString "self"] [] (fdOf (K1 p) 149) (fnBody (K1 p) 149) 60 :=
  fnT_of X lim (by kernel_rfl) (fun ws h => by match ws, h with | [a], _ => kernel_rfl) rfl (by kernel_rfl) (by kernel_rfl) (comp_cont p)
theorem fn_draw : FnT hb 219 (T1 p 219) ibDraw6 [Str.ofString "pool", Str.ofString "bound"] [] (fdOf (K1 p) 219) (fnBody (K1 p) 219) 60 :=
  fnT_of X lim (by kernel_rfl) (fun ws h => by match ws, h with | [a, b], _ => kernel_rfl) rfl (by kernel_rfl) (by kernel_rfl) (comp_draw p)
theorem fn_lines : FnT hb 226 (T1 p 226) ibLines6 [] [Str.ofString "lines"] (fdOf (K1 p) 226) (fnBody (K1 p) 226) 60 :=
  fnT_of X lim (by kernel_rfl) (fun ws h => by match ws, h with | [], _ => kernel_rfl) rfl (by kernel_rfl) (by kernel_rfl) (comp_lines p)
theorem fn_law : FnT hb 231 (T1 p 231) ibLaw6 [Str.ofString "script"] (fnRest (K1 p) 231) (fdOf (K1 p) 231) (fnBody (K1 p) 231) 60 :=
  fnT_of X lim (by kernel_rfl) (fun ws h => by match ws, h with | [a], _ => kernel_rfl) rfl (by kernel_rfl) (by kernel_rfl) (comp_law p)
end
noncomputable def fnB : Addr → Spec := fun a => if a = 114 then initSpec 208 else if a = 121 then setSpec 208 else if a = 142 then studySpec 208 44037 45020 else noFn a
noncomputable def isB : Addr → Bool := fun a => a == 114 || a == 121 || a == 142
noncomputable def PB (w : World) : Pm := Pm1 w fnB isB
noncomputable def fnC : Addr → Spec := fun a => if a = 219 then drawSpec else if a = 226 then linesSpec else if a = 121 then setSpec 208 else if a = 149 then contSpec 208 44037 45020 else if a = 114 then initSpec 208 else noFn a
noncomputable def isC : Addr → Bool := fun a => a == 219 || a == 226 || a == 121 || a == 149
noncomputable def PC (w : World) : Pm := Pm1 w fnC isC
theorem L6 (w : World) : L6Ok (PC w) := ⟨rfl, attrOk1 _ _ _, rfl, rfl, rfl, rfl, rfl, rfl, rfl, rfl, rfl⟩
noncomputable def lawSpec6 : Spec := fun vs c K => ∃ l : List Int, vs = [.d (.lst (l.map .int))] ∧ l.length ≤ 63 ∧ c = [] ∧ K (.d (.bool true)) []
section
variable {prog : Program} {w : World} {p : Params} {hb : Heap} {mg mb : Str → Option Value} (B : Base1 w p hb mg mb)
include B
theorem cx1b (a : Addr) : Cx0 prog w hb (K1 p) (T1 p a) (PB w) 2 := by
  refine cx1 B a (fun a h => ?_) (init1 B)
  simp only [isB, Bool.or_eq_true, beq_iff_eq] at h
  rcases h with (rfl | rfl) | rfl
  · exact ⟨let ⟨o, h1, h2⟩ := (fn_init B.x B.lim).N.at_; ⟨o, _, h1, h2⟩, init1 B⟩
  · exact ⟨let ⟨o, h1, h2⟩ := (fn_set B.x B.lim).N.at_; ⟨o, _, h1, h2⟩, set1 B⟩
  · exact ⟨let ⟨o, h1, h2⟩ := (fn_study B.x B.lim).N.at_; ⟨o, _, h1, h2⟩, study1 B⟩
theorem cont1 : FnOk prog w hb 4 149 (contSpec 208 44037 45020) := by
  refine fn_by (fn_cont B.x B.lim) (cx1b B 149) fun vs c K h => ?_
  obtain ⟨k, dk, fs, rfl, pa, h⟩ := h
  exact ⟨rfl, _, cont_ok (P := PB w) (n := 0) (attrOk1 _ _ _) pa rfl rfl h⟩
theorem drawF : FnOk prog w hb 4 219 drawSpec := by
  refine fn_by (fn_draw B.x B.lim) (cx1b B 219) fun vs c K h => ?_
  obtain ⟨k, l, b, rfl, W, h1, h2, h3, h4⟩ := h
  exact ⟨rfl, _, draw_ok (P := PB w) (n := 0) W h1 h2 h3 h4⟩
theorem linesF : FnOk prog w hb 4 226 linesSpec := by
  refine fn_by (fn_lines B.x B.lim) (cx1b B 226) fun vs c K h => ?_
  obtain ⟨rfl, W, h1⟩ := h
  exact ⟨rfl, _, lines_ok6 (P := PB w) (n := 0) W h1⟩
theorem cx1c (a : Addr) : Cx0 prog w hb (K1 p) (T1 p a) (PC w) 4 := by
  refine cx1 B a (fun a h => ?_) ((init1 B).more (by decide))
  simp only [isC, Bool.or_eq_true, beq_iff_eq] at h
  rcases h with ((rfl | rfl) | rfl) | rfl
  · exact ⟨let ⟨o, h1, h2⟩ := (fn_draw B.x B.lim).N.at_; ⟨o, _, h1, h2⟩, drawF B⟩
  · exact ⟨let ⟨o, h1, h2⟩ := (fn_lines B.x B.lim).N.at_; ⟨o, _, h1, h2⟩, linesF B⟩
  · exact ⟨let ⟨o, h1, h2⟩ := (fn_set B.x B.lim).N.at_; ⟨o, _, h1, h2⟩, (set1 B).more (by decide)⟩
  · exact ⟨let ⟨o, h1, h2⟩ := (fn_cont B.x B.lim).N.at_; ⟨o, _, h1, h2⟩, cont1 B⟩
theorem law1 : FnOk0 prog w hb 6 231 lawSpec6 := by
  refine fn_by0 (fn_law B.x B.lim) (by kernel_rfl) (cx1c B 231) fun vs c K h => ?_
  obtain ⟨l, rfl, hl, rfl, hK⟩ := h
  refine ⟨rfl, 80, ?_⟩
  have hr : (fnRest (K1 p) 231).length = 13 := by kernel_rfl
  rw [hr]
  exact law6_ok (L6 w) (N := 0) l hl fun l c => ⟨.d (.bool true), [], vD _ _ _, trivial, fun k hk => hk, hK⟩
end
end Mine
end
open PySem PySem.W PyProof.Rows
set_option Elab.async false
set_option maxRecDepth 100000 in
set_option maxHeartbeats 8000000 in
theorem PySem.Challenge.cw_dm0168_06_holds : PySem.Challenge.rw_dm0168_06.Holds := by
  w_on
  refine holds_law (by kernel_rfl) fun said => ?_
  refine holds_openN (q := Mine.H6.view) (loose := Mine.H6.loose) (Xt := Mine.H6.Xt) (XP := XL Mine.H6.view Mine.H6.lv) (Yf := Hook.obs Mine.H6.H) (Ya := Hook.val Mine.H6.H) (YP := Hook.says Mine.H6.H) (N := 15450) Mine.H6.hl (Hook.of Mine.H6.H) (Hook.keeps Mine.H6.H)
    (fun s e => xl_of s (Bool.and_eq_true_iff.mp e).1) XL.keeps (by rfl) (by rfl) (by rfl) (fun s e => recFacts_of (Bool.and_eq_true_iff.mp e).2) (by rfl) (by first | assumption | decide +kernel) (by decide +kernel) ⟨rfl, rfl, rfl, rfl, rfl, by decide +kernel⟩ ?hw ?hc
  case hw => w_witness2
  intro w s0 s1 mg mb G Y fa o pm cd doc dV kV ho hd hcd hD hmg hg args vals as hpre hlay hrd hwl hlo
  have KX : (Mine.K1 w.params).In s1.heap := Y
  refine Ground.open G ?_
  intro T B D TE TW
  wrow_args hpre hlay hrd hwl hlo
  rename_i l hs hlay0 hL1 hr1 hl2 as1 as2 a ws as3 hL ra w1 r0 hI hr hcond hcond1
  clear B D TE TW hs hlay0 hL1 hr1 hl2 ra r0 hr hD hcd hd ho Y
  have hB : Mine.Base1 w w.params s1.heap mg mb := ⟨KX, T.nolimit, T.g, T.b, T.builtins⟩
  have hfa : fa = 231 := by
    have e : mg (Str.ofString "law") = some (.ref fa) := hmg
    have e2 : nsFind (Mine.nsOf (Mine.K1 w.params) mainGlobals) (Str.ofString "law") = some (.ref 231) := by kernel_rfl
    rw [Mine.mg_of KX T.g (by kernel_rfl) (Str.ofString "law"), e2] at e
    cases e; rfl
  subst hfa
  have hlen : l.length ≤ 63 := by omega
  refine Mine.enter (Mine.law1 hB) (by decide) (l := l) w1 ⟨l, rfl, hlen, rfl, rfl⟩ fun h' tk hk => ?_
  refine ⟨.inl ⟨.bool true, .bool true, [], rfl, raisesW_false (by wrow_none_raised), .bool _, ?_, fun _ => ⟨List.nodup_nil, fun a ha => (by cases ha)⟩⟩, hk, rfl, hg⟩
  wrow_post
