import PyProof.Rows.All
import Wide.All
import OpenK.AllK
import Wide.FinOn
import PySem.Challenge.RW_pd0110_01
set_option Elab.async false
section
open PySem PySem.W PyProof.Rows
set_option maxRecDepth 100000
set_option maxHeartbeats 8000000
namespace Mine
noncomputable abbrev pwT : Program := PySem.Challenge.pw_pd0110_01
noncomputable abbrev mainB : List Stmt := pwT.main.body
noncomputable abbrev fnAt (ss : List Stmt) (i : Nat) : Arguments × List Stmt × Scope := match ss.drop i with
  | .FunctionDef _ a b _ _ _ sc _ _ _ :: _ => (a, b, sc)
  | _ => (⟨[], [], none, [], [], none, []⟩, [], ⟨.function, [], false, false, []⟩)
noncomputable abbrev clsAt (ss : List Stmt) (i : Nat) : List Stmt := match ss.drop i with
  | .ClassDef _ _ _ b _ _ _ _ _ _ _ :: _ => b
  | _ => []
noncomputable abbrev ho11 (_ : Params) : Obj := ⟨(.type "tuple"), none, (.seq ⟨[]⟩ 0), ⟨[]⟩⟩
noncomputable abbrev ho12 (_ : Params) : Obj := ⟨.none, none, (.fields ⟨[]⟩), ⟨[]⟩⟩
noncomputable abbrev ho13 (_ : Params) : Obj := ⟨(.type "code"), none, (.fields ⟨[(.str (.ofString "<module>") 182), (.str (.ofString "<module>") 183), (.str (.ofString "/claim/cut.py") 184), (.int 1 0), (.int 0 0), (.int 0 0), (.int 0 0), (.int 0 0), (.ref 11), (.bool false), (.int 181 0), (.ref 12), .none, .none, .none, .none, (.int 185 0), (.int 1 0), (.str (.ofString "/claim/cut.py") 186)]⟩), ⟨[]⟩⟩
noncomputable abbrev ho14 (_ : Params) : Obj := ⟨(.type "frame"), none, .plain, ⟨[(some (.ref 13)), (some (.ref 3)), (some (.ref 3)), none, (some (.str (.ofString "__main__") 164)), none, (some (.ref 0))]⟩⟩
noncomputable abbrev tr0 (P : Params) : BT := (.node (boot_o_0 P) (.node (boot_o_1 P) (.node (boot_o_3 P) (.node (boot_o_7 P) .nil .nil) (.node (ho11 P) .nil .nil)) (.node (boot_o_5 P) (.node (boot_o_9 P) .nil .nil) (.node (ho13 P) .nil .nil))) (.node (boot_o_2 P) (.node (boot_o_4 P) (.node (boot_o_8 P) .nil .nil) (.node (ho12 P) .nil .nil)) (.node (boot_o_6 P) (.node (boot_o_10 P) .nil .nil) (.node (ho14 P) .nil .nil))))
noncomputable abbrev hp0 (P : Params) : Heap := ⟨⟨[boot_o_0 P, boot_o_1 P, boot_o_2 P, boot_o_3 P, boot_o_4 P, boot_o_5 P, boot_o_6 P, boot_o_7 P, boot_o_8 P, boot_o_9 P, boot_o_10 P, ho11 P, ho12 P, ho13 P, ho14 P]⟩, (boot_heap P).life⟩
noncomputable abbrev st0 (w : World) (os : OsState) : SharedT := ⟨tr0 w.params, 15, (boot_heap w.params).life, Array.mk [], boot_drawn, 187, os⟩
noncomputable abbrev ps0 : Pos := ⟨0, 0, 0, 0⟩
noncomputable abbrev ho3x1 (P : Params) : Obj := ⟨(.type "dict"), none, (.dict ⟨[⟨PyData.keyHash P (.ofString "__name__"), (.str (.ofString "__name__") 165), (.str (.ofString "abc") 229)⟩, ⟨PyData.keyHash P (.ofString "__doc__"), (.str (.ofString "__doc__") 166), .none⟩, ⟨PyData.keyHash P (.ofString "__package__"), (.str (.ofString "__package__") 167), .none⟩, ⟨PyData.keyHash P (.ofString "__loader__"), (.str (.ofString "__loader__") 168), (.builtin "__main__.__loader__#opaque")⟩, ⟨PyData.keyHash P (.ofString "__spec__"), (.str (.ofString "__spec__") 169), .none⟩, ⟨PyData.keyHash P (.ofString "__annotations__"), (.str (.ofString "__annotations__") 170), (.ref 6)⟩, ⟨PyData.keyHash P (.ofString "__builtins__"), (.str (.ofString "__builtins__") 171), (.ref 4)⟩, ⟨PyData.keyHash P (.ofString "__file__"), (.str (.ofString "__file__") 173), (.str (.ofString "/claim/cut.py") 172)⟩, ⟨PyData.keyHash P (.ofString "__cached__"), (.str (.ofString "__cached__") 174), .none⟩, ⟨PyData.keyHash P (.ofString "_wall"), (.str (.ofString "_wall") 193), (.ref 21)⟩, ⟨PyData.keyHash P (.ofString "cmp_to_key"), (.str (.ofString "cmp_to_key") 204), (.ref 28)⟩, ⟨PyData.keyHash P (.ofString "_initial_missing"), (.str (.ofString "_initial_missing") 205), (.ref 29)⟩, ⟨PyData.keyHash P (.ofString "reduce"), (.str (.ofString "reduce") 217), (.ref 37)⟩, ⟨PyData.keyHash P (.ofString "_plain_name"), (.str (.ofString "_plain_name") 228), (.ref 44)⟩]⟩ 14), ⟨[]⟩⟩
noncomputable abbrev ho12x1 (_ : Params) : Obj := ⟨.none, none, (.fields ⟨[(.int 1 0), (.int 0 0), (.ref 20), (.int 5 0), (.int 0 0), (.ref 27), (.int 31 0), (.int 0 0), (.ref 36), (.int 44 0), (.int 0 0), (.ref 43)]⟩), ⟨[]⟩⟩
noncomputable abbrev ho15 (_ : Params) : Obj := ⟨(.type "tuple"), none, (.seq ⟨[]⟩ 0), ⟨[]⟩⟩
noncomputable abbrev ho16 (_ : Params) : Obj := ⟨.none, none, (.fields ⟨[]⟩), ⟨[]⟩⟩
noncomputable abbrev ho17 (_ : Params) : Obj := ⟨(.type "tuple"), none, (.seq ⟨[(.str (.ofString "k") 190)]⟩ 0), ⟨[]⟩⟩
noncomputable abbrev ho18 (_ : Params) : Obj := ⟨(.type "tuple"), none, (.seq ⟨[]⟩ 0), ⟨[]⟩⟩
noncomputable abbrev ho19 (_ : Params) : Obj := ⟨.none, none, (.func ⟨(.ofString "_wall"), (.ofString "_wall"), (fnAt mainB 0).1, .stmts (fnAt mainB 0).2.1, (fnAt mainB 0).2.2, 0, [], .none, .none, .none, .none, none, .none, .none, 0⟩), ⟨[]⟩⟩
noncomputable abbrev ho20 (_ : Params) : Obj := ⟨(.type "code"), none, (.fields ⟨[(.str (.ofString "_wall") 187), (.str (.ofString "_wall") 188), (.str (.ofString "/claim/cut.py") 189), (.int 1 0), (.int 1 0), (.int 0 0), (.int 0 0), (.int 3 0), (.ref 15), (.bool true), (.int 181 0), (.ref 16), .none, (.ref 17), (.ref 18), (.ref 19), (.int 191 0), (.int 1 0), (.str (.ofString "/claim/cut.py") 192)]⟩), ⟨[]⟩⟩
noncomputable abbrev ho21 (_ : Params) : Obj := ⟨(.type "function"), none, (.func ⟨(.ofString "_wall"), (.ofString "_wall"), (fnAt mainB 0).1, .stmts (fnAt mainB 0).2.1, (fnAt mainB 0).2.2, 3, [], .none, .none, .none, (.str (.ofString "__main__") 164), none, (.ref 20), .none, 0⟩), ⟨[]⟩⟩
noncomputable abbrev ho22 (_ : Params) : Obj := ⟨(.type "tuple"), none, (.seq ⟨[]⟩ 0), ⟨[]⟩⟩
noncomputable abbrev ho23 (_ : Params) : Obj := ⟨.none, none, (.fields ⟨[]⟩), ⟨[]⟩⟩
noncomputable abbrev ho24 (_ : Params) : Obj := ⟨(.type "tuple"), none, (.seq ⟨[(.str (.ofString "mycmp") 199), (.str (.ofString "K") 200)]⟩ 0), ⟨[]⟩⟩
noncomputable abbrev ho25 (_ : Params) : Obj := ⟨(.type "tuple"), none, (.seq ⟨[(.str (.ofString "mycmp") 201)]⟩ 0), ⟨[]⟩⟩
noncomputable abbrev ho26 (_ : Params) : Obj := ⟨.none, none, (.func ⟨(.ofString "cmp_to_key"), (.ofString "cmp_to_key"), (fnAt mainB 2).1, .stmts (fnAt mainB 2).2.1, (fnAt mainB 2).2.2, 0, [], .none, .none, .none, .none, none, .none, .none, 0⟩), ⟨[]⟩⟩
noncomputable abbrev ho27 (_ : Params) : Obj := ⟨(.type "code"), none, (.fields ⟨[(.str (.ofString "cmp_to_key") 196), (.str (.ofString "cmp_to_key") 197), (.str (.ofString "/claim/cut.py") 198), (.int 5 0), (.int 1 0), (.int 0 0), (.int 0 0), (.int 3 0), (.ref 22), (.bool true), (.int 181 0), (.ref 23), .none, (.ref 24), (.ref 25), (.ref 26), (.int 202 0), (.int 5 0), (.str (.ofString "/claim/cut.py") 203)]⟩), ⟨[]⟩⟩
noncomputable abbrev ho28 (_ : Params) : Obj := ⟨(.type "function"), none, (.func ⟨(.ofString "cmp_to_key"), (.ofString "cmp_to_key"), (fnAt mainB 2).1, .stmts (fnAt mainB 2).2.1, (fnAt mainB 2).2.2, 3, [], .none, .none, .none, (.str (.ofString "cpy313.functools") 194), none, (.ref 27), .none, 0⟩), ⟨[]⟩⟩
noncomputable abbrev ho29 (_ : Params) : Obj := ⟨(.type "object"), none, .plain, ⟨[]⟩⟩
noncomputable abbrev ho30 (_ : Params) : Obj := ⟨(.type "tuple"), none, (.seq ⟨[(.ref 29)]⟩ 0), ⟨[]⟩⟩
noncomputable abbrev ho31 (_ : Params) : Obj := ⟨(.type "tuple"), none, (.seq ⟨[]⟩ 0), ⟨[]⟩⟩
noncomputable abbrev ho32 (_ : Params) : Obj := ⟨.none, none, (.fields ⟨[]⟩), ⟨[]⟩⟩
noncomputable abbrev ho33 (_ : Params) : Obj := ⟨(.type "tuple"), none, (.seq ⟨[(.str (.ofString "function") 209), (.str (.ofString "sequence") 210), (.str (.ofString "initial") 211), (.str (.ofString "it") 212), (.str (.ofString "value") 213), (.str (.ofString "element") 214)]⟩ 0), ⟨[]⟩⟩
noncomputable abbrev ho34 (_ : Params) : Obj := ⟨(.type "tuple"), none, (.seq ⟨[]⟩ 0), ⟨[]⟩⟩
noncomputable abbrev ho35 (_ : Params) : Obj := ⟨.none, none, (.func ⟨(.ofString "reduce"), (.ofString "reduce"), (fnAt mainB 4).1, .stmts (fnAt mainB 4).2.1, (fnAt mainB 4).2.2, 0, [], .none, .none, .none, .none, none, .none, .none, 0⟩), ⟨[]⟩⟩
noncomputable abbrev ho36 (_ : Params) : Obj := ⟨(.type "code"), none, (.fields ⟨[(.str (.ofString "reduce") 206), (.str (.ofString "reduce") 207), (.str (.ofString "/claim/cut.py") 208), (.int 31 0), (.int 3 0), (.int 0 0), (.int 0 0), (.int 3 0), (.ref 31), (.bool true), (.int 181 0), (.ref 32), .none, (.ref 33), (.ref 34), (.ref 35), (.int 215 0), (.int 31 0), (.str (.ofString "/claim/cut.py") 216)]⟩), ⟨[]⟩⟩
noncomputable abbrev ho37 (_ : Params) : Obj := ⟨(.type "function"), none, (.func ⟨(.ofString "reduce"), (.ofString "reduce"), (fnAt mainB 4).1, .stmts (fnAt mainB 4).2.1, (fnAt mainB 4).2.2, 3, [], (.ref 30), .none, .none, (.str (.ofString "cpy313.functools") 194), none, (.ref 36), .none, 0⟩), ⟨[]⟩⟩
noncomputable abbrev ho38 (_ : Params) : Obj := ⟨(.type "tuple"), none, (.seq ⟨[]⟩ 0), ⟨[]⟩⟩
noncomputable abbrev ho39 (_ : Params) : Obj := ⟨.none, none, (.fields ⟨[]⟩), ⟨[]⟩⟩
noncomputable abbrev ho40 (_ : Params) : Obj := ⟨(.type "tuple"), none, (.seq ⟨[(.str (.ofString "x") 223), (.str (.ofString "what") 224), (.str (.ofString "kind") 225)]⟩ 0), ⟨[]⟩⟩
noncomputable abbrev ho41 (_ : Params) : Obj := ⟨(.type "tuple"), none, (.seq ⟨[]⟩ 0), ⟨[]⟩⟩
noncomputable abbrev ho42 (_ : Params) : Obj := ⟨.none, none, (.func ⟨(.ofString "_plain_name"), (.ofString "_plain_name"), (fnAt mainB 6).1, .stmts (fnAt mainB 6).2.1, (fnAt mainB 6).2.2, 0, [], .none, .none, .none, .none, none, .none, .none, 0⟩), ⟨[]⟩⟩
noncomputable abbrev ho43 (_ : Params) : Obj := ⟨(.type "code"), none, (.fields ⟨[(.str (.ofString "_plain_name") 220), (.str (.ofString "_plain_name") 221), (.str (.ofString "/claim/cut.py") 222), (.int 44 0), (.int 2 0), (.int 0 0), (.int 0 0), (.int 3 0), (.ref 38), (.bool true), (.int 181 0), (.ref 39), .none, (.ref 40), (.ref 41), (.ref 42), (.int 226 0), (.int 44 0), (.str (.ofString "/claim/cut.py") 227)]⟩), ⟨[]⟩⟩
noncomputable abbrev ho44 (_ : Params) : Obj := ⟨(.type "function"), none, (.func ⟨(.ofString "_plain_name"), (.ofString "_plain_name"), (fnAt mainB 6).1, .stmts (fnAt mainB 6).2.1, (fnAt mainB 6).2.2, 3, [], .none, .none, .none, (.str (.ofString "os") 218), none, (.ref 43), .none, 0⟩), ⟨[]⟩⟩
noncomputable abbrev tr1 (P : Params) : BT := (.node (boot_o_0 P) (.node (boot_o_1 P) (.node (ho3x1 P) (.node (boot_o_7 P) (.node (ho15 P) (.node (ho31 P) .nil .nil) .nil) (.node (ho23 P) (.node (ho39 P) .nil .nil) .nil)) (.node (ho11 P) (.node (ho19 P) (.node (ho35 P) .nil .nil) .nil) (.node (ho27 P) (.node (ho43 P) .nil .nil) .nil))) (.node (boot_o_5 P) (.node (boot_o_9 P) (.node (ho17 P) (.node (ho33 P) .nil .nil) .nil) (.node (ho25 P) (.node (ho41 P) .nil .nil) .nil)) (.node (ho13 P) (.node (ho21 P) (.node (ho37 P) .nil .nil) .nil) (.node (ho29 P) .nil .nil)))) (.node (boot_o_2 P) (.node (boot_o_4 P) (.node (boot_o_8 P) (.node (ho16 P) (.node (ho32 P) .nil .nil) .nil) (.node (ho24 P) (.node (ho40 P) .nil .nil) .nil)) (.node (ho12x1 P) (.node (ho20 P) (.node (ho36 P) .nil .nil) .nil) (.node (ho28 P) (.node (ho44 P) .nil .nil) .nil))) (.node (boot_o_6 P) (.node (boot_o_10 P) (.node (ho18 P) (.node (ho34 P) .nil .nil) .nil) (.node (ho26 P) (.node (ho42 P) .nil .nil) .nil)) (.node (ho14 P) (.node (ho22 P) (.node (ho38 P) .nil .nil) .nil) (.node (ho30 P) .nil .nil)))))
noncomputable abbrev st1 (w : World) (os : OsState) : SharedT := ⟨tr1 w.params, 45, (boot_heap w.params).life, Array.mk [], boot_drawn, 231, os⟩
noncomputable abbrev ps1 : Pos := ⟨49, 0, 49, 8⟩
noncomputable abbrev ho3x2 (P : Params) : Obj := ⟨(.type "dict"), none, (.dict ⟨[⟨PyData.keyHash P (.ofString "__name__"), (.str (.ofString "__name__") 165), (.str (.ofString "collections.abc") 255)⟩, ⟨PyData.keyHash P (.ofString "__doc__"), (.str (.ofString "__doc__") 166), .none⟩, ⟨PyData.keyHash P (.ofString "__package__"), (.str (.ofString "__package__") 167), .none⟩, ⟨PyData.keyHash P (.ofString "__loader__"), (.str (.ofString "__loader__") 168), (.builtin "__main__.__loader__#opaque")⟩, ⟨PyData.keyHash P (.ofString "__spec__"), (.str (.ofString "__spec__") 169), .none⟩, ⟨PyData.keyHash P (.ofString "__annotations__"), (.str (.ofString "__annotations__") 170), (.ref 6)⟩, ⟨PyData.keyHash P (.ofString "__builtins__"), (.str (.ofString "__builtins__") 171), (.ref 4)⟩, ⟨PyData.keyHash P (.ofString "__file__"), (.str (.ofString "__file__") 173), (.str (.ofString "/claim/cut.py") 172)⟩, ⟨PyData.keyHash P (.ofString "__cached__"), (.str (.ofString "__cached__") 174), .none⟩, ⟨PyData.keyHash P (.ofString "_wall"), (.str (.ofString "_wall") 193), (.ref 21)⟩, ⟨PyData.keyHash P (.ofString "cmp_to_key"), (.str (.ofString "cmp_to_key") 204), (.ref 28)⟩, ⟨PyData.keyHash P (.ofString "_initial_missing"), (.str (.ofString "_initial_missing") 205), (.ref 29)⟩, ⟨PyData.keyHash P (.ofString "reduce"), (.str (.ofString "reduce") 217), (.ref 37)⟩, ⟨PyData.keyHash P (.ofString "_plain_name"), (.str (.ofString "_plain_name") 228), (.ref 44)⟩, ⟨PyData.keyHash P (.ofString "ABCMeta"), (.str (.ofString "ABCMeta") 254), (.ref 61)⟩]⟩ 15), ⟨[]⟩⟩
noncomputable abbrev ho12x2 (_ : Params) : Obj := ⟨.none, none, (.fields ⟨[(.int 1 0), (.int 0 0), (.ref 20), (.int 5 0), (.int 0 0), (.ref 27), (.int 31 0), (.int 0 0), (.ref 36), (.int 44 0), (.int 0 0), (.ref 43), (.int 50 0), (.int 0 0), (.ref 50)]⟩), ⟨[]⟩⟩
noncomputable abbrev ho45 (_ : Params) : Obj := ⟨(.type "tuple"), none, (.seq ⟨[(.type "type")]⟩ 0), ⟨[]⟩⟩
noncomputable abbrev ho46 (_ : Params) : Obj := ⟨(.type "builtin_function_or_method"), none, (.fields ⟨[(.builtin "type.__prepare__"), (.type "type")]⟩), ⟨[]⟩⟩
noncomputable abbrev ho47 (P : Params) : Obj := ⟨(.type "dict"), none, (.dict ⟨[⟨PyData.keyHash P (.ofString "__module__"), (.str (.ofString "__module__") 238), (.str (.ofString "abc") 229)⟩, ⟨PyData.keyHash P (.ofString "__qualname__"), (.str (.ofString "__qualname__") 240), (.str (.ofString "ABCMeta") 239)⟩, ⟨PyData.keyHash P (.ofString "__firstlineno__"), (.str (.ofString "__firstlineno__") 242), (.int 50 241)⟩, ⟨PyData.keyHash P (.ofString "register"), (.str (.ofString "register") 250), (.ref 58)⟩, ⟨PyData.keyHash P (.ofString "__static_attributes__"), (.str (.ofString "__static_attributes__") 251), (.ref 59)⟩]⟩ 5), ⟨[]⟩⟩
noncomputable abbrev ho48 (_ : Params) : Obj := ⟨(.type "tuple"), none, (.seq ⟨[]⟩ 0), ⟨[]⟩⟩
noncomputable abbrev ho49 (_ : Params) : Obj := ⟨.none, none, (.fields ⟨[(.int 52 0), (.int 4 0), (.ref 57)]⟩), ⟨[]⟩⟩
noncomputable abbrev ho50 (_ : Params) : Obj := ⟨(.type "code"), none, (.fields ⟨[(.str (.ofString "ABCMeta") 233), (.str (.ofString "ABCMeta") 234), (.str (.ofString "/claim/cut.py") 235), (.int 50 0), (.int 0 0), (.int 0 0), (.int 0 0), (.int 0 0), (.ref 48), (.bool false), (.int 181 0), (.ref 49), .none, .none, .none, .none, (.int 236 0), (.int 50 0), (.str (.ofString "/claim/cut.py") 237)]⟩), ⟨[]⟩⟩
noncomputable abbrev ho51 (_ : Params) : Obj := ⟨(.type "frame"), none, .plain, ⟨[(some (.ref 50)), (some (.ref 3)), (some (.ref 47)), none, (some (.str (.ofString "abc") 229)), none, (some (.ref 0))]⟩⟩
noncomputable abbrev ho52 (_ : Params) : Obj := ⟨(.type "tuple"), none, (.seq ⟨[]⟩ 0), ⟨[]⟩⟩
noncomputable abbrev ho53 (_ : Params) : Obj := ⟨.none, none, (.fields ⟨[]⟩), ⟨[]⟩⟩
noncomputable abbrev ho54 (_ : Params) : Obj := ⟨(.type "tuple"), none, (.seq ⟨[(.str (.ofString "cls") 246), (.str (.ofString "subclass") 247)]⟩ 0), ⟨[]⟩⟩
noncomputable abbrev ho55 (_ : Params) : Obj := ⟨(.type "tuple"), none, (.seq ⟨[]⟩ 0), ⟨[]⟩⟩
noncomputable abbrev ho56 (_ : Params) : Obj := ⟨.none, none, (.func ⟨(.ofString "register"), (.ofString "ABCMeta.register"), (fnAt (clsAt mainB 8) 0).1, .stmts (fnAt (clsAt mainB 8) 0).2.1, (fnAt (clsAt mainB 8) 0).2.2, 0, [], .none, .none, .none, .none, none, .none, .none, 0⟩), ⟨[]⟩⟩
noncomputable abbrev ho57 (_ : Params) : Obj := ⟨(.type "code"), none, (.fields ⟨[(.str (.ofString "register") 243), (.str (.ofString "ABCMeta.register") 244), (.str (.ofString "/claim/cut.py") 245), (.int 52 0), (.int 2 0), (.int 0 0), (.int 0 0), (.int 3 0), (.ref 52), (.bool true), (.int 181 0), (.ref 53), .none, (.ref 54), (.ref 55), (.ref 56), (.int 248 0), (.int 52 0), (.str (.ofString "/claim/cut.py") 249)]⟩), ⟨[]⟩⟩
noncomputable abbrev ho58 (_ : Params) : Obj := ⟨(.type "function"), none, (.func ⟨(.ofString "register"), (.ofString "ABCMeta.register"), (fnAt (clsAt mainB 8) 0).1, .stmts (fnAt (clsAt mainB 8) 0).2.1, (fnAt (clsAt mainB 8) 0).2.2, 3, [], .none, .none, .none, (.str (.ofString "abc") 229), none, (.ref 57), .none, 0⟩), ⟨[]⟩⟩
noncomputable abbrev ho59 (_ : Params) : Obj := ⟨(.type "tuple"), none, (.seq ⟨[]⟩ 0), ⟨[]⟩⟩
noncomputable abbrev ho60 (P : Params) : Obj := ⟨(.type "dict"), none, (.dict ⟨[⟨PyData.keyHash P (.ofString "__module__"), (.str (.ofString "__module__") 238), (.str (.ofString "abc") 229)⟩, ⟨PyData.keyHash P (.ofString "__firstlineno__"), (.str (.ofString "__firstlineno__") 242), (.int 50 241)⟩, ⟨PyData.keyHash P (.ofString "register"), (.str (.ofString "register") 250), (.ref 58)⟩, ⟨PyData.keyHash P (.ofString "__static_attributes__"), (.str (.ofString "__static_attributes__") 251), (.ref 59)⟩, ⟨PyData.keyHash P (.ofString "__doc__"), (.str (.ofString "__doc__") 252), .none⟩]⟩ 2), ⟨[]⟩⟩
noncomputable abbrev ho61 (_ : Params) : Obj := ⟨(.type "type"), none, (.cls ⟨(.ofString "ABCMeta"), [(.type "type")], [(.ref 61), (.type "type"), (.type "object")], 60, (.ofString "ABCMeta"), true, [], [], false, none, false⟩), ⟨[(some (.ref 45)), none, (some (.str (.ofString "ABCMeta") 231)), (some (.str (.ofString "ABCMeta") 239)), (some (.builtin "type.__new__")), (some (.bool true))]⟩⟩
noncomputable abbrev ho62 (_ : Params) : Obj := ⟨(.type "super"), none, (.fields ⟨[(.ref 61), (.ref 61), (.ref 61)]⟩), ⟨[]⟩⟩
noncomputable abbrev ho63 (_ : Params) : Obj := ⟨(.type "builtin_function_or_method"), none, (.fields ⟨[(.builtin "object.__init_subclass__"), (.ref 61)]⟩), ⟨[]⟩⟩
noncomputable abbrev tr2 (P : Params) : BT := (.node (boot_o_0 P) (.node (boot_o_1 P) (.node (ho3x2 P) (.node (boot_o_7 P) (.node (ho15 P) (.node (ho31 P) (.node (ho63 P) .nil .nil) .nil) (.node (ho47 P) .nil .nil)) (.node (ho23 P) (.node (ho39 P) .nil .nil) (.node (ho55 P) .nil .nil))) (.node (ho11 P) (.node (ho19 P) (.node (ho35 P) .nil .nil) (.node (ho51 P) .nil .nil)) (.node (ho27 P) (.node (ho43 P) .nil .nil) (.node (ho59 P) .nil .nil)))) (.node (boot_o_5 P) (.node (boot_o_9 P) (.node (ho17 P) (.node (ho33 P) .nil .nil) (.node (ho49 P) .nil .nil)) (.node (ho25 P) (.node (ho41 P) .nil .nil) (.node (ho57 P) .nil .nil))) (.node (ho13 P) (.node (ho21 P) (.node (ho37 P) .nil .nil) (.node (ho53 P) .nil .nil)) (.node (ho29 P) (.node (ho45 P) .nil .nil) (.node (ho61 P) .nil .nil))))) (.node (boot_o_2 P) (.node (boot_o_4 P) (.node (boot_o_8 P) (.node (ho16 P) (.node (ho32 P) .nil .nil) (.node (ho48 P) .nil .nil)) (.node (ho24 P) (.node (ho40 P) .nil .nil) (.node (ho56 P) .nil .nil))) (.node (ho12x2 P) (.node (ho20 P) (.node (ho36 P) .nil .nil) (.node (ho52 P) .nil .nil)) (.node (ho28 P) (.node (ho44 P) .nil .nil) (.node (ho60 P) .nil .nil)))) (.node (boot_o_6 P) (.node (boot_o_10 P) (.node (ho18 P) (.node (ho34 P) .nil .nil) (.node (ho50 P) .nil .nil)) (.node (ho26 P) (.node (ho42 P) .nil .nil) (.node (ho58 P) .nil .nil))) (.node (ho14 P) (.node (ho22 P) (.node (ho38 P) .nil .nil) (.node (ho54 P) .nil .nil)) (.node (ho30 P) (.node (ho46 P) .nil .nil) (.node (ho62 P) .nil .nil))))))
noncomputable abbrev st2 (w : World) (os : OsState) : SharedT := ⟨tr2 w.params, 64, (boot_heap w.params).life, Array.mk [], boot_drawn, 257, os⟩
noncomputable abbrev ps2 : Pos := ⟨54, 0, 54, 8⟩
noncomputable abbrev ho3x3 (P : Params) : Obj := ⟨(.type "dict"), none, (.dict ⟨[⟨PyData.keyHash P (.ofString "__name__"), (.str (.ofString "__name__") 165), (.str (.ofString "collections.abc") 255)⟩, ⟨PyData.keyHash P (.ofString "__doc__"), (.str (.ofString "__doc__") 166), .none⟩, ⟨PyData.keyHash P (.ofString "__package__"), (.str (.ofString "__package__") 167), .none⟩, ⟨PyData.keyHash P (.ofString "__loader__"), (.str (.ofString "__loader__") 168), (.builtin "__main__.__loader__#opaque")⟩, ⟨PyData.keyHash P (.ofString "__spec__"), (.str (.ofString "__spec__") 169), .none⟩, ⟨PyData.keyHash P (.ofString "__annotations__"), (.str (.ofString "__annotations__") 170), (.ref 6)⟩, ⟨PyData.keyHash P (.ofString "__builtins__"), (.str (.ofString "__builtins__") 171), (.ref 4)⟩, ⟨PyData.keyHash P (.ofString "__file__"), (.str (.ofString "__file__") 173), (.str (.ofString "/claim/cut.py") 172)⟩, ⟨PyData.keyHash P (.ofString "__cached__"), (.str (.ofString "__cached__") 174), .none⟩, ⟨PyData.keyHash P (.ofString "_wall"), (.str (.ofString "_wall") 193), (.ref 21)⟩, ⟨PyData.keyHash P (.ofString "cmp_to_key"), (.str (.ofString "cmp_to_key") 204), (.ref 28)⟩, ⟨PyData.keyHash P (.ofString "_initial_missing"), (.str (.ofString "_initial_missing") 205), (.ref 29)⟩, ⟨PyData.keyHash P (.ofString "reduce"), (.str (.ofString "reduce") 217), (.ref 37)⟩, ⟨PyData.keyHash P (.ofString "_plain_name"), (.str (.ofString "_plain_name") 228), (.ref 44)⟩, ⟨PyData.keyHash P (.ofString "ABCMeta"), (.str (.ofString "ABCMeta") 254), (.ref 61)⟩, ⟨PyData.keyHash P (.ofString "_ABCLike"), (.str (.ofString "_ABCLike") 297), (.ref 94)⟩]⟩ 16), ⟨[]⟩⟩
noncomputable abbrev ho12x3 (_ : Params) : Obj := ⟨.none, none, (.fields ⟨[(.int 1 0), (.int 0 0), (.ref 20), (.int 5 0), (.int 0 0), (.ref 27), (.int 31 0), (.int 0 0), (.ref 36), (.int 44 0), (.int 0 0), (.ref 43), (.int 50 0), (.int 0 0), (.ref 50), (.int 55 0), (.int 0 0), (.ref 69)]⟩), ⟨[]⟩⟩
noncomputable abbrev ho61x3 (_ : Params) : Obj := ⟨(.type "type"), none, (.cls ⟨(.ofString "ABCMeta"), [(.type "type")], [(.ref 61), (.type "type"), (.type "object")], 60, (.ofString "ABCMeta"), true, [], [(.ref 94)], false, none, false⟩), ⟨[(some (.ref 45)), none, (some (.str (.ofString "ABCMeta") 231)), (some (.str (.ofString "ABCMeta") 239)), (some (.builtin "type.__new__")), (some (.bool true))]⟩⟩
noncomputable abbrev ho64 (_ : Params) : Obj := ⟨(.type "tuple"), none, (.seq ⟨[(.ref 61)]⟩ 0), ⟨[]⟩⟩
noncomputable abbrev ho65 (_ : Params) : Obj := ⟨(.type "builtin_function_or_method"), none, (.fields ⟨[(.builtin "type.__prepare__"), (.type "type")]⟩), ⟨[]⟩⟩
noncomputable abbrev ho66 (P : Params) : Obj := ⟨(.type "dict"), none, (.dict ⟨[⟨PyData.keyHash P (.ofString "__module__"), (.str (.ofString "__module__") 264), (.str (.ofString "collections.abc") 255)⟩, ⟨PyData.keyHash P (.ofString "__qualname__"), (.str (.ofString "__qualname__") 266), (.str (.ofString "_ABCLike") 265)⟩, ⟨PyData.keyHash P (.ofString "__firstlineno__"), (.str (.ofString "__firstlineno__") 268), (.int 55 267)⟩, ⟨PyData.keyHash P (.ofString "__instancecheck__"), (.str (.ofString "__instancecheck__") 277), (.ref 77)⟩, ⟨PyData.keyHash P (.ofString "__subclasscheck__"), (.str (.ofString "__subclasscheck__") 285), (.ref 84)⟩, ⟨PyData.keyHash P (.ofString "register"), (.str (.ofString "register") 293), (.ref 91)⟩, ⟨PyData.keyHash P (.ofString "__static_attributes__"), (.str (.ofString "__static_attributes__") 294), (.ref 92)⟩]⟩ 7), ⟨[]⟩⟩
noncomputable abbrev ho67 (_ : Params) : Obj := ⟨(.type "tuple"), none, (.seq ⟨[]⟩ 0), ⟨[]⟩⟩
noncomputable abbrev ho68 (_ : Params) : Obj := ⟨.none, none, (.fields ⟨[(.int 57 0), (.int 4 0), (.ref 76), (.int 63 0), (.int 4 0), (.ref 83), (.int 68 0), (.int 4 0), (.ref 90)]⟩), ⟨[]⟩⟩
noncomputable abbrev ho69 (_ : Params) : Obj := ⟨(.type "code"), none, (.fields ⟨[(.str (.ofString "_ABCLike") 259), (.str (.ofString "_ABCLike") 260), (.str (.ofString "/claim/cut.py") 261), (.int 55 0), (.int 0 0), (.int 0 0), (.int 0 0), (.int 0 0), (.ref 67), (.bool false), (.int 181 0), (.ref 68), .none, .none, .none, .none, (.int 262 0), (.int 55 0), (.str (.ofString "/claim/cut.py") 263)]⟩), ⟨[]⟩⟩
noncomputable abbrev ho70 (_ : Params) : Obj := ⟨(.type "frame"), none, .plain, ⟨[(some (.ref 69)), (some (.ref 3)), (some (.ref 66)), none, (some (.str (.ofString "collections.abc") 255)), none, (some (.ref 0))]⟩⟩
noncomputable abbrev ho71 (_ : Params) : Obj := ⟨(.type "tuple"), none, (.seq ⟨[]⟩ 0), ⟨[]⟩⟩
noncomputable abbrev ho72 (_ : Params) : Obj := ⟨.none, none, (.fields ⟨[]⟩), ⟨[]⟩⟩
noncomputable abbrev ho73 (_ : Params) : Obj := ⟨(.type "tuple"), none, (.seq ⟨[(.str (.ofString "cls") 272), (.str (.mk ⟨[105, 110, 115, 116, 97, 110, 99, 101]⟩) 273), (.str (.ofString "C") 274)]⟩ 0), ⟨[]⟩⟩
noncomputable abbrev ho74 (_ : Params) : Obj := ⟨(.type "tuple"), none, (.seq ⟨[]⟩ 0), ⟨[]⟩⟩
noncomputable abbrev ho75 (_ : Params) : Obj := ⟨.none, none, (.func ⟨(.ofString "__instancecheck__"), (.ofString "_ABCLike.__instancecheck__"), (fnAt (clsAt mainB 10) 0).1, .stmts (fnAt (clsAt mainB 10) 0).2.1, (fnAt (clsAt mainB 10) 0).2.2, 0, [], .none, .none, .none, .none, none, .none, .none, 0⟩), ⟨[]⟩⟩
noncomputable abbrev ho76 (_ : Params) : Obj := ⟨(.type "code"), none, (.fields ⟨[(.str (.ofString "__instancecheck__") 269), (.str (.ofString "_ABCLike.__instancecheck__") 270), (.str (.ofString "/claim/cut.py") 271), (.int 57 0), (.int 2 0), (.int 0 0), (.int 0 0), (.int 3 0), (.ref 71), (.bool true), (.int 181 0), (.ref 72), .none, (.ref 73), (.ref 74), (.ref 75), (.int 275 0), (.int 57 0), (.str (.ofString "/claim/cut.py") 276)]⟩), ⟨[]⟩⟩
noncomputable abbrev ho77 (_ : Params) : Obj := ⟨(.type "function"), none, (.func ⟨(.ofString "__instancecheck__"), (.ofString "_ABCLike.__instancecheck__"), (fnAt (clsAt mainB 10) 0).1, .stmts (fnAt (clsAt mainB 10) 0).2.1, (fnAt (clsAt mainB 10) 0).2.2, 3, [], .none, .none, .none, (.str (.ofString "collections.abc") 255), none, (.ref 76), .none, 0⟩), ⟨[]⟩⟩
noncomputable abbrev ho78 (_ : Params) : Obj := ⟨(.type "tuple"), none, (.seq ⟨[]⟩ 0), ⟨[]⟩⟩
noncomputable abbrev ho79 (_ : Params) : Obj := ⟨.none, none, (.fields ⟨[]⟩), ⟨[]⟩⟩
noncomputable abbrev ho80 (_ : Params) : Obj := ⟨(.type "tuple"), none, (.seq ⟨[(.str (.ofString "cls") 281), (.str (.ofString "C") 282)]⟩ 0), ⟨[]⟩⟩
noncomputable abbrev ho81 (_ : Params) : Obj := ⟨(.type "tuple"), none, (.seq ⟨[]⟩ 0), ⟨[]⟩⟩
noncomputable abbrev ho82 (_ : Params) : Obj := ⟨.none, none, (.func ⟨(.ofString "__subclasscheck__"), (.ofString "_ABCLike.__subclasscheck__"), (fnAt (clsAt mainB 10) 1).1, .stmts (fnAt (clsAt mainB 10) 1).2.1, (fnAt (clsAt mainB 10) 1).2.2, 0, [], .none, .none, .none, .none, none, .none, .none, 0⟩), ⟨[]⟩⟩
noncomputable abbrev ho83 (_ : Params) : Obj := ⟨(.type "code"), none, (.fields ⟨[(.str (.ofString "__subclasscheck__") 278), (.str (.ofString "_ABCLike.__subclasscheck__") 279), (.str (.ofString "/claim/cut.py") 280), (.int 63 0), (.int 2 0), (.int 0 0), (.int 0 0), (.int 3 0), (.ref 78), (.bool true), (.int 181 0), (.ref 79), .none, (.ref 80), (.ref 81), (.ref 82), (.int 283 0), (.int 63 0), (.str (.ofString "/claim/cut.py") 284)]⟩), ⟨[]⟩⟩
noncomputable abbrev ho84 (_ : Params) : Obj := ⟨(.type "function"), none, (.func ⟨(.ofString "__subclasscheck__"), (.ofString "_ABCLike.__subclasscheck__"), (fnAt (clsAt mainB 10) 1).1, .stmts (fnAt (clsAt mainB 10) 1).2.1, (fnAt (clsAt mainB 10) 1).2.2, 3, [], .none, .none, .none, (.str (.ofString "collections.abc") 255), none, (.ref 83), .none, 0⟩), ⟨[]⟩⟩
noncomputable abbrev ho85 (_ : Params) : Obj := ⟨(.type "tuple"), none, (.seq ⟨[]⟩ 0), ⟨[]⟩⟩
noncomputable abbrev ho86 (_ : Params) : Obj := ⟨.none, none, (.fields ⟨[]⟩), ⟨[]⟩⟩
noncomputable abbrev ho87 (_ : Params) : Obj := ⟨(.type "tuple"), none, (.seq ⟨[(.str (.ofString "cls") 289), (.str (.ofString "subclass") 290)]⟩ 0), ⟨[]⟩⟩
noncomputable abbrev ho88 (_ : Params) : Obj := ⟨(.type "tuple"), none, (.seq ⟨[]⟩ 0), ⟨[]⟩⟩
noncomputable abbrev ho89 (_ : Params) : Obj := ⟨.none, none, (.func ⟨(.ofString "register"), (.ofString "_ABCLike.register"), (fnAt (clsAt mainB 10) 2).1, .stmts (fnAt (clsAt mainB 10) 2).2.1, (fnAt (clsAt mainB 10) 2).2.2, 0, [], .none, .none, .none, .none, none, .none, .none, 0⟩), ⟨[]⟩⟩
noncomputable abbrev ho90 (_ : Params) : Obj := ⟨(.type "code"), none, (.fields ⟨[(.str (.ofString "register") 286), (.str (.ofString "_ABCLike.register") 287), (.str (.ofString "/claim/cut.py") 288), (.int 68 0), (.int 2 0), (.int 0 0), (.int 0 0), (.int 3 0), (.ref 85), (.bool true), (.int 181 0), (.ref 86), .none, (.ref 87), (.ref 88), (.ref 89), (.int 291 0), (.int 68 0), (.str (.ofString "/claim/cut.py") 292)]⟩), ⟨[]⟩⟩
noncomputable abbrev ho91 (_ : Params) : Obj := ⟨(.type "function"), none, (.func ⟨(.ofString "register"), (.ofString "_ABCLike.register"), (fnAt (clsAt mainB 10) 2).1, .stmts (fnAt (clsAt mainB 10) 2).2.1, (fnAt (clsAt mainB 10) 2).2.2, 3, [], .none, .none, .none, (.str (.ofString "collections.abc") 255), none, (.ref 90), .none, 0⟩), ⟨[]⟩⟩
noncomputable abbrev ho92 (_ : Params) : Obj := ⟨(.type "tuple"), none, (.seq ⟨[]⟩ 0), ⟨[]⟩⟩
noncomputable abbrev ho93 (P : Params) : Obj := ⟨(.type "dict"), none, (.dict ⟨[⟨PyData.keyHash P (.ofString "__module__"), (.str (.ofString "__module__") 264), (.str (.ofString "collections.abc") 255)⟩, ⟨PyData.keyHash P (.ofString "__firstlineno__"), (.str (.ofString "__firstlineno__") 268), (.int 55 267)⟩, ⟨PyData.keyHash P (.ofString "__instancecheck__"), (.str (.ofString "__instancecheck__") 277), (.ref 77)⟩, ⟨PyData.keyHash P (.ofString "__subclasscheck__"), (.str (.ofString "__subclasscheck__") 285), (.ref 84)⟩, ⟨PyData.keyHash P (.ofString "register"), (.str (.ofString "register") 293), (.ref 91)⟩, ⟨PyData.keyHash P (.ofString "__static_attributes__"), (.str (.ofString "__static_attributes__") 294), (.ref 92)⟩, ⟨PyData.keyHash P (.ofString "__doc__"), (.str (.ofString "__doc__") 295), .none⟩]⟩ 2), ⟨[]⟩⟩
noncomputable abbrev ho94 (_ : Params) : Obj := ⟨(.type "type"), none, (.cls ⟨(.ofString "_ABCLike"), [(.ref 61)], [(.ref 94), (.ref 61), (.type "type"), (.type "object")], 93, (.ofString "_ABCLike"), true, [], [], false, none, false⟩), ⟨[(some (.ref 64)), none, (some (.str (.ofString "_ABCLike") 257)), (some (.str (.ofString "_ABCLike") 265)), (some (.builtin "type.__new__")), (some (.bool true))]⟩⟩
noncomputable abbrev ho95 (_ : Params) : Obj := ⟨(.type "super"), none, (.fields ⟨[(.ref 94), (.ref 94), (.ref 94)]⟩), ⟨[]⟩⟩
noncomputable abbrev ho96 (_ : Params) : Obj := ⟨(.type "builtin_function_or_method"), none, (.fields ⟨[(.builtin "object.__init_subclass__"), (.ref 94)]⟩), ⟨[]⟩⟩
noncomputable abbrev tr3 (P : Params) : BT := (.node (boot_o_0 P) (.node (boot_o_1 P) (.node (ho3x3 P) (.node (boot_o_7 P) (.node (ho15 P) (.node (ho31 P) (.node (ho63 P) .nil .nil) (.node (ho95 P) .nil .nil)) (.node (ho47 P) (.node (ho79 P) .nil .nil) .nil)) (.node (ho23 P) (.node (ho39 P) (.node (ho71 P) .nil .nil) .nil) (.node (ho55 P) (.node (ho87 P) .nil .nil) .nil))) (.node (ho11 P) (.node (ho19 P) (.node (ho35 P) (.node (ho67 P) .nil .nil) .nil) (.node (ho51 P) (.node (ho83 P) .nil .nil) .nil)) (.node (ho27 P) (.node (ho43 P) (.node (ho75 P) .nil .nil) .nil) (.node (ho59 P) (.node (ho91 P) .nil .nil) .nil)))) (.node (boot_o_5 P) (.node (boot_o_9 P) (.node (ho17 P) (.node (ho33 P) (.node (ho65 P) .nil .nil) .nil) (.node (ho49 P) (.node (ho81 P) .nil .nil) .nil)) (.node (ho25 P) (.node (ho41 P) (.node (ho73 P) .nil .nil) .nil) (.node (ho57 P) (.node (ho89 P) .nil .nil) .nil))) (.node (ho13 P) (.node (ho21 P) (.node (ho37 P) (.node (ho69 P) .nil .nil) .nil) (.node (ho53 P) (.node (ho85 P) .nil .nil) .nil)) (.node (ho29 P) (.node (ho45 P) (.node (ho77 P) .nil .nil) .nil) (.node (ho61x3 P) (.node (ho93 P) .nil .nil) .nil))))) (.node (boot_o_2 P) (.node (boot_o_4 P) (.node (boot_o_8 P) (.node (ho16 P) (.node (ho32 P) (.node (ho64 P) .nil .nil) (.node (ho96 P) .nil .nil)) (.node (ho48 P) (.node (ho80 P) .nil .nil) .nil)) (.node (ho24 P) (.node (ho40 P) (.node (ho72 P) .nil .nil) .nil) (.node (ho56 P) (.node (ho88 P) .nil .nil) .nil))) (.node (ho12x3 P) (.node (ho20 P) (.node (ho36 P) (.node (ho68 P) .nil .nil) .nil) (.node (ho52 P) (.node (ho84 P) .nil .nil) .nil)) (.node (ho28 P) (.node (ho44 P) (.node (ho76 P) .nil .nil) .nil) (.node (ho60 P) (.node (ho92 P) .nil .nil) .nil)))) (.node (boot_o_6 P) (.node (boot_o_10 P) (.node (ho18 P) (.node (ho34 P) (.node (ho66 P) .nil .nil) .nil) (.node (ho50 P) (.node (ho82 P) .nil .nil) .nil)) (.node (ho26 P) (.node (ho42 P) (.node (ho74 P) .nil .nil) .nil) (.node (ho58 P) (.node (ho90 P) .nil .nil) .nil))) (.node (ho14 P) (.node (ho22 P) (.node (ho38 P) (.node (ho70 P) .nil .nil) .nil) (.node (ho54 P) (.node (ho86 P) .nil .nil) .nil)) (.node (ho30 P) (.node (ho46 P) (.node (ho78 P) .nil .nil) .nil) (.node (ho62 P) (.node (ho94 P) .nil .nil) .nil))))))
noncomputable abbrev st3 (w : World) (os : OsState) : SharedT := ⟨tr3 w.params, 97, (boot_heap w.params).life, Array.mk [], boot_drawn, 298, os⟩
noncomputable abbrev ps3 : Pos := ⟨55, 0, 69, 16⟩
noncomputable abbrev ho3x4 (P : Params) : Obj := ⟨(.type "dict"), none, (.dict ⟨[⟨PyData.keyHash P (.ofString "__name__"), (.str (.ofString "__name__") 165), (.str (.ofString "cpy313.stat") 374)⟩, ⟨PyData.keyHash P (.ofString "__doc__"), (.str (.ofString "__doc__") 166), .none⟩, ⟨PyData.keyHash P (.ofString "__package__"), (.str (.ofString "__package__") 167), .none⟩, ⟨PyData.keyHash P (.ofString "__loader__"), (.str (.ofString "__loader__") 168), (.builtin "__main__.__loader__#opaque")⟩, ⟨PyData.keyHash P (.ofString "__spec__"), (.str (.ofString "__spec__") 169), .none⟩, ⟨PyData.keyHash P (.ofString "__annotations__"), (.str (.ofString "__annotations__") 170), (.ref 6)⟩, ⟨PyData.keyHash P (.ofString "__builtins__"), (.str (.ofString "__builtins__") 171), (.ref 4)⟩, ⟨PyData.keyHash P (.ofString "__file__"), (.str (.ofString "__file__") 173), (.str (.ofString "/claim/cut.py") 172)⟩, ⟨PyData.keyHash P (.ofString "__cached__"), (.str (.ofString "__cached__") 174), .none⟩, ⟨PyData.keyHash P (.ofString "_wall"), (.str (.ofString "_wall") 193), (.ref 21)⟩, ⟨PyData.keyHash P (.ofString "cmp_to_key"), (.str (.ofString "cmp_to_key") 204), (.ref 28)⟩, ⟨PyData.keyHash P (.ofString "_initial_missing"), (.str (.ofString "_initial_missing") 205), (.ref 29)⟩, ⟨PyData.keyHash P (.ofString "reduce"), (.str (.ofString "reduce") 217), (.ref 37)⟩, ⟨PyData.keyHash P (.ofString "_plain_name"), (.str (.ofString "_plain_name") 228), (.ref 44)⟩, ⟨PyData.keyHash P (.ofString "ABCMeta"), (.str (.ofString "ABCMeta") 254), (.ref 61)⟩, ⟨PyData.keyHash P (.ofString "_ABCLike"), (.str (.ofString "_ABCLike") 297), (.ref 94)⟩, ⟨PyData.keyHash P (.ofString "_abc_plain_meta"), (.str (.ofString "_abc_plain_meta") 304), (.ref 103)⟩, ⟨PyData.keyHash P (.ofString "fspath"), (.str (.ofString "fspath") 316), (.ref 110)⟩, ⟨PyData.keyHash P (.ofString "_check_arg_types"), (.str (.ofString "_check_arg_types") 329), (.ref 117)⟩, ⟨PyData.keyHash P (.ofString "_get_sep"), (.str (.ofString "_get_sep") 338), (.ref 124)⟩, ⟨PyData.keyHash P (.ofString "join"), (.str (.ofString "join") 349), (.ref 131)⟩, ⟨PyData.keyHash P (.ofString "splitroot"), (.str (.ofString "splitroot") 358), (.ref 138)⟩, ⟨PyData.keyHash P (.ofString "normpath"), (.str (.ofString "normpath") 373), (.ref 145)⟩, ⟨PyData.keyHash P (.ofString "S_IFMT"), (.str (.ofString "S_IFMT") 382), (.ref 152)⟩, ⟨PyData.keyHash P (.ofString "S_IFDIR"), (.str (.ofString "S_IFDIR") 384), (.int 16384 383)⟩, ⟨PyData.keyHash P (.ofString "S_IFCHR"), (.str (.ofString "S_IFCHR") 386), (.int 8192 385)⟩, ⟨PyData.keyHash P (.ofString "S_IFBLK"), (.str (.ofString "S_IFBLK") 388), (.int 24576 387)⟩, ⟨PyData.keyHash P (.ofString "S_IFREG"), (.str (.ofString "S_IFREG") 390), (.int 32768 389)⟩, ⟨PyData.keyHash P (.ofString "S_IFIFO"), (.str (.ofString "S_IFIFO") 392), (.int 4096 391)⟩, ⟨PyData.keyHash P (.ofString "S_IFLNK"), (.str (.ofString "S_IFLNK") 394), (.int 40960 393)⟩, ⟨PyData.keyHash P (.ofString "S_IFSOCK"), (.str (.ofString "S_IFSOCK") 396), (.int 49152 395)⟩]⟩ 31), ⟨[]⟩⟩
noncomputable abbrev ho12x4 (_ : Params) : Obj := ⟨.none, none, (.fields ⟨[(.int 1 0), (.int 0 0), (.ref 20), (.int 5 0), (.int 0 0), (.ref 27), (.int 31 0), (.int 0 0), (.ref 36), (.int 44 0), (.int 0 0), (.ref 43), (.int 50 0), (.int 0 0), (.ref 50), (.int 55 0), (.int 0 0), (.ref 69), (.int 70 0), (.int 0 0), (.ref 102), (.int 74 0), (.int 0 0), (.ref 109), (.int 91 0), (.int 0 0), (.ref 116), (.int 103 0), (.int 0 0), (.ref 123), (.int 108 0), (.int 0 0), (.ref 130), (.int 125 0), (.int 0 0), (.ref 137), (.int 139 0), (.int 0 0), (.ref 144), (.int 165 0), (.int 0 0), (.ref 151)]⟩), ⟨[]⟩⟩
noncomputable abbrev ho97 (_ : Params) : Obj := ⟨(.type "tuple"), none, (.seq ⟨[]⟩ 0), ⟨[]⟩⟩
noncomputable abbrev ho98 (_ : Params) : Obj := ⟨.none, none, (.fields ⟨[]⟩), ⟨[]⟩⟩
noncomputable abbrev ho99 (_ : Params) : Obj := ⟨(.type "tuple"), none, (.seq ⟨[(.str (.ofString "C") 301)]⟩ 0), ⟨[]⟩⟩
noncomputable abbrev ho100 (_ : Params) : Obj := ⟨(.type "tuple"), none, (.seq ⟨[]⟩ 0), ⟨[]⟩⟩
noncomputable abbrev ho101 (_ : Params) : Obj := ⟨.none, none, (.func ⟨(.ofString "_abc_plain_meta"), (.ofString "_abc_plain_meta"), (fnAt mainB 11).1, .stmts (fnAt mainB 11).2.1, (fnAt mainB 11).2.2, 0, [], .none, .none, .none, .none, none, .none, .none, 0⟩), ⟨[]⟩⟩
noncomputable abbrev ho102 (_ : Params) : Obj := ⟨(.type "code"), none, (.fields ⟨[(.str (.ofString "_abc_plain_meta") 298), (.str (.ofString "_abc_plain_meta") 299), (.str (.ofString "/claim/cut.py") 300), (.int 70 0), (.int 1 0), (.int 0 0), (.int 0 0), (.int 3 0), (.ref 97), (.bool true), (.int 181 0), (.ref 98), .none, (.ref 99), (.ref 100), (.ref 101), (.int 302 0), (.int 70 0), (.str (.ofString "/claim/cut.py") 303)]⟩), ⟨[]⟩⟩
noncomputable abbrev ho103 (_ : Params) : Obj := ⟨(.type "function"), none, (.func ⟨(.ofString "_abc_plain_meta"), (.ofString "_abc_plain_meta"), (fnAt mainB 11).1, .stmts (fnAt mainB 11).2.1, (fnAt mainB 11).2.2, 3, [], .none, .none, .none, (.str (.ofString "collections.abc") 255), none, (.ref 102), .none, 0⟩), ⟨[]⟩⟩
noncomputable abbrev ho104 (_ : Params) : Obj := ⟨(.type "tuple"), none, (.seq ⟨[]⟩ 0), ⟨[]⟩⟩
noncomputable abbrev ho105 (_ : Params) : Obj := ⟨.none, none, (.fields ⟨[]⟩), ⟨[]⟩⟩
noncomputable abbrev ho106 (_ : Params) : Obj := ⟨(.type "tuple"), none, (.seq ⟨[(.str (.ofString "path") 310), (.str (.ofString "kind") 311), (.str (.ofString "hook") 312), (.str (.ofString "given") 313)]⟩ 0), ⟨[]⟩⟩
noncomputable abbrev ho107 (_ : Params) : Obj := ⟨(.type "tuple"), none, (.seq ⟨[]⟩ 0), ⟨[]⟩⟩
noncomputable abbrev ho108 (_ : Params) : Obj := ⟨.none, none, (.func ⟨(.ofString "fspath"), (.ofString "fspath"), (fnAt mainB 13).1, .stmts (fnAt mainB 13).2.1, (fnAt mainB 13).2.2, 0, [], .none, .none, .none, .none, none, .none, .none, 0⟩), ⟨[]⟩⟩
noncomputable abbrev ho109 (_ : Params) : Obj := ⟨(.type "code"), none, (.fields ⟨[(.str (.ofString "fspath") 307), (.str (.ofString "fspath") 308), (.str (.ofString "/claim/cut.py") 309), (.int 74 0), (.int 1 0), (.int 0 0), (.int 0 0), (.int 3 0), (.ref 104), (.bool true), (.int 181 0), (.ref 105), .none, (.ref 106), (.ref 107), (.ref 108), (.int 314 0), (.int 74 0), (.str (.ofString "/claim/cut.py") 315)]⟩), ⟨[]⟩⟩
noncomputable abbrev ho110 (_ : Params) : Obj := ⟨(.type "function"), none, (.func ⟨(.ofString "fspath"), (.ofString "fspath"), (fnAt mainB 13).1, .stmts (fnAt mainB 13).2.1, (fnAt mainB 13).2.2, 3, [], .none, .none, .none, (.str (.ofString "os") 305), none, (.ref 109), .none, 0⟩), ⟨[]⟩⟩
noncomputable abbrev ho111 (_ : Params) : Obj := ⟨(.type "tuple"), none, (.seq ⟨[]⟩ 0), ⟨[]⟩⟩
noncomputable abbrev ho112 (_ : Params) : Obj := ⟨.none, none, (.fields ⟨[]⟩), ⟨[]⟩⟩
noncomputable abbrev ho113 (_ : Params) : Obj := ⟨(.type "tuple"), none, (.seq ⟨[(.str (.ofString "funcname") 322), (.str (.ofString "args") 323), (.str (.ofString "hasstr") 324), (.str (.ofString "hasbytes") 325), (.str (.ofString "s") 326)]⟩ 0), ⟨[]⟩⟩
noncomputable abbrev ho114 (_ : Params) : Obj := ⟨(.type "tuple"), none, (.seq ⟨[]⟩ 0), ⟨[]⟩⟩
noncomputable abbrev ho115 (_ : Params) : Obj := ⟨.none, none, (.func ⟨(.ofString "_check_arg_types"), (.ofString "_check_arg_types"), (fnAt mainB 15).1, .stmts (fnAt mainB 15).2.1, (fnAt mainB 15).2.2, 0, [], .none, .none, .none, .none, none, .none, .none, 0⟩), ⟨[]⟩⟩
noncomputable abbrev ho116 (_ : Params) : Obj := ⟨(.type "code"), none, (.fields ⟨[(.str (.ofString "_check_arg_types") 319), (.str (.ofString "_check_arg_types") 320), (.str (.ofString "/claim/cut.py") 321), (.int 91 0), (.int 1 0), (.int 0 0), (.int 0 0), (.int 7 0), (.ref 111), (.bool true), (.int 181 0), (.ref 112), .none, (.ref 113), (.ref 114), (.ref 115), (.int 327 0), (.int 91 0), (.str (.ofString "/claim/cut.py") 328)]⟩), ⟨[]⟩⟩
noncomputable abbrev ho117 (_ : Params) : Obj := ⟨(.type "function"), none, (.func ⟨(.ofString "_check_arg_types"), (.ofString "_check_arg_types"), (fnAt mainB 15).1, .stmts (fnAt mainB 15).2.1, (fnAt mainB 15).2.2, 3, [], .none, .none, .none, (.str (.ofString "cpy313.genericpath") 317), none, (.ref 116), .none, 0⟩), ⟨[]⟩⟩
noncomputable abbrev ho118 (_ : Params) : Obj := ⟨(.type "tuple"), none, (.seq ⟨[]⟩ 0), ⟨[]⟩⟩
noncomputable abbrev ho119 (_ : Params) : Obj := ⟨.none, none, (.fields ⟨[]⟩), ⟨[]⟩⟩
noncomputable abbrev ho120 (_ : Params) : Obj := ⟨(.type "tuple"), none, (.seq ⟨[(.str (.ofString "path") 335)]⟩ 0), ⟨[]⟩⟩
noncomputable abbrev ho121 (_ : Params) : Obj := ⟨(.type "tuple"), none, (.seq ⟨[]⟩ 0), ⟨[]⟩⟩
noncomputable abbrev ho122 (_ : Params) : Obj := ⟨.none, none, (.func ⟨(.ofString "_get_sep"), (.ofString "_get_sep"), (fnAt mainB 17).1, .stmts (fnAt mainB 17).2.1, (fnAt mainB 17).2.2, 0, [], .none, .none, .none, .none, none, .none, .none, 0⟩), ⟨[]⟩⟩
noncomputable abbrev ho123 (_ : Params) : Obj := ⟨(.type "code"), none, (.fields ⟨[(.str (.ofString "_get_sep") 332), (.str (.ofString "_get_sep") 333), (.str (.ofString "/claim/cut.py") 334), (.int 103 0), (.int 1 0), (.int 0 0), (.int 0 0), (.int 3 0), (.ref 118), (.bool true), (.int 181 0), (.ref 119), .none, (.ref 120), (.ref 121), (.ref 122), (.int 336 0), (.int 103 0), (.str (.ofString "/claim/cut.py") 337)]⟩), ⟨[]⟩⟩
noncomputable abbrev ho124 (_ : Params) : Obj := ⟨(.type "function"), none, (.func ⟨(.ofString "_get_sep"), (.ofString "_get_sep"), (fnAt mainB 17).1, .stmts (fnAt mainB 17).2.1, (fnAt mainB 17).2.2, 3, [], .none, .none, .none, (.str (.ofString "cpy313.posixpath") 330), none, (.ref 123), .none, 0⟩), ⟨[]⟩⟩
noncomputable abbrev ho125 (_ : Params) : Obj := ⟨(.type "tuple"), none, (.seq ⟨[]⟩ 0), ⟨[]⟩⟩
noncomputable abbrev ho126 (_ : Params) : Obj := ⟨.none, none, (.fields ⟨[]⟩), ⟨[]⟩⟩
noncomputable abbrev ho127 (_ : Params) : Obj := ⟨(.type "tuple"), none, (.seq ⟨[(.str (.ofString "a") 342), (.str (.ofString "p") 343), (.str (.ofString "sep") 344), (.str (.ofString "path") 345), (.str (.ofString "b") 346)]⟩ 0), ⟨[]⟩⟩
noncomputable abbrev ho128 (_ : Params) : Obj := ⟨(.type "tuple"), none, (.seq ⟨[]⟩ 0), ⟨[]⟩⟩
noncomputable abbrev ho129 (_ : Params) : Obj := ⟨.none, none, (.func ⟨(.ofString "join"), (.ofString "join"), (fnAt mainB 18).1, .stmts (fnAt mainB 18).2.1, (fnAt mainB 18).2.2, 0, [], .none, .none, .none, .none, none, .none, .none, 0⟩), ⟨[]⟩⟩
noncomputable abbrev ho130 (_ : Params) : Obj := ⟨(.type "code"), none, (.fields ⟨[(.str (.ofString "join") 339), (.str (.ofString "join") 340), (.str (.ofString "/claim/cut.py") 341), (.int 108 0), (.int 1 0), (.int 0 0), (.int 0 0), (.int 7 0), (.ref 125), (.bool true), (.int 181 0), (.ref 126), .none, (.ref 127), (.ref 128), (.ref 129), (.int 347 0), (.int 108 0), (.str (.ofString "/claim/cut.py") 348)]⟩), ⟨[]⟩⟩
noncomputable abbrev ho131 (_ : Params) : Obj := ⟨(.type "function"), none, (.func ⟨(.ofString "join"), (.ofString "join"), (fnAt mainB 18).1, .stmts (fnAt mainB 18).2.1, (fnAt mainB 18).2.2, 3, [], .none, .none, .none, (.str (.ofString "cpy313.posixpath") 330), none, (.ref 130), .none, 0⟩), ⟨[]⟩⟩
noncomputable abbrev ho132 (_ : Params) : Obj := ⟨(.type "tuple"), none, (.seq ⟨[]⟩ 0), ⟨[]⟩⟩
noncomputable abbrev ho133 (_ : Params) : Obj := ⟨.none, none, (.fields ⟨[]⟩), ⟨[]⟩⟩
noncomputable abbrev ho134 (_ : Params) : Obj := ⟨(.type "tuple"), none, (.seq ⟨[(.str (.ofString "p") 353), (.str (.ofString "sep") 354), (.str (.ofString "empty") 355)]⟩ 0), ⟨[]⟩⟩
noncomputable abbrev ho135 (_ : Params) : Obj := ⟨(.type "tuple"), none, (.seq ⟨[]⟩ 0), ⟨[]⟩⟩
noncomputable abbrev ho136 (_ : Params) : Obj := ⟨.none, none, (.func ⟨(.ofString "splitroot"), (.ofString "splitroot"), (fnAt mainB 19).1, .stmts (fnAt mainB 19).2.1, (fnAt mainB 19).2.2, 0, [], .none, .none, .none, .none, none, .none, .none, 0⟩), ⟨[]⟩⟩
noncomputable abbrev ho137 (_ : Params) : Obj := ⟨(.type "code"), none, (.fields ⟨[(.str (.ofString "splitroot") 350), (.str (.ofString "splitroot") 351), (.str (.ofString "/claim/cut.py") 352), (.int 125 0), (.int 1 0), (.int 0 0), (.int 0 0), (.int 3 0), (.ref 132), (.bool true), (.int 181 0), (.ref 133), .none, (.ref 134), (.ref 135), (.ref 136), (.int 356 0), (.int 125 0), (.str (.ofString "/claim/cut.py") 357)]⟩), ⟨[]⟩⟩
noncomputable abbrev ho138 (_ : Params) : Obj := ⟨(.type "function"), none, (.func ⟨(.ofString "splitroot"), (.ofString "splitroot"), (fnAt mainB 19).1, .stmts (fnAt mainB 19).2.1, (fnAt mainB 19).2.2, 3, [], .none, .none, .none, (.str (.ofString "cpy313.posixpath") 330), none, (.ref 137), .none, 0⟩), ⟨[]⟩⟩
noncomputable abbrev ho139 (_ : Params) : Obj := ⟨(.type "tuple"), none, (.seq ⟨[]⟩ 0), ⟨[]⟩⟩
noncomputable abbrev ho140 (_ : Params) : Obj := ⟨.none, none, (.fields ⟨[]⟩), ⟨[]⟩⟩
noncomputable abbrev ho141 (_ : Params) : Obj := ⟨(.type "tuple"), none, (.seq ⟨[(.str (.ofString "path") 362), (.str (.ofString "sep") 363), (.str (.ofString "dot") 364), (.str (.ofString "dotdot") 365), (.str (.ofString "_") 366), (.str (.ofString "initial_slashes") 367), (.str (.ofString "comps") 368), (.str (.ofString "new_comps") 369), (.str (.ofString "comp") 370)]⟩ 0), ⟨[]⟩⟩
noncomputable abbrev ho142 (_ : Params) : Obj := ⟨(.type "tuple"), none, (.seq ⟨[]⟩ 0), ⟨[]⟩⟩
noncomputable abbrev ho143 (_ : Params) : Obj := ⟨.none, none, (.func ⟨(.ofString "normpath"), (.ofString "normpath"), (fnAt mainB 20).1, .stmts (fnAt mainB 20).2.1, (fnAt mainB 20).2.2, 0, [], .none, .none, .none, .none, none, .none, .none, 0⟩), ⟨[]⟩⟩
noncomputable abbrev ho144 (_ : Params) : Obj := ⟨(.type "code"), none, (.fields ⟨[(.str (.ofString "normpath") 359), (.str (.ofString "normpath") 360), (.str (.ofString "/claim/cut.py") 361), (.int 139 0), (.int 1 0), (.int 0 0), (.int 0 0), (.int 3 0), (.ref 139), (.bool true), (.int 181 0), (.ref 140), .none, (.ref 141), (.ref 142), (.ref 143), (.int 371 0), (.int 139 0), (.str (.ofString "/claim/cut.py") 372)]⟩), ⟨[]⟩⟩
noncomputable abbrev ho145 (_ : Params) : Obj := ⟨(.type "function"), none, (.func ⟨(.ofString "normpath"), (.ofString "normpath"), (fnAt mainB 20).1, .stmts (fnAt mainB 20).2.1, (fnAt mainB 20).2.2, 3, [], .none, .none, .none, (.str (.ofString "cpy313.posixpath") 330), none, (.ref 144), .none, 0⟩), ⟨[]⟩⟩
noncomputable abbrev ho146 (_ : Params) : Obj := ⟨(.type "tuple"), none, (.seq ⟨[]⟩ 0), ⟨[]⟩⟩
noncomputable abbrev ho147 (_ : Params) : Obj := ⟨.none, none, (.fields ⟨[]⟩), ⟨[]⟩⟩
noncomputable abbrev ho148 (_ : Params) : Obj := ⟨(.type "tuple"), none, (.seq ⟨[(.str (.ofString "mode") 379)]⟩ 0), ⟨[]⟩⟩
noncomputable abbrev ho149 (_ : Params) : Obj := ⟨(.type "tuple"), none, (.seq ⟨[]⟩ 0), ⟨[]⟩⟩
noncomputable abbrev ho150 (_ : Params) : Obj := ⟨.none, none, (.func ⟨(.ofString "S_IFMT"), (.ofString "S_IFMT"), (fnAt mainB 22).1, .stmts (fnAt mainB 22).2.1, (fnAt mainB 22).2.2, 0, [], .none, .none, .none, .none, none, .none, .none, 0⟩), ⟨[]⟩⟩
noncomputable abbrev ho151 (_ : Params) : Obj := ⟨(.type "code"), none, (.fields ⟨[(.str (.ofString "S_IFMT") 376), (.str (.ofString "S_IFMT") 377), (.str (.ofString "/claim/cut.py") 378), (.int 165 0), (.int 1 0), (.int 0 0), (.int 0 0), (.int 3 0), (.ref 146), (.bool true), (.int 181 0), (.ref 147), .none, (.ref 148), (.ref 149), (.ref 150), (.int 380 0), (.int 165 0), (.str (.ofString "/claim/cut.py") 381)]⟩), ⟨[]⟩⟩
noncomputable abbrev ho152 (_ : Params) : Obj := ⟨(.type "function"), none, (.func ⟨(.ofString "S_IFMT"), (.ofString "S_IFMT"), (fnAt mainB 22).1, .stmts (fnAt mainB 22).2.1, (fnAt mainB 22).2.2, 3, [], .none, .none, .none, (.str (.ofString "cpy313.stat") 374), none, (.ref 151), .none, 0⟩), ⟨[]⟩⟩
noncomputable abbrev tr4 (P : Params) : BT := (.node (boot_o_0 P) (.node (boot_o_1 P) (.node (ho3x4 P) (.node (boot_o_7 P) (.node (ho15 P) (.node (ho31 P) (.node (ho63 P) (.node (ho127 P) .nil .nil) .nil) (.node (ho95 P) .nil .nil)) (.node (ho47 P) (.node (ho79 P) (.node (ho143 P) .nil .nil) .nil) (.node (ho111 P) .nil .nil))) (.node (ho23 P) (.node (ho39 P) (.node (ho71 P) (.node (ho135 P) .nil .nil) .nil) (.node (ho103 P) .nil .nil)) (.node (ho55 P) (.node (ho87 P) (.node (ho151 P) .nil .nil) .nil) (.node (ho119 P) .nil .nil)))) (.node (ho11 P) (.node (ho19 P) (.node (ho35 P) (.node (ho67 P) (.node (ho131 P) .nil .nil) .nil) (.node (ho99 P) .nil .nil)) (.node (ho51 P) (.node (ho83 P) (.node (ho147 P) .nil .nil) .nil) (.node (ho115 P) .nil .nil))) (.node (ho27 P) (.node (ho43 P) (.node (ho75 P) (.node (ho139 P) .nil .nil) .nil) (.node (ho107 P) .nil .nil)) (.node (ho59 P) (.node (ho91 P) .nil .nil) (.node (ho123 P) .nil .nil))))) (.node (boot_o_5 P) (.node (boot_o_9 P) (.node (ho17 P) (.node (ho33 P) (.node (ho65 P) (.node (ho129 P) .nil .nil) .nil) (.node (ho97 P) .nil .nil)) (.node (ho49 P) (.node (ho81 P) (.node (ho145 P) .nil .nil) .nil) (.node (ho113 P) .nil .nil))) (.node (ho25 P) (.node (ho41 P) (.node (ho73 P) (.node (ho137 P) .nil .nil) .nil) (.node (ho105 P) .nil .nil)) (.node (ho57 P) (.node (ho89 P) .nil .nil) (.node (ho121 P) .nil .nil)))) (.node (ho13 P) (.node (ho21 P) (.node (ho37 P) (.node (ho69 P) (.node (ho133 P) .nil .nil) .nil) (.node (ho101 P) .nil .nil)) (.node (ho53 P) (.node (ho85 P) (.node (ho149 P) .nil .nil) .nil) (.node (ho117 P) .nil .nil))) (.node (ho29 P) (.node (ho45 P) (.node (ho77 P) (.node (ho141 P) .nil .nil) .nil) (.node (ho109 P) .nil .nil)) (.node (ho61x3 P) (.node (ho93 P) .nil .nil) (.node (ho125 P) .nil .nil)))))) (.node (boot_o_2 P) (.node (boot_o_4 P) (.node (boot_o_8 P) (.node (ho16 P) (.node (ho32 P) (.node (ho64 P) (.node (ho128 P) .nil .nil) .nil) (.node (ho96 P) .nil .nil)) (.node (ho48 P) (.node (ho80 P) (.node (ho144 P) .nil .nil) .nil) (.node (ho112 P) .nil .nil))) (.node (ho24 P) (.node (ho40 P) (.node (ho72 P) (.node (ho136 P) .nil .nil) .nil) (.node (ho104 P) .nil .nil)) (.node (ho56 P) (.node (ho88 P) (.node (ho152 P) .nil .nil) .nil) (.node (ho120 P) .nil .nil)))) (.node (ho12x4 P) (.node (ho20 P) (.node (ho36 P) (.node (ho68 P) (.node (ho132 P) .nil .nil) .nil) (.node (ho100 P) .nil .nil)) (.node (ho52 P) (.node (ho84 P) (.node (ho148 P) .nil .nil) .nil) (.node (ho116 P) .nil .nil))) (.node (ho28 P) (.node (ho44 P) (.node (ho76 P) (.node (ho140 P) .nil .nil) .nil) (.node (ho108 P) .nil .nil)) (.node (ho60 P) (.node (ho92 P) .nil .nil) (.node (ho124 P) .nil .nil))))) (.node (boot_o_6 P) (.node (boot_o_10 P) (.node (ho18 P) (.node (ho34 P) (.node (ho66 P) (.node (ho130 P) .nil .nil) .nil) (.node (ho98 P) .nil .nil)) (.node (ho50 P) (.node (ho82 P) (.node (ho146 P) .nil .nil) .nil) (.node (ho114 P) .nil .nil))) (.node (ho26 P) (.node (ho42 P) (.node (ho74 P) (.node (ho138 P) .nil .nil) .nil) (.node (ho106 P) .nil .nil)) (.node (ho58 P) (.node (ho90 P) .nil .nil) (.node (ho122 P) .nil .nil)))) (.node (ho14 P) (.node (ho22 P) (.node (ho38 P) (.node (ho70 P) (.node (ho134 P) .nil .nil) .nil) (.node (ho102 P) .nil .nil)) (.node (ho54 P) (.node (ho86 P) (.node (ho150 P) .nil .nil) .nil) (.node (ho118 P) .nil .nil))) (.node (ho30 P) (.node (ho46 P) (.node (ho78 P) (.node (ho142 P) .nil .nil) .nil) (.node (ho110 P) .nil .nil)) (.node (ho62 P) (.node (ho94 P) .nil .nil) (.node (ho126 P) .nil .nil)))))))
noncomputable abbrev st4 (w : World) (os : OsState) : SharedT := ⟨tr4 w.params, 153, (boot_heap w.params).life, Array.mk [], boot_drawn, 397, os⟩
noncomputable abbrev ps4 : Pos := ⟨173, 0, 173, 8⟩
noncomputable abbrev ho3x5 (P : Params) : Obj := ⟨(.type "dict"), none, (.dict ⟨[⟨PyData.keyHash P (.ofString "__name__"), (.str (.ofString "__name__") 165), (.str (.ofString "cpy313.stat") 374)⟩, ⟨PyData.keyHash P (.ofString "__doc__"), (.str (.ofString "__doc__") 166), .none⟩, ⟨PyData.keyHash P (.ofString "__package__"), (.str (.ofString "__package__") 167), .none⟩, ⟨PyData.keyHash P (.ofString "__loader__"), (.str (.ofString "__loader__") 168), (.builtin "__main__.__loader__#opaque")⟩, ⟨PyData.keyHash P (.ofString "__spec__"), (.str (.ofString "__spec__") 169), .none⟩, ⟨PyData.keyHash P (.ofString "__annotations__"), (.str (.ofString "__annotations__") 170), (.ref 6)⟩, ⟨PyData.keyHash P (.ofString "__builtins__"), (.str (.ofString "__builtins__") 171), (.ref 4)⟩, ⟨PyData.keyHash P (.ofString "__file__"), (.str (.ofString "__file__") 173), (.str (.ofString "/claim/cut.py") 172)⟩, ⟨PyData.keyHash P (.ofString "__cached__"), (.str (.ofString "__cached__") 174), .none⟩, ⟨PyData.keyHash P (.ofString "_wall"), (.str (.ofString "_wall") 193), (.ref 21)⟩, ⟨PyData.keyHash P (.ofString "cmp_to_key"), (.str (.ofString "cmp_to_key") 204), (.ref 28)⟩, ⟨PyData.keyHash P (.ofString "_initial_missing"), (.str (.ofString "_initial_missing") 205), (.ref 29)⟩, ⟨PyData.keyHash P (.ofString "reduce"), (.str (.ofString "reduce") 217), (.ref 37)⟩, ⟨PyData.keyHash P (.ofString "_plain_name"), (.str (.ofString "_plain_name") 228), (.ref 44)⟩, ⟨PyData.keyHash P (.ofString "ABCMeta"), (.str (.ofString "ABCMeta") 254), (.ref 61)⟩, ⟨PyData.keyHash P (.ofString "_ABCLike"), (.str (.ofString "_ABCLike") 297), (.ref 94)⟩, ⟨PyData.keyHash P (.ofString "_abc_plain_meta"), (.str (.ofString "_abc_plain_meta") 304), (.ref 103)⟩, ⟨PyData.keyHash P (.ofString "fspath"), (.str (.ofString "fspath") 316), (.ref 110)⟩, ⟨PyData.keyHash P (.ofString "_check_arg_types"), (.str (.ofString "_check_arg_types") 329), (.ref 117)⟩, ⟨PyData.keyHash P (.ofString "_get_sep"), (.str (.ofString "_get_sep") 338), (.ref 124)⟩, ⟨PyData.keyHash P (.ofString "join"), (.str (.ofString "join") 349), (.ref 131)⟩, ⟨PyData.keyHash P (.ofString "splitroot"), (.str (.ofString "splitroot") 358), (.ref 138)⟩, ⟨PyData.keyHash P (.ofString "normpath"), (.str (.ofString "normpath") 373), (.ref 145)⟩, ⟨PyData.keyHash P (.ofString "S_IFMT"), (.str (.ofString "S_IFMT") 382), (.ref 152)⟩, ⟨PyData.keyHash P (.ofString "S_IFDIR"), (.str (.ofString "S_IFDIR") 384), (.int 16384 383)⟩, ⟨PyData.keyHash P (.ofString "S_IFCHR"), (.str (.ofString "S_IFCHR") 386), (.int 8192 385)⟩, ⟨PyData.keyHash P (.ofString "S_IFBLK"), (.str (.ofString "S_IFBLK") 388), (.int 24576 387)⟩, ⟨PyData.keyHash P (.ofString "S_IFREG"), (.str (.ofString "S_IFREG") 390), (.int 32768 389)⟩, ⟨PyData.keyHash P (.ofString "S_IFIFO"), (.str (.ofString "S_IFIFO") 392), (.int 4096 391)⟩, ⟨PyData.keyHash P (.ofString "S_IFLNK"), (.str (.ofString "S_IFLNK") 394), (.int 40960 393)⟩, ⟨PyData.keyHash P (.ofString "S_IFSOCK"), (.str (.ofString "S_IFSOCK") 396), (.int 49152 395)⟩, ⟨PyData.keyHash P (.ofString "S_ISREG"), (.str (.ofString "S_ISREG") 403), (.ref 159)⟩, ⟨PyData.keyHash P (.ofString "S_ISUID"), (.str (.ofString "S_ISUID") 405), (.int 2048 404)⟩, ⟨PyData.keyHash P (.ofString "S_ISGID"), (.str (.ofString "S_ISGID") 407), (.int 1024 406)⟩, ⟨PyData.keyHash P (.ofString "S_ISVTX"), (.str (.ofString "S_ISVTX") 409), (.int 512 408)⟩, ⟨PyData.keyHash P (.ofString "S_IRUSR"), (.str (.ofString "S_IRUSR") 411), (.int 256 410)⟩, ⟨PyData.keyHash P (.ofString "S_IWUSR"), (.str (.ofString "S_IWUSR") 413), (.int 128 412)⟩, ⟨PyData.keyHash P (.ofString "S_IXUSR"), (.str (.ofString "S_IXUSR") 415), (.int 64 414)⟩, ⟨PyData.keyHash P (.ofString "S_IRGRP"), (.str (.ofString "S_IRGRP") 417), (.int 32 416)⟩, ⟨PyData.keyHash P (.ofString "S_IWGRP"), (.str (.ofString "S_IWGRP") 419), (.int 16 418)⟩, ⟨PyData.keyHash P (.ofString "S_IXGRP"), (.str (.ofString "S_IXGRP") 421), (.int 8 420)⟩, ⟨PyData.keyHash P (.ofString "S_IROTH"), (.str (.ofString "S_IROTH") 423), (.int 4 422)⟩, ⟨PyData.keyHash P (.ofString "S_IWOTH"), (.str (.ofString "S_IWOTH") 425), (.int 2 424)⟩, ⟨PyData.keyHash P (.ofString "S_IXOTH"), (.str (.ofString "S_IXOTH") 427), (.int 1 426)⟩, ⟨PyData.keyHash P (.ofString "_filemode_table"), (.str (.ofString "_filemode_table") 453), (.ref 192)⟩]⟩ 45), ⟨[]⟩⟩
noncomputable abbrev ho12x5 (_ : Params) : Obj := ⟨.none, none, (.fields ⟨[(.int 1 0), (.int 0 0), (.ref 20), (.int 5 0), (.int 0 0), (.ref 27), (.int 31 0), (.int 0 0), (.ref 36), (.int 44 0), (.int 0 0), (.ref 43), (.int 50 0), (.int 0 0), (.ref 50), (.int 55 0), (.int 0 0), (.ref 69), (.int 70 0), (.int 0 0), (.ref 102), (.int 74 0), (.int 0 0), (.ref 109), (.int 91 0), (.int 0 0), (.ref 116), (.int 103 0), (.int 0 0), (.ref 123), (.int 108 0), (.int 0 0), (.ref 130), (.int 125 0), (.int 0 0), (.ref 137), (.int 139 0), (.int 0 0), (.ref 144), (.int 165 0), (.int 0 0), (.ref 151), (.int 174 0), (.int 0 0), (.ref 158)]⟩), ⟨[]⟩⟩
noncomputable abbrev ho153 (_ : Params) : Obj := ⟨(.type "tuple"), none, (.seq ⟨[]⟩ 0), ⟨[]⟩⟩
noncomputable abbrev ho154 (_ : Params) : Obj := ⟨.none, none, (.fields ⟨[]⟩), ⟨[]⟩⟩
noncomputable abbrev ho155 (_ : Params) : Obj := ⟨(.type "tuple"), none, (.seq ⟨[(.str (.ofString "mode") 400)]⟩ 0), ⟨[]⟩⟩
noncomputable abbrev ho156 (_ : Params) : Obj := ⟨(.type "tuple"), none, (.seq ⟨[]⟩ 0), ⟨[]⟩⟩
noncomputable abbrev ho157 (_ : Params) : Obj := ⟨.none, none, (.func ⟨(.ofString "S_ISREG"), (.ofString "S_ISREG"), (fnAt mainB 30).1, .stmts (fnAt mainB 30).2.1, (fnAt mainB 30).2.2, 0, [], .none, .none, .none, .none, none, .none, .none, 0⟩), ⟨[]⟩⟩
noncomputable abbrev ho158 (_ : Params) : Obj := ⟨(.type "code"), none, (.fields ⟨[(.str (.ofString "S_ISREG") 397), (.str (.ofString "S_ISREG") 398), (.str (.ofString "/claim/cut.py") 399), (.int 174 0), (.int 1 0), (.int 0 0), (.int 0 0), (.int 3 0), (.ref 153), (.bool true), (.int 181 0), (.ref 154), .none, (.ref 155), (.ref 156), (.ref 157), (.int 401 0), (.int 174 0), (.str (.ofString "/claim/cut.py") 402)]⟩), ⟨[]⟩⟩
noncomputable abbrev ho159 (_ : Params) : Obj := ⟨(.type "function"), none, (.func ⟨(.ofString "S_ISREG"), (.ofString "S_ISREG"), (fnAt mainB 30).1, .stmts (fnAt mainB 30).2.1, (fnAt mainB 30).2.2, 3, [], .none, .none, .none, (.str (.ofString "cpy313.stat") 374), none, (.ref 158), .none, 0⟩), ⟨[]⟩⟩
noncomputable abbrev ho160 (_ : Params) : Obj := ⟨(.type "tuple"), none, (.seq ⟨[(.int 40960 393), (.str (.ofString "l") 428)]⟩ 0), ⟨[]⟩⟩
noncomputable abbrev ho161 (_ : Params) : Obj := ⟨(.type "tuple"), none, (.seq ⟨[(.int 49152 395), (.str (.ofString "s") 429)]⟩ 0), ⟨[]⟩⟩
noncomputable abbrev ho162 (_ : Params) : Obj := ⟨(.type "tuple"), none, (.seq ⟨[(.int 32768 389), (.str (.ofString "-") 430)]⟩ 0), ⟨[]⟩⟩
noncomputable abbrev ho163 (_ : Params) : Obj := ⟨(.type "tuple"), none, (.seq ⟨[(.int 24576 387), (.str (.ofString "b") 431)]⟩ 0), ⟨[]⟩⟩
noncomputable abbrev ho164 (_ : Params) : Obj := ⟨(.type "tuple"), none, (.seq ⟨[(.int 16384 383), (.str (.ofString "d") 432)]⟩ 0), ⟨[]⟩⟩
noncomputable abbrev ho165 (_ : Params) : Obj := ⟨(.type "tuple"), none, (.seq ⟨[(.int 8192 385), (.str (.ofString "c") 433)]⟩ 0), ⟨[]⟩⟩
noncomputable abbrev ho166 (_ : Params) : Obj := ⟨(.type "tuple"), none, (.seq ⟨[(.int 4096 391), (.str (.ofString "p") 434)]⟩ 0), ⟨[]⟩⟩
noncomputable abbrev ho167 (_ : Params) : Obj := ⟨(.type "tuple"), none, (.seq ⟨[(.ref 160), (.ref 161), (.ref 162), (.ref 163), (.ref 164), (.ref 165), (.ref 166)]⟩ 0), ⟨[]⟩⟩
noncomputable abbrev ho168 (_ : Params) : Obj := ⟨(.type "tuple"), none, (.seq ⟨[(.int 256 410), (.str (.ofString "r") 435)]⟩ 0), ⟨[]⟩⟩
noncomputable abbrev ho169 (_ : Params) : Obj := ⟨(.type "tuple"), none, (.seq ⟨[(.ref 168)]⟩ 0), ⟨[]⟩⟩
noncomputable abbrev ho170 (_ : Params) : Obj := ⟨(.type "tuple"), none, (.seq ⟨[(.int 128 412), (.str (.ofString "w") 436)]⟩ 0), ⟨[]⟩⟩
noncomputable abbrev ho171 (_ : Params) : Obj := ⟨(.type "tuple"), none, (.seq ⟨[(.ref 170)]⟩ 0), ⟨[]⟩⟩
noncomputable abbrev ho172 (_ : Params) : Obj := ⟨(.type "tuple"), none, (.seq ⟨[(.int 2112 437), (.str (.ofString "s") 438)]⟩ 0), ⟨[]⟩⟩
noncomputable abbrev ho173 (_ : Params) : Obj := ⟨(.type "tuple"), none, (.seq ⟨[(.int 2048 404), (.str (.ofString "S") 439)]⟩ 0), ⟨[]⟩⟩
noncomputable abbrev ho174 (_ : Params) : Obj := ⟨(.type "tuple"), none, (.seq ⟨[(.int 64 414), (.str (.ofString "x") 440)]⟩ 0), ⟨[]⟩⟩
noncomputable abbrev ho175 (_ : Params) : Obj := ⟨(.type "tuple"), none, (.seq ⟨[(.ref 172), (.ref 173), (.ref 174)]⟩ 0), ⟨[]⟩⟩
noncomputable abbrev ho176 (_ : Params) : Obj := ⟨(.type "tuple"), none, (.seq ⟨[(.int 32 416), (.str (.ofString "r") 441)]⟩ 0), ⟨[]⟩⟩
noncomputable abbrev ho177 (_ : Params) : Obj := ⟨(.type "tuple"), none, (.seq ⟨[(.ref 176)]⟩ 0), ⟨[]⟩⟩
noncomputable abbrev ho178 (_ : Params) : Obj := ⟨(.type "tuple"), none, (.seq ⟨[(.int 16 418), (.str (.ofString "w") 442)]⟩ 0), ⟨[]⟩⟩
noncomputable abbrev ho179 (_ : Params) : Obj := ⟨(.type "tuple"), none, (.seq ⟨[(.ref 178)]⟩ 0), ⟨[]⟩⟩
noncomputable abbrev ho180 (_ : Params) : Obj := ⟨(.type "tuple"), none, (.seq ⟨[(.int 1032 443), (.str (.ofString "s") 444)]⟩ 0), ⟨[]⟩⟩
noncomputable abbrev ho181 (_ : Params) : Obj := ⟨(.type "tuple"), none, (.seq ⟨[(.int 1024 406), (.str (.ofString "S") 445)]⟩ 0), ⟨[]⟩⟩
noncomputable abbrev ho182 (_ : Params) : Obj := ⟨(.type "tuple"), none, (.seq ⟨[(.int 8 420), (.str (.ofString "x") 446)]⟩ 0), ⟨[]⟩⟩
noncomputable abbrev ho183 (_ : Params) : Obj := ⟨(.type "tuple"), none, (.seq ⟨[(.ref 180), (.ref 181), (.ref 182)]⟩ 0), ⟨[]⟩⟩
noncomputable abbrev ho184 (_ : Params) : Obj := ⟨(.type "tuple"), none, (.seq ⟨[(.int 4 422), (.str (.ofString "r") 447)]⟩ 0), ⟨[]⟩⟩
noncomputable abbrev ho185 (_ : Params) : Obj := ⟨(.type "tuple"), none, (.seq ⟨[(.ref 184)]⟩ 0), ⟨[]⟩⟩
noncomputable abbrev ho186 (_ : Params) : Obj := ⟨(.type "tuple"), none, (.seq ⟨[(.int 2 424), (.str (.ofString "w") 448)]⟩ 0), ⟨[]⟩⟩
noncomputable abbrev ho187 (_ : Params) : Obj := ⟨(.type "tuple"), none, (.seq ⟨[(.ref 186)]⟩ 0), ⟨[]⟩⟩
noncomputable abbrev ho188 (_ : Params) : Obj := ⟨(.type "tuple"), none, (.seq ⟨[(.int 513 449), (.str (.ofString "t") 450)]⟩ 0), ⟨[]⟩⟩
noncomputable abbrev ho189 (_ : Params) : Obj := ⟨(.type "tuple"), none, (.seq ⟨[(.int 512 408), (.str (.ofString "T") 451)]⟩ 0), ⟨[]⟩⟩
noncomputable abbrev ho190 (_ : Params) : Obj := ⟨(.type "tuple"), none, (.seq ⟨[(.int 1 426), (.str (.ofString "x") 452)]⟩ 0), ⟨[]⟩⟩
noncomputable abbrev ho191 (_ : Params) : Obj := ⟨(.type "tuple"), none, (.seq ⟨[(.ref 188), (.ref 189), (.ref 190)]⟩ 0), ⟨[]⟩⟩
noncomputable abbrev ho192 (_ : Params) : Obj := ⟨(.type "tuple"), none, (.seq ⟨[(.ref 167), (.ref 169), (.ref 171), (.ref 175), (.ref 177), (.ref 179), (.ref 183), (.ref 185), (.ref 187), (.ref 191)]⟩ 0), ⟨[]⟩⟩
noncomputable abbrev tr5 (P : Params) : BT := (.node (boot_o_0 P) (.node (boot_o_1 P) (.node (ho3x5 P) (.node (boot_o_7 P) (.node (ho15 P) (.node (ho31 P) (.node (ho63 P) (.node (ho127 P) .nil .nil) (.node (ho191 P) .nil .nil)) (.node (ho95 P) (.node (ho159 P) .nil .nil) .nil)) (.node (ho47 P) (.node (ho79 P) (.node (ho143 P) .nil .nil) .nil) (.node (ho111 P) (.node (ho175 P) .nil .nil) .nil))) (.node (ho23 P) (.node (ho39 P) (.node (ho71 P) (.node (ho135 P) .nil .nil) .nil) (.node (ho103 P) (.node (ho167 P) .nil .nil) .nil)) (.node (ho55 P) (.node (ho87 P) (.node (ho151 P) .nil .nil) .nil) (.node (ho119 P) (.node (ho183 P) .nil .nil) .nil)))) (.node (ho11 P) (.node (ho19 P) (.node (ho35 P) (.node (ho67 P) (.node (ho131 P) .nil .nil) .nil) (.node (ho99 P) (.node (ho163 P) .nil .nil) .nil)) (.node (ho51 P) (.node (ho83 P) (.node (ho147 P) .nil .nil) .nil) (.node (ho115 P) (.node (ho179 P) .nil .nil) .nil))) (.node (ho27 P) (.node (ho43 P) (.node (ho75 P) (.node (ho139 P) .nil .nil) .nil) (.node (ho107 P) (.node (ho171 P) .nil .nil) .nil)) (.node (ho59 P) (.node (ho91 P) (.node (ho155 P) .nil .nil) .nil) (.node (ho123 P) (.node (ho187 P) .nil .nil) .nil))))) (.node (boot_o_5 P) (.node (boot_o_9 P) (.node (ho17 P) (.node (ho33 P) (.node (ho65 P) (.node (ho129 P) .nil .nil) .nil) (.node (ho97 P) (.node (ho161 P) .nil .nil) .nil)) (.node (ho49 P) (.node (ho81 P) (.node (ho145 P) .nil .nil) .nil) (.node (ho113 P) (.node (ho177 P) .nil .nil) .nil))) (.node (ho25 P) (.node (ho41 P) (.node (ho73 P) (.node (ho137 P) .nil .nil) .nil) (.node (ho105 P) (.node (ho169 P) .nil .nil) .nil)) (.node (ho57 P) (.node (ho89 P) (.node (ho153 P) .nil .nil) .nil) (.node (ho121 P) (.node (ho185 P) .nil .nil) .nil)))) (.node (ho13 P) (.node (ho21 P) (.node (ho37 P) (.node (ho69 P) (.node (ho133 P) .nil .nil) .nil) (.node (ho101 P) (.node (ho165 P) .nil .nil) .nil)) (.node (ho53 P) (.node (ho85 P) (.node (ho149 P) .nil .nil) .nil) (.node (ho117 P) (.node (ho181 P) .nil .nil) .nil))) (.node (ho29 P) (.node (ho45 P) (.node (ho77 P) (.node (ho141 P) .nil .nil) .nil) (.node (ho109 P) (.node (ho173 P) .nil .nil) .nil)) (.node (ho61x3 P) (.node (ho93 P) (.node (ho157 P) .nil .nil) .nil) (.node (ho125 P) (.node (ho189 P) .nil .nil) .nil)))))) (.node (boot_o_2 P) (.node (boot_o_4 P) (.node (boot_o_8 P) (.node (ho16 P) (.node (ho32 P) (.node (ho64 P) (.node (ho128 P) .nil .nil) (.node (ho192 P) .nil .nil)) (.node (ho96 P) (.node (ho160 P) .nil .nil) .nil)) (.node (ho48 P) (.node (ho80 P) (.node (ho144 P) .nil .nil) .nil) (.node (ho112 P) (.node (ho176 P) .nil .nil) .nil))) (.node (ho24 P) (.node (ho40 P) (.node (ho72 P) (.node (ho136 P) .nil .nil) .nil) (.node (ho104 P) (.node (ho168 P) .nil .nil) .nil)) (.node (ho56 P) (.node (ho88 P) (.node (ho152 P) .nil .nil) .nil) (.node (ho120 P) (.node (ho184 P) .nil .nil) .nil)))) (.node (ho12x5 P) (.node (ho20 P) (.node (ho36 P) (.node (ho68 P) (.node (ho132 P) .nil .nil) .nil) (.node (ho100 P) (.node (ho164 P) .nil .nil) .nil)) (.node (ho52 P) (.node (ho84 P) (.node (ho148 P) .nil .nil) .nil) (.node (ho116 P) (.node (ho180 P) .nil .nil) .nil))) (.node (ho28 P) (.node (ho44 P) (.node (ho76 P) (.node (ho140 P) .nil .nil) .nil) (.node (ho108 P) (.node (ho172 P) .nil .nil) .nil)) (.node (ho60 P) (.node (ho92 P) (.node (ho156 P) .nil .nil) .nil) (.node (ho124 P) (.node (ho188 P) .nil .nil) .nil))))) (.node (boot_o_6 P) (.node (boot_o_10 P) (.node (ho18 P) (.node (ho34 P) (.node (ho66 P) (.node (ho130 P) .nil .nil) .nil) (.node (ho98 P) (.node (ho162 P) .nil .nil) .nil)) (.node (ho50 P) (.node (ho82 P) (.node (ho146 P) .nil .nil) .nil) (.node (ho114 P) (.node (ho178 P) .nil .nil) .nil))) (.node (ho26 P) (.node (ho42 P) (.node (ho74 P) (.node (ho138 P) .nil .nil) .nil) (.node (ho106 P) (.node (ho170 P) .nil .nil) .nil)) (.node (ho58 P) (.node (ho90 P) (.node (ho154 P) .nil .nil) .nil) (.node (ho122 P) (.node (ho186 P) .nil .nil) .nil)))) (.node (ho14 P) (.node (ho22 P) (.node (ho38 P) (.node (ho70 P) (.node (ho134 P) .nil .nil) .nil) (.node (ho102 P) (.node (ho166 P) .nil .nil) .nil)) (.node (ho54 P) (.node (ho86 P) (.node (ho150 P) .nil .nil) .nil) (.node (ho118 P) (.node (ho182 P) .nil .nil) .nil))) (.node (ho30 P) (.node (ho46 P) (.node (ho78 P) (.node (ho142 P) .nil .nil) .nil) (.node (ho110 P) (.node (ho174 P) .nil .nil) .nil)) (.node (ho62 P) (.node (ho94 P) (.node (ho158 P) .nil .nil) .nil) (.node (ho126 P) (.node (ho190 P) .nil .nil) .nil)))))))
noncomputable abbrev st5 (w : World) (os : OsState) : SharedT := ⟨tr5 w.params, 193, (boot_heap w.params).life, Array.mk [], boot_drawn, 454, os⟩
noncomputable abbrev ps5 : Pos := ⟨188, 0, 188, 15⟩
noncomputable abbrev ho3x6 (P : Params) : Obj := ⟨(.type "dict"), none, (.dict ⟨[⟨PyData.keyHash P (.ofString "__name__"), (.str (.ofString "__name__") 165), (.str (.ofString "law_pd0110_01") 466)⟩, ⟨PyData.keyHash P (.ofString "__doc__"), (.str (.ofString "__doc__") 166), .none⟩, ⟨PyData.keyHash P (.ofString "__package__"), (.str (.ofString "__package__") 167), .none⟩, ⟨PyData.keyHash P (.ofString "__loader__"), (.str (.ofString "__loader__") 168), (.builtin "__main__.__loader__#opaque")⟩, ⟨PyData.keyHash P (.ofString "__spec__"), (.str (.ofString "__spec__") 169), .none⟩, ⟨PyData.keyHash P (.ofString "__annotations__"), (.str (.ofString "__annotations__") 170), (.ref 6)⟩, ⟨PyData.keyHash P (.ofString "__builtins__"), (.str (.ofString "__builtins__") 171), (.ref 4)⟩, ⟨PyData.keyHash P (.ofString "__file__"), (.str (.ofString "__file__") 173), (.str (.ofString "/claim/cut.py") 172)⟩, ⟨PyData.keyHash P (.ofString "__cached__"), (.str (.ofString "__cached__") 174), .none⟩, ⟨PyData.keyHash P (.ofString "_wall"), (.str (.ofString "_wall") 193), (.ref 21)⟩, ⟨PyData.keyHash P (.ofString "cmp_to_key"), (.str (.ofString "cmp_to_key") 204), (.ref 28)⟩, ⟨PyData.keyHash P (.ofString "_initial_missing"), (.str (.ofString "_initial_missing") 205), (.ref 29)⟩, ⟨PyData.keyHash P (.ofString "reduce"), (.str (.ofString "reduce") 217), (.ref 37)⟩, ⟨PyData.keyHash P (.ofString "_plain_name"), (.str (.ofString "_plain_name") 228), (.ref 44)⟩, ⟨PyData.keyHash P (.ofString "ABCMeta"), (.str (.ofString "ABCMeta") 254), (.ref 61)⟩, ⟨PyData.keyHash P (.ofString "_ABCLike"), (.str (.ofString "_ABCLike") 297), (.ref 94)⟩, ⟨PyData.keyHash P (.ofString "_abc_plain_meta"), (.str (.ofString "_abc_plain_meta") 304), (.ref 103)⟩, ⟨PyData.keyHash P (.ofString "fspath"), (.str (.ofString "fspath") 316), (.ref 110)⟩, ⟨PyData.keyHash P (.ofString "_check_arg_types"), (.str (.ofString "_check_arg_types") 329), (.ref 117)⟩, ⟨PyData.keyHash P (.ofString "_get_sep"), (.str (.ofString "_get_sep") 338), (.ref 124)⟩, ⟨PyData.keyHash P (.ofString "join"), (.str (.ofString "join") 349), (.ref 131)⟩, ⟨PyData.keyHash P (.ofString "splitroot"), (.str (.ofString "splitroot") 358), (.ref 138)⟩, ⟨PyData.keyHash P (.ofString "normpath"), (.str (.ofString "normpath") 373), (.ref 145)⟩, ⟨PyData.keyHash P (.ofString "S_IFMT"), (.str (.ofString "S_IFMT") 382), (.ref 152)⟩, ⟨PyData.keyHash P (.ofString "S_IFDIR"), (.str (.ofString "S_IFDIR") 384), (.int 16384 383)⟩, ⟨PyData.keyHash P (.ofString "S_IFCHR"), (.str (.ofString "S_IFCHR") 386), (.int 8192 385)⟩, ⟨PyData.keyHash P (.ofString "S_IFBLK"), (.str (.ofString "S_IFBLK") 388), (.int 24576 387)⟩, ⟨PyData.keyHash P (.ofString "S_IFREG"), (.str (.ofString "S_IFREG") 390), (.int 32768 389)⟩, ⟨PyData.keyHash P (.ofString "S_IFIFO"), (.str (.ofString "S_IFIFO") 392), (.int 4096 391)⟩, ⟨PyData.keyHash P (.ofString "S_IFLNK"), (.str (.ofString "S_IFLNK") 394), (.int 40960 393)⟩, ⟨PyData.keyHash P (.ofString "S_IFSOCK"), (.str (.ofString "S_IFSOCK") 396), (.int 49152 395)⟩, ⟨PyData.keyHash P (.ofString "S_ISREG"), (.str (.ofString "S_ISREG") 403), (.ref 159)⟩, ⟨PyData.keyHash P (.ofString "S_ISUID"), (.str (.ofString "S_ISUID") 405), (.int 2048 404)⟩, ⟨PyData.keyHash P (.ofString "S_ISGID"), (.str (.ofString "S_ISGID") 407), (.int 1024 406)⟩, ⟨PyData.keyHash P (.ofString "S_ISVTX"), (.str (.ofString "S_ISVTX") 409), (.int 512 408)⟩, ⟨PyData.keyHash P (.ofString "S_IRUSR"), (.str (.ofString "S_IRUSR") 411), (.int 256 410)⟩, ⟨PyData.keyHash P (.ofString "S_IWUSR"), (.str (.ofString "S_IWUSR") 413), (.int 128 412)⟩, ⟨PyData.keyHash P (.ofString "S_IXUSR"), (.str (.ofString "S_IXUSR") 415), (.int 64 414)⟩, ⟨PyData.keyHash P (.ofString "S_IRGRP"), (.str (.ofString "S_IRGRP") 417), (.int 32 416)⟩, ⟨PyData.keyHash P (.ofString "S_IWGRP"), (.str (.ofString "S_IWGRP") 419), (.int 16 418)⟩, ⟨PyData.keyHash P (.ofString "S_IXGRP"), (.str (.ofString "S_IXGRP") 421), (.int 8 420)⟩, ⟨PyData.keyHash P (.ofString "S_IROTH"), (.str (.ofString "S_IROTH") 423), (.int 4 422)⟩, ⟨PyData.keyHash P (.ofString "S_IWOTH"), (.str (.ofString "S_IWOTH") 425), (.int 2 424)⟩, ⟨PyData.keyHash P (.ofString "S_IXOTH"), (.str (.ofString "S_IXOTH") 427), (.int 1 426)⟩, ⟨PyData.keyHash P (.ofString "_filemode_table"), (.str (.ofString "_filemode_table") 453), (.ref 192)⟩, ⟨PyData.keyHash P (.ofString "filemode"), (.str (.ofString "filemode") 465), (.ref 199)⟩, ⟨PyData.keyHash P (.ofString "_law_files"), (.str (.ofString "_law_files") 478), (.ref 206)⟩, ⟨PyData.keyHash P (.ofString "_law_searched"), (.str (.ofString "_law_searched") 486), (.ref 213)⟩, ⟨PyData.keyHash P (.ofString "_law_told"), (.str (.ofString "_law_told") 498), (.ref 220)⟩, ⟨PyData.keyHash P (.ofString "_law_due"), (.str (.ofString "_law_due") 504), (.ref 225)⟩, ⟨PyData.keyHash P (.ofString "law"), (.str (.ofString "law") 510), (.ref 230)⟩]⟩ 51), ⟨[]⟩⟩
noncomputable abbrev ho12x6 (_ : Params) : Obj := ⟨.none, none, (.fields ⟨[(.int 1 0), (.int 0 0), (.ref 20), (.int 5 0), (.int 0 0), (.ref 27), (.int 31 0), (.int 0 0), (.ref 36), (.int 44 0), (.int 0 0), (.ref 43), (.int 50 0), (.int 0 0), (.ref 50), (.int 55 0), (.int 0 0), (.ref 69), (.int 70 0), (.int 0 0), (.ref 102), (.int 74 0), (.int 0 0), (.ref 109), (.int 91 0), (.int 0 0), (.ref 116), (.int 103 0), (.int 0 0), (.ref 123), (.int 108 0), (.int 0 0), (.ref 130), (.int 125 0), (.int 0 0), (.ref 137), (.int 139 0), (.int 0 0), (.ref 144), (.int 165 0), (.int 0 0), (.ref 151), (.int 174 0), (.int 0 0), (.ref 158), (.int 189 0), (.int 0 0), (.ref 198), (.int 207 0), (.int 0 0), (.ref 205), (.int 214 0), (.int 0 0), (.ref 212), (.int 217 0), (.int 0 0), (.ref 219), (.int 224 0), (.int 0 0), (.ref 224), (.int 231 0), (.int 0 0), (.ref 229)]⟩), ⟨[]⟩⟩
noncomputable abbrev ho193 (_ : Params) : Obj := ⟨(.type "tuple"), none, (.seq ⟨[]⟩ 0), ⟨[]⟩⟩
noncomputable abbrev ho194 (_ : Params) : Obj := ⟨.none, none, (.fields ⟨[]⟩), ⟨[]⟩⟩
noncomputable abbrev ho195 (_ : Params) : Obj := ⟨(.type "tuple"), none, (.seq ⟨[(.str (.ofString "mode") 457), (.str (.ofString "perm") 458), (.str (.ofString "index") 459), (.str (.ofString "table") 460), (.str (.ofString "bit") 461), (.str (.ofString "char") 462)]⟩ 0), ⟨[]⟩⟩
noncomputable abbrev ho196 (_ : Params) : Obj := ⟨(.type "tuple"), none, (.seq ⟨[]⟩ 0), ⟨[]⟩⟩
noncomputable abbrev ho197 (_ : Params) : Obj := ⟨.none, none, (.func ⟨(.ofString "filemode"), (.ofString "filemode"), (fnAt mainB 44).1, .stmts (fnAt mainB 44).2.1, (fnAt mainB 44).2.2, 0, [], .none, .none, .none, .none, none, .none, .none, 0⟩), ⟨[]⟩⟩
noncomputable abbrev ho198 (_ : Params) : Obj := ⟨(.type "code"), none, (.fields ⟨[(.str (.ofString "filemode") 454), (.str (.ofString "filemode") 455), (.str (.ofString "/claim/cut.py") 456), (.int 189 0), (.int 1 0), (.int 0 0), (.int 0 0), (.int 3 0), (.ref 193), (.bool true), (.int 181 0), (.ref 194), .none, (.ref 195), (.ref 196), (.ref 197), (.int 463 0), (.int 189 0), (.str (.ofString "/claim/cut.py") 464)]⟩), ⟨[]⟩⟩
noncomputable abbrev ho199 (_ : Params) : Obj := ⟨(.type "function"), none, (.func ⟨(.ofString "filemode"), (.ofString "filemode"), (fnAt mainB 44).1, .stmts (fnAt mainB 44).2.1, (fnAt mainB 44).2.2, 3, [], .none, .none, .none, (.str (.ofString "cpy313.stat") 374), none, (.ref 198), .none, 0⟩), ⟨[]⟩⟩
noncomputable abbrev ho200 (_ : Params) : Obj := ⟨(.type "tuple"), none, (.seq ⟨[]⟩ 0), ⟨[]⟩⟩
noncomputable abbrev ho201 (_ : Params) : Obj := ⟨.none, none, (.fields ⟨[]⟩), ⟨[]⟩⟩
noncomputable abbrev ho202 (_ : Params) : Obj := ⟨(.type "tuple"), none, (.seq ⟨[(.str (.ofString "script") 471), (.str (.ofString "paths") 472), (.str (.ofString "files") 473), (.str (.ofString "k") 474), (.str (.ofString "v") 475)]⟩ 0), ⟨[]⟩⟩
noncomputable abbrev ho203 (_ : Params) : Obj := ⟨(.type "tuple"), none, (.seq ⟨[]⟩ 0), ⟨[]⟩⟩
noncomputable abbrev ho204 (_ : Params) : Obj := ⟨.none, none, (.func ⟨(.ofString "_law_files"), (.ofString "_law_files"), (fnAt mainB 46).1, .stmts (fnAt mainB 46).2.1, (fnAt mainB 46).2.2, 0, [], .none, .none, .none, .none, none, .none, .none, 0⟩), ⟨[]⟩⟩
noncomputable abbrev ho205 (_ : Params) : Obj := ⟨(.type "code"), none, (.fields ⟨[(.str (.ofString "_law_files") 468), (.str (.ofString "_law_files") 469), (.str (.ofString "/claim/cut.py") 470), (.int 207 0), (.int 1 0), (.int 0 0), (.int 0 0), (.int 3 0), (.ref 200), (.bool true), (.int 181 0), (.ref 201), .none, (.ref 202), (.ref 203), (.ref 204), (.int 476 0), (.int 207 0), (.str (.ofString "/claim/cut.py") 477)]⟩), ⟨[]⟩⟩
noncomputable abbrev ho206 (_ : Params) : Obj := ⟨(.type "function"), none, (.func ⟨(.ofString "_law_files"), (.ofString "_law_files"), (fnAt mainB 46).1, .stmts (fnAt mainB 46).2.1, (fnAt mainB 46).2.2, 3, [], .none, .none, .none, (.str (.ofString "law_pd0110_01") 466), none, (.ref 205), .none, 0⟩), ⟨[]⟩⟩
noncomputable abbrev ho207 (_ : Params) : Obj := ⟨(.type "tuple"), none, (.seq ⟨[]⟩ 0), ⟨[]⟩⟩
noncomputable abbrev ho208 (_ : Params) : Obj := ⟨.none, none, (.fields ⟨[]⟩), ⟨[]⟩⟩
noncomputable abbrev ho209 (_ : Params) : Obj := ⟨(.type "tuple"), none, (.seq ⟨[(.str (.ofString "n") 482), (.str (.ofString "folder") 483)]⟩ 0), ⟨[]⟩⟩
noncomputable abbrev ho210 (_ : Params) : Obj := ⟨(.type "tuple"), none, (.seq ⟨[]⟩ 0), ⟨[]⟩⟩
noncomputable abbrev ho211 (_ : Params) : Obj := ⟨.none, none, (.func ⟨(.ofString "_law_searched"), (.ofString "_law_searched"), (fnAt mainB 47).1, .stmts (fnAt mainB 47).2.1, (fnAt mainB 47).2.2, 0, [], .none, .none, .none, .none, none, .none, .none, 0⟩), ⟨[]⟩⟩
noncomputable abbrev ho212 (_ : Params) : Obj := ⟨(.type "code"), none, (.fields ⟨[(.str (.ofString "_law_searched") 479), (.str (.ofString "_law_searched") 480), (.str (.ofString "/claim/cut.py") 481), (.int 214 0), (.int 1 0), (.int 0 0), (.int 0 0), (.int 3 0), (.ref 207), (.bool true), (.int 181 0), (.ref 208), .none, (.ref 209), (.ref 210), (.ref 211), (.int 484 0), (.int 214 0), (.str (.ofString "/claim/cut.py") 485)]⟩), ⟨[]⟩⟩
noncomputable abbrev ho213 (_ : Params) : Obj := ⟨(.type "function"), none, (.func ⟨(.ofString "_law_searched"), (.ofString "_law_searched"), (fnAt mainB 47).1, .stmts (fnAt mainB 47).2.1, (fnAt mainB 47).2.2, 3, [], .none, .none, .none, (.str (.ofString "law_pd0110_01") 466), none, (.ref 212), .none, 0⟩), ⟨[]⟩⟩
noncomputable abbrev ho214 (_ : Params) : Obj := ⟨(.type "tuple"), none, (.seq ⟨[]⟩ 0), ⟨[]⟩⟩
noncomputable abbrev ho215 (_ : Params) : Obj := ⟨.none, none, (.fields ⟨[]⟩), ⟨[]⟩⟩
noncomputable abbrev ho216 (_ : Params) : Obj := ⟨(.type "tuple"), none, (.seq ⟨[(.str (.ofString "files") 490), (.str (.ofString "searched") 491), (.str (.ofString "name") 492), (.str (.ofString "step") 493)]⟩ 0), ⟨[]⟩⟩
noncomputable abbrev ho217 (_ : Params) : Obj := ⟨(.type "tuple"), none, (.seq ⟨[(.str (.ofString "files") 494), (.str (.ofString "name") 495)]⟩ 0), ⟨[]⟩⟩
noncomputable abbrev ho218 (_ : Params) : Obj := ⟨.none, none, (.func ⟨(.ofString "_law_told"), (.ofString "_law_told"), (fnAt mainB 48).1, .stmts (fnAt mainB 48).2.1, (fnAt mainB 48).2.2, 0, [], .none, .none, .none, .none, none, .none, .none, 0⟩), ⟨[]⟩⟩
noncomputable abbrev ho219 (_ : Params) : Obj := ⟨(.type "code"), none, (.fields ⟨[(.str (.ofString "_law_told") 487), (.str (.ofString "_law_told") 488), (.str (.ofString "/claim/cut.py") 489), (.int 217 0), (.int 3 0), (.int 0 0), (.int 0 0), (.int 3 0), (.ref 214), (.bool true), (.int 181 0), (.ref 215), .none, (.ref 216), (.ref 217), (.ref 218), (.int 496 0), (.int 217 0), (.str (.ofString "/claim/cut.py") 497)]⟩), ⟨[]⟩⟩
noncomputable abbrev ho220 (_ : Params) : Obj := ⟨(.type "function"), none, (.func ⟨(.ofString "_law_told"), (.ofString "_law_told"), (fnAt mainB 48).1, .stmts (fnAt mainB 48).2.1, (fnAt mainB 48).2.2, 3, [], .none, .none, .none, (.str (.ofString "law_pd0110_01") 466), none, (.ref 219), .none, 0⟩), ⟨[]⟩⟩
noncomputable abbrev ho221 (_ : Params) : Obj := ⟨(.type "tuple"), none, (.seq ⟨[]⟩ 0), ⟨[]⟩⟩
noncomputable abbrev ho222 (_ : Params) : Obj := ⟨.none, none, (.fields ⟨[]⟩), ⟨[]⟩⟩
noncomputable abbrev ho223 (_ : Params) : Obj := ⟨.none, none, (.func ⟨(.ofString "_law_due"), (.ofString "_law_due"), (fnAt mainB 49).1, .stmts (fnAt mainB 49).2.1, (fnAt mainB 49).2.2, 0, [], .none, .none, .none, .none, none, .none, .none, 0⟩), ⟨[]⟩⟩
noncomputable abbrev ho224 (_ : Params) : Obj := ⟨(.type "code"), none, (.fields ⟨[(.str (.ofString "_law_due") 499), (.str (.ofString "_law_due") 500), (.str (.ofString "/claim/cut.py") 501), (.int 224 0), (.int 3 0), (.int 0 0), (.int 0 0), (.int 3 0), (.ref 221), (.bool true), (.int 181 0), (.ref 222), .none, .none, .none, (.ref 223), (.int 502 0), (.int 224 0), (.str (.ofString "/claim/cut.py") 503)]⟩), ⟨[]⟩⟩
noncomputable abbrev ho225 (_ : Params) : Obj := ⟨(.type "function"), none, (.func ⟨(.ofString "_law_due"), (.ofString "_law_due"), (fnAt mainB 49).1, .stmts (fnAt mainB 49).2.1, (fnAt mainB 49).2.2, 3, [], .none, .none, .none, (.str (.ofString "law_pd0110_01") 466), none, (.ref 224), .none, 0⟩), ⟨[]⟩⟩
noncomputable abbrev ho226 (_ : Params) : Obj := ⟨(.type "tuple"), none, (.seq ⟨[]⟩ 0), ⟨[]⟩⟩
noncomputable abbrev ho227 (_ : Params) : Obj := ⟨.none, none, (.fields ⟨[]⟩), ⟨[]⟩⟩
noncomputable abbrev ho228 (_ : Params) : Obj := ⟨.none, none, (.func ⟨(.ofString "law"), (.ofString "law"), (fnAt mainB 50).1, .stmts (fnAt mainB 50).2.1, (fnAt mainB 50).2.2, 0, [], .none, .none, .none, .none, none, .none, .none, 0⟩), ⟨[]⟩⟩
noncomputable abbrev ho229 (_ : Params) : Obj := ⟨(.type "code"), none, (.fields ⟨[(.str (.ofString "law") 505), (.str (.ofString "law") 506), (.str (.ofString "/claim/cut.py") 507), (.int 231 0), (.int 1 0), (.int 0 0), (.int 0 0), (.int 3 0), (.ref 226), (.bool true), (.int 181 0), (.ref 227), .none, .none, .none, (.ref 228), (.int 508 0), (.int 231 0), (.str (.ofString "/claim/cut.py") 509)]⟩), ⟨[]⟩⟩
noncomputable abbrev ho230 (_ : Params) : Obj := ⟨(.type "function"), none, (.func ⟨(.ofString "law"), (.ofString "law"), (fnAt mainB 50).1, .stmts (fnAt mainB 50).2.1, (fnAt mainB 50).2.2, 3, [], .none, .none, .none, (.str (.ofString "law_pd0110_01") 466), none, (.ref 229), .none, 0⟩), ⟨[]⟩⟩
noncomputable abbrev tr6 (P : Params) : BT := (.node (boot_o_0 P) (.node (boot_o_1 P) (.node (ho3x6 P) (.node (boot_o_7 P) (.node (ho15 P) (.node (ho31 P) (.node (ho63 P) (.node (ho127 P) .nil .nil) (.node (ho191 P) .nil .nil)) (.node (ho95 P) (.node (ho159 P) .nil .nil) (.node (ho223 P) .nil .nil))) (.node (ho47 P) (.node (ho79 P) (.node (ho143 P) .nil .nil) (.node (ho207 P) .nil .nil)) (.node (ho111 P) (.node (ho175 P) .nil .nil) .nil))) (.node (ho23 P) (.node (ho39 P) (.node (ho71 P) (.node (ho135 P) .nil .nil) (.node (ho199 P) .nil .nil)) (.node (ho103 P) (.node (ho167 P) .nil .nil) .nil)) (.node (ho55 P) (.node (ho87 P) (.node (ho151 P) .nil .nil) (.node (ho215 P) .nil .nil)) (.node (ho119 P) (.node (ho183 P) .nil .nil) .nil)))) (.node (ho11 P) (.node (ho19 P) (.node (ho35 P) (.node (ho67 P) (.node (ho131 P) .nil .nil) (.node (ho195 P) .nil .nil)) (.node (ho99 P) (.node (ho163 P) .nil .nil) (.node (ho227 P) .nil .nil))) (.node (ho51 P) (.node (ho83 P) (.node (ho147 P) .nil .nil) (.node (ho211 P) .nil .nil)) (.node (ho115 P) (.node (ho179 P) .nil .nil) .nil))) (.node (ho27 P) (.node (ho43 P) (.node (ho75 P) (.node (ho139 P) .nil .nil) (.node (ho203 P) .nil .nil)) (.node (ho107 P) (.node (ho171 P) .nil .nil) .nil)) (.node (ho59 P) (.node (ho91 P) (.node (ho155 P) .nil .nil) (.node (ho219 P) .nil .nil)) (.node (ho123 P) (.node (ho187 P) .nil .nil) .nil))))) (.node (boot_o_5 P) (.node (boot_o_9 P) (.node (ho17 P) (.node (ho33 P) (.node (ho65 P) (.node (ho129 P) .nil .nil) (.node (ho193 P) .nil .nil)) (.node (ho97 P) (.node (ho161 P) .nil .nil) (.node (ho225 P) .nil .nil))) (.node (ho49 P) (.node (ho81 P) (.node (ho145 P) .nil .nil) (.node (ho209 P) .nil .nil)) (.node (ho113 P) (.node (ho177 P) .nil .nil) .nil))) (.node (ho25 P) (.node (ho41 P) (.node (ho73 P) (.node (ho137 P) .nil .nil) (.node (ho201 P) .nil .nil)) (.node (ho105 P) (.node (ho169 P) .nil .nil) .nil)) (.node (ho57 P) (.node (ho89 P) (.node (ho153 P) .nil .nil) (.node (ho217 P) .nil .nil)) (.node (ho121 P) (.node (ho185 P) .nil .nil) .nil)))) (.node (ho13 P) (.node (ho21 P) (.node (ho37 P) (.node (ho69 P) (.node (ho133 P) .nil .nil) (.node (ho197 P) .nil .nil)) (.node (ho101 P) (.node (ho165 P) .nil .nil) (.node (ho229 P) .nil .nil))) (.node (ho53 P) (.node (ho85 P) (.node (ho149 P) .nil .nil) (.node (ho213 P) .nil .nil)) (.node (ho117 P) (.node (ho181 P) .nil .nil) .nil))) (.node (ho29 P) (.node (ho45 P) (.node (ho77 P) (.node (ho141 P) .nil .nil) (.node (ho205 P) .nil .nil)) (.node (ho109 P) (.node (ho173 P) .nil .nil) .nil)) (.node (ho61x3 P) (.node (ho93 P) (.node (ho157 P) .nil .nil) (.node (ho221 P) .nil .nil)) (.node (ho125 P) (.node (ho189 P) .nil .nil) .nil)))))) (.node (boot_o_2 P) (.node (boot_o_4 P) (.node (boot_o_8 P) (.node (ho16 P) (.node (ho32 P) (.node (ho64 P) (.node (ho128 P) .nil .nil) (.node (ho192 P) .nil .nil)) (.node (ho96 P) (.node (ho160 P) .nil .nil) (.node (ho224 P) .nil .nil))) (.node (ho48 P) (.node (ho80 P) (.node (ho144 P) .nil .nil) (.node (ho208 P) .nil .nil)) (.node (ho112 P) (.node (ho176 P) .nil .nil) .nil))) (.node (ho24 P) (.node (ho40 P) (.node (ho72 P) (.node (ho136 P) .nil .nil) (.node (ho200 P) .nil .nil)) (.node (ho104 P) (.node (ho168 P) .nil .nil) .nil)) (.node (ho56 P) (.node (ho88 P) (.node (ho152 P) .nil .nil) (.node (ho216 P) .nil .nil)) (.node (ho120 P) (.node (ho184 P) .nil .nil) .nil)))) (.node (ho12x6 P) (.node (ho20 P) (.node (ho36 P) (.node (ho68 P) (.node (ho132 P) .nil .nil) (.node (ho196 P) .nil .nil)) (.node (ho100 P) (.node (ho164 P) .nil .nil) (.node (ho228 P) .nil .nil))) (.node (ho52 P) (.node (ho84 P) (.node (ho148 P) .nil .nil) (.node (ho212 P) .nil .nil)) (.node (ho116 P) (.node (ho180 P) .nil .nil) .nil))) (.node (ho28 P) (.node (ho44 P) (.node (ho76 P) (.node (ho140 P) .nil .nil) (.node (ho204 P) .nil .nil)) (.node (ho108 P) (.node (ho172 P) .nil .nil) .nil)) (.node (ho60 P) (.node (ho92 P) (.node (ho156 P) .nil .nil) (.node (ho220 P) .nil .nil)) (.node (ho124 P) (.node (ho188 P) .nil .nil) .nil))))) (.node (boot_o_6 P) (.node (boot_o_10 P) (.node (ho18 P) (.node (ho34 P) (.node (ho66 P) (.node (ho130 P) .nil .nil) (.node (ho194 P) .nil .nil)) (.node (ho98 P) (.node (ho162 P) .nil .nil) (.node (ho226 P) .nil .nil))) (.node (ho50 P) (.node (ho82 P) (.node (ho146 P) .nil .nil) (.node (ho210 P) .nil .nil)) (.node (ho114 P) (.node (ho178 P) .nil .nil) .nil))) (.node (ho26 P) (.node (ho42 P) (.node (ho74 P) (.node (ho138 P) .nil .nil) (.node (ho202 P) .nil .nil)) (.node (ho106 P) (.node (ho170 P) .nil .nil) .nil)) (.node (ho58 P) (.node (ho90 P) (.node (ho154 P) .nil .nil) (.node (ho218 P) .nil .nil)) (.node (ho122 P) (.node (ho186 P) .nil .nil) .nil)))) (.node (ho14 P) (.node (ho22 P) (.node (ho38 P) (.node (ho70 P) (.node (ho134 P) .nil .nil) (.node (ho198 P) .nil .nil)) (.node (ho102 P) (.node (ho166 P) .nil .nil) (.node (ho230 P) .nil .nil))) (.node (ho54 P) (.node (ho86 P) (.node (ho150 P) .nil .nil) (.node (ho214 P) .nil .nil)) (.node (ho118 P) (.node (ho182 P) .nil .nil) .nil))) (.node (ho30 P) (.node (ho46 P) (.node (ho78 P) (.node (ho142 P) .nil .nil) (.node (ho206 P) .nil .nil)) (.node (ho110 P) (.node (ho174 P) .nil .nil) .nil)) (.node (ho62 P) (.node (ho94 P) (.node (ho158 P) .nil .nil) (.node (ho222 P) .nil .nil)) (.node (ho126 P) (.node (ho190 P) .nil .nil) .nil)))))))
noncomputable abbrev hp6 (P : Params) : Heap := ⟨⟨[boot_o_0 P, boot_o_1 P, boot_o_2 P, ho3x6 P, boot_o_4 P, boot_o_5 P, boot_o_6 P, boot_o_7 P, boot_o_8 P, boot_o_9 P, boot_o_10 P, ho11 P, ho12x6 P, ho13 P, ho14 P, ho15 P, ho16 P, ho17 P, ho18 P, ho19 P, ho20 P, ho21 P, ho22 P, ho23 P, ho24 P, ho25 P, ho26 P, ho27 P, ho28 P, ho29 P, ho30 P, ho31 P, ho32 P, ho33 P, ho34 P, ho35 P, ho36 P, ho37 P, ho38 P, ho39 P, ho40 P, ho41 P, ho42 P, ho43 P, ho44 P, ho45 P, ho46 P, ho47 P, ho48 P, ho49 P, ho50 P, ho51 P, ho52 P, ho53 P, ho54 P, ho55 P, ho56 P, ho57 P, ho58 P, ho59 P, ho60 P, ho61x3 P, ho62 P, ho63 P, ho64 P, ho65 P, ho66 P, ho67 P, ho68 P, ho69 P, ho70 P, ho71 P, ho72 P, ho73 P, ho74 P, ho75 P, ho76 P, ho77 P, ho78 P, ho79 P, ho80 P, ho81 P, ho82 P, ho83 P, ho84 P, ho85 P, ho86 P, ho87 P, ho88 P, ho89 P, ho90 P, ho91 P, ho92 P, ho93 P, ho94 P, ho95 P, ho96 P, ho97 P, ho98 P, ho99 P, ho100 P, ho101 P, ho102 P, ho103 P, ho104 P, ho105 P, ho106 P, ho107 P, ho108 P, ho109 P, ho110 P, ho111 P, ho112 P, ho113 P, ho114 P, ho115 P, ho116 P, ho117 P, ho118 P, ho119 P, ho120 P, ho121 P, ho122 P, ho123 P, ho124 P, ho125 P, ho126 P, ho127 P, ho128 P, ho129 P, ho130 P, ho131 P, ho132 P, ho133 P, ho134 P, ho135 P, ho136 P, ho137 P, ho138 P, ho139 P, ho140 P, ho141 P, ho142 P, ho143 P, ho144 P, ho145 P, ho146 P, ho147 P, ho148 P, ho149 P, ho150 P, ho151 P, ho152 P, ho153 P, ho154 P, ho155 P, ho156 P, ho157 P, ho158 P, ho159 P, ho160 P, ho161 P, ho162 P, ho163 P, ho164 P, ho165 P, ho166 P, ho167 P, ho168 P, ho169 P, ho170 P, ho171 P, ho172 P, ho173 P, ho174 P, ho175 P, ho176 P, ho177 P, ho178 P, ho179 P, ho180 P, ho181 P, ho182 P, ho183 P, ho184 P, ho185 P, ho186 P, ho187 P, ho188 P, ho189 P, ho190 P, ho191 P, ho192 P, ho193 P, ho194 P, ho195 P, ho196 P, ho197 P, ho198 P, ho199 P, ho200 P, ho201 P, ho202 P, ho203 P, ho204 P, ho205 P, ho206 P, ho207 P, ho208 P, ho209 P, ho210 P, ho211 P, ho212 P, ho213 P, ho214 P, ho215 P, ho216 P, ho217 P, ho218 P, ho219 P, ho220 P, ho221 P, ho222 P, ho223 P, ho224 P, ho225 P, ho226 P, ho227 P, ho228 P, ho229 P, ho230 P]⟩, (boot_heap P).life⟩
noncomputable abbrev st6 (w : World) (os : OsState) : SharedT := ⟨tr6 w.params, 231, (boot_heap w.params).life, Array.mk [], boot_drawn, 511, os⟩
noncomputable abbrev ps6 : Pos := ⟨231, 0, 235, 138⟩
noncomputable abbrev envT : Env := { scope := pwT.main.scope, locals := mainNs, globals := mainNs, cells := [], code := .ref 13, frame := some 14 }
noncomputable abbrev bT0 : List Stmt := behindTheImports pwT
noncomputable abbrev bT1 : List Stmt := bT0.drop 8
noncomputable abbrev bT2 : List Stmt := bT1.drop 2
noncomputable abbrev bT3 : List Stmt := bT2.drop 1
noncomputable abbrev bT4 : List Stmt := bT3.drop 19
noncomputable abbrev bT5 : List Stmt := bT4.drop 14
noncomputable abbrev bT6 : List Stmt := bT5.drop 7
noncomputable abbrev cT : Code := .body bT0 envT
noncomputable abbrev fT : List Frame := [topFrame ⟨0, 0, 0, 0⟩]
noncomputable abbrev anT : Option Value := some (.ref 6)
theorem pre_ok (w : World) (os : OsState) : topGo treeTable pwT w 11 anT 12 ⟨boot_heap w.params, Array.mk [], boot_drawn, boot_toks, os⟩ (topStub pwT) = some (⟨hp0 w.params, Array.mk [], boot_drawn, 187, os⟩, ⟨denote treeTable cT, cT, ⟨0, 0, 0, 0⟩, fT⟩) := by
  rw [PySem.W.Fast.te15667345088766844465, PySem.W.Fast.te11892475500146522536]
  kernel_rfl
theorem block_ok (w : World) (os : OsState) : segRun treeTable pwT w 11 anT 1 1 ⟨hp0 w.params, Array.mk [], boot_drawn, 187, os⟩ (blockOf bT0 envT cT ⟨0, 0, 0, 0⟩ fT) = some (.next, (st0 w os).abs, cT, ps0) := by
  kernel_rfl
theorem piece0_ok (w : World) (os : OsState) : segRunT treeTable pwT w 11 anT 1 182 (st0 w os) (piecesOf (bT0.take 8) envT cT ps0 fT) = some (.next, st1 w os, cT, ps1) := by
  unfold piecesOf
  rw [PySem.W.Fast.te10110043849684766642, PySem.W.Fast.te14364793385576792824, PySem.W.Fast.te12563942051412417395]
  kernel_rfl
theorem piece1_ok (w : World) (os : OsState) : segRunT treeTable pwT w 11 anT 1 219 (st1 w os) (piecesOf (bT1.take 2) envT cT ps1 fT) = some (.next, st2 w os, cT, ps2) := by
  unfold piecesOf
  rw [PySem.W.Fast.te10110043849684766642, PySem.W.Fast.te14364793385576792824, PySem.W.Fast.te12563942051412417395]
  kernel_rfl
theorem piece2_ok (w : World) (os : OsState) : segRunT treeTable pwT w 11 anT 1 310 (st2 w os) (piecesOf (bT2.take 1) envT cT ps2 fT) = some (.next, st3 w os, cT, ps3) := by
  unfold piecesOf
  rw [PySem.W.Fast.te10110043849684766642, PySem.W.Fast.te14364793385576792824, PySem.W.Fast.te12563942051412417395]
  kernel_rfl
theorem piece3_ok (w : World) (os : OsState) : segRunT treeTable pwT w 11 anT 1 353 (st3 w os) (piecesOf (bT3.take 19) envT cT ps3 fT) = some (.next, st4 w os, cT, ps4) := by
  unfold piecesOf
  rw [PySem.W.Fast.te10110043849684766642, PySem.W.Fast.te14364793385576792824, PySem.W.Fast.te12563942051412417395]
  kernel_rfl
theorem piece4_ok (w : World) (os : OsState) : segRunT treeTable pwT w 11 anT 1 299 (st4 w os) (piecesOf (bT4.take 14) envT cT ps4 fT) = some (.next, st5 w os, cT, ps5) := by
  unfold piecesOf
  rw [PySem.W.Fast.te10110043849684766642, PySem.W.Fast.te14364793385576792824, PySem.W.Fast.te12563942051412417395]
  kernel_rfl
theorem piece5_ok (w : World) (os : OsState) : segRunT treeTable pwT w 11 anT 1 193 (st5 w os) (piecesOf (bT5.take 7) envT cT ps5 fT) = some (.next, st6 w os, cT, ps6) := by
  unfold piecesOf
  rw [PySem.W.Fast.te10110043849684766642, PySem.W.Fast.te14364793385576792824, PySem.W.Fast.te12563942051412417395]
  kernel_rfl
theorem fin_ok (w : World) (os : OsState) : topRun treeTable pwT w 11 anT 2 (st6 w os).abs ⟨doneF .next, cT, ps6, fT⟩ = some ⟨hp6 w.params, Array.mk [], boot_drawn, 511, os⟩ := by
  rw [PySem.W.Fast.te14082659384304107361]
  kernel_rfl
theorem drop_app {p : Program} {w : World} {n₀ : Nat} {ann : Option Value} {env : Env} {q : Pos} {n N : Nat} {s s' : SharedT} {r : Shared} {b : List Stmt} {c : Code} {pos p' : Pos} (g : Nat)
    (h : segRunT treeTable p w n₀ ann 1 n s (piecesOf (b.take g) env c pos [topFrame q]) = some (.next, s', c, p')) (k : topRun treeTable p w n₀ ann N s'.abs (restOf (b.drop g) env c p' [topFrame q]) = some r) :
    topRun treeTable p w n₀ ann (n + N) s.abs (restOf b env c pos [topFrame q]) = some r := by
  have := piece_app (segRun_of h) k
  rwa [List.take_append_drop] at this
theorem bT_end : bT6 = [] := by kernel_rfl
theorem topT_ok (w : World) (os : OsState) : topRun treeTable pwT w 11 anT (12 + (1 + (182 + (219 + (310 + (353 + (299 + (193 + 2)))))))) ⟨boot_heap w.params, Array.mk [], boot_drawn, boot_toks, os⟩ (topStub pwT) = some ⟨hp6 w.params, Array.mk [], boot_drawn, 511, os⟩ := by
  refine go_top (pre_ok w os) (piece_block (block_ok w os) (drop_app 8 (piece0_ok w os) (drop_app 2 (piece1_ok w os) (drop_app 1 (piece2_ok w os) (drop_app 19 (piece3_ok w os) (drop_app 14 (piece4_ok w os) (drop_app 7 (piece5_ok w os) ?_)))))))
  show topRun treeTable pwT w 11 anT 2 (st6 w os).abs (restOf bT6 envT cT ps6 fT) = _
  rw [bT_end]
  exact piece_nil (fin_ok w os)
end Mine
end
section
open PySem PySem.W PyProof.Rows
set_option maxRecDepth 100000
set_option maxHeartbeats 8000000
namespace Mine
/-- the statements of the top that bind what stands at its end -/
noncomputable def viewP : Program := { PySem.Challenge.pw_pd0110_01 with main := { PySem.Challenge.pw_pd0110_01.main with body := PySem.Challenge.pw_pd0110_01.main.body.zipIdx.filterMap fun q => if [1, 4, 5, 7, 9, 12, 14, 16, 21, 45].contains q.2 then none else some q.1 } }
noncomputable def looseP : List Str := [Str.ofString "_initial_missing", Str.ofString "reduce", Str.ofString "_filemode_table"]
noncomputable def pairW (p : Int × String) : WData := .tuple [.int p.1, .str (Str.ofString p.2)]
noncomputable def litsP : List (Str × WData) := [(Str.ofString "_filemode_table", .tuple [.tuple [pairW (40960, "l"), pairW (49152, "s"), pairW (32768, "-"), pairW (24576, "b"), pairW (16384, "d"), pairW (8192, "c"), pairW (4096, "p")],
  .tuple [pairW (256, "r")], .tuple [pairW (128, "w")], .tuple [pairW (2112, "s"), pairW (2048, "S"), pairW (64, "x")], .tuple [pairW (32, "r")], .tuple [pairW (16, "w")], .tuple [pairW (1032, "s"), pairW (1024, "S"), pairW (8, "x")],
  .tuple [pairW (4, "r")], .tuple [pairW (2, "w")], .tuple [pairW (513, "t"), pairW (512, "T"), pairW (1, "x")]])]
/-- the looks at the law's text, each with the library's quick twins (the program's own twin is not made: it is 2.7 MB) -/
theorem said_ok : OpenLaw.wellSaid PySem.Challenge.rw_pd0110_01 = true := by
  unfold OpenLaw.wellSaid OpenRow.wellSaid OpenRow.partSaid looksOpen
  repeat' (with_reducible refine look_both ?_ ?_)
  all_goals
    (try rw [PySem.W.Fast.te8326940854005059898])
    (try rw [PySem.W.Fast.te17119622794617984870])
    (try rw [PySem.W.Fast.named_eq])
    (try rw [PySem.W.Fast.te8179353310426384613])
    (try rw [PySem.W.Fast.te9558739934217749035])
    (try rw [PySem.W.Fast.te16286561074155671207])
    (try rw [PySem.W.Fast.te10501279942588096481])
    (try rw [PySem.W.Fast.te8377067652309620493])
    (try rw [PySem.W.Fast.te14412699480532031325])
    (try rw [PySem.W.Fast.te11788848310118352699])
    (try rw [PySem.W.Fast.te13582783067957832011])
    (try rw [PySem.W.Fast.te18344453789297297638])
    (try rw [PySem.W.Fast.te12749700546528644094])
    (try rw [PySem.W.Fast.te6984425678791042302])
    (try rw [PySem.W.Fast.te13343964577679436407])
    decide +kernel
noncomputable abbrev XtP : Shared → Bool := fun s => xlAt viewP litsP s && recOk (RowW.records PySem.Challenge.rw_pd0110_01.row.toRowW) s
theorem size_ok (w : World) : ((boot_heap w.params).isNs mainGlobals && (Array.mk [] : Array GenState).size == 0, (boot_heap w.params).objs.size, (boot_heap w.params).nsMap mainGlobals (Str.ofString "__annotations__")) = (true, 11, anT) := by kernel_rfl
theorem look1 (w : World) (os : OsState) : (staticsOk (importedModules pwT.main.body) (boot_heap w.params) (hp6 w.params) && namesBound pwT (hp6 w.params) && gensDone ⟨hp6 w.params, Array.mk [], boot_drawn, 511, os⟩ && laidKept (boot_heap w.params) (hp6 w.params)) = true := by
  kernel_rfl
noncomputable abbrev sP (w : World) (os : OsState) : Shared := ⟨hp6 w.params, Array.mk [], boot_drawn, 511, os⟩
theorem look2a (w : World) (os : OsState) : seen ((recsOf viewP).map (·.name)) (ownsOf viewP) [] { (sP w os) with gens := #[] } = expectedOf viewP := by
  rw [PySem.W.Fast.te5160383126252970620, PySem.W.Fast.te3399658132070893891, PySem.W.Fast.te5991557255702980513]
  kernel_rfl
theorem look2b (w : World) (os : OsState) : (sP w os).heap.bltView = bltViewBooted := by
  kernel_rfl
theorem look2c (w : World) (os : OsState) : ((sP w os).heap.keysOk (looseW viewP looseP) ((recsOf viewP).map (·.name)) ((litsOf viewP).map (·.1)) ((clssOf viewP (looseW viewP looseP)).map (·.name)) && (sP w os).heap.accountedOkI (importedModules pwT.main.body) && (sP w os).heap.isNs mainGlobals && (sP w os).heap.isNs builtinsNs && tablesOk viewP (sP w os).heap && XtP (sP w os) && (if true then (sP w os).gens.size == 0 else !leftWithCleanup (sP w os).gens)) = true := by
  rw [PySem.W.Fast.te10880121769531294198, PySem.W.Fast.te821141287760084731, PySem.W.Fast.te3399658132070893891, PySem.W.Fast.te7409074990110511671, PySem.W.Fast.te13664370479719496447, PySem.W.Fast.te14722251495701143533, PySem.W.Fast.te5923862056798008813, PySem.W.Fast.te10994771534591457954]
  kernel_rfl
theorem look2d (w : World) (os : OsState) : tabsOk viewP (sP w os) = true := by
  rw [PySem.W.Fast.te479339242167458305]
  kernel_rfl
theorem look2e (w : World) (os : OsState) : pinSeenD viewP (drecsOf viewP) (sP w os) = pinGoodD (drecsOf viewP) := by
  rw [PySem.W.Fast.te16090120013241838585, PySem.W.Fast.te3247288618530077131]
  kernel_rfl
theorem look2f (w : World) (os : OsState) : plainSeenE viewP (looseW viewP looseP) (sP w os) = plainGoodE viewP (looseW viewP looseP) := by
  rw [PySem.W.Fast.te2386780881361962483, PySem.W.Fast.te821141287760084731]
  kernel_rfl
theorem look2g (w : World) (os : OsState) : plainSeenD viewP looseP (sP w os) = plainGoodD viewP looseP := by
  rw [PySem.W.Fast.te11698064438423848299]
  kernel_rfl
theorem look2h (w : World) (os : OsState) : wideSeen viewP (sP w os) = wideGood viewP := by
  rw [PySem.W.Fast.te7317090234206586261]
  kernel_rfl
theorem look2i (w : World) (os : OsState) : clsSeenW viewP looseP (sP w os) = clsGoodW viewP looseP := by
  rw [PySem.W.Fast.te7369524293546568484]
  kernel_rfl
theorem look2 (w : World) (os : OsState) : openSeen viewP looseP (importedModules pwT.main.body) XtP true (sP w os) = openGood viewP looseP :=
  looks_pair (look2a w os) (looks_pair (look2b w os) (looks_pair (look2c w os) (looks_pair (look2d w os) (looks_pair (look2e w os) (looks_pair (look2f w os) (looks_pair (look2g w os) (looks_pair (look2h w os) (look2i w os))))))))
set_option hygiene false in
local macro_rules | `(tactic| o_head $H) => `(tactic| (refine holds_open (q := viewP) (loose := looseP) (Xt := XtP) (XP := XL viewP litsP) (Yf := Hook.obs $H) (Ya := Hook.val $H) (YP := Hook.says $H) (N := 3226) ?hl (Hook.of $H) (Hook.keeps $H) (fun s e => xl_of s (Bool.and_eq_true_iff.mp e).1) XL.keeps (by rfl) (by rfl) (by rfl) (fun s e => recFacts_of (Bool.and_eq_true_iff.mp e).2) (by rfl) (by first | assumption | decide +kernel) (by decide +kernel) ⟨rfl, rfl, rfl, rfl, rfl, by decide +kernel⟩ ?hw ?hc; (case hl => refine LeftO.of_pieces (H₁ := hp6) (gs₁ := Array.mk []) (d₁ := boot_drawn) (k₁ := 511) (boot_open (by rfl) (by rfl) (fun s => by rfl)) size_ok topT_ok (by rfl) (fun w => funext fun os => looks_pair (look1 w os) (looks_pair (look2 w os) ?_)); kernel_rfl)))
local macro_rules | `(tactic| o_law) => `(tactic| refine holds_law said_ok fun said => ?_)
open_top hd for PySem.Challenge.rw_pd0110_01
end Mine
end
open PySem PySem.W PySem.W.X PySem.Spec PySem.Calls PyProof.Rows Mine
set_option hygiene false in
local macro_rules | `(tactic| walk_at "useB") => `(tactic| ((case B => k_asm); (case F => k_asm); (case X => k_asm); (case N => k_asm); (case T => k_asm); (case hk => first | exact rfl | assumption); (case h1 => k_units); (case h2 => k_units); k_whole))
local macro_rules | `(tactic| walk_at "useC") => `(tactic| (rintro r' tl' h' tk' ⟨⟨tk'', rr'⟩, tt'⟩ F' N' l1 kp'; subst rr'; subst tt'; (try dsimp only); (try dsimp only [List.nil_append] at N')))
local macro_rules | `(tactic| walk_at "useD") => `(tactic| (rintro r' tl' h' tk' ⟨rr', tt'⟩ F' N' l1 kp'; subst rr'; subst tt'; (try dsimp only); (try dsimp only [List.nil_append] at N')))
namespace Mine
theorem walkOff : True := by w_top off; trivial
end Mine
section
open PySem PySem.W PySem.W.X PyProof.Rows
set_option maxRecDepth 100000
set_option maxHeartbeats 8000000
namespace Mine
theorem wpAny_big {α : Type} {M : Model} {A A' : Around} {t : Sem α} {Q : α → Shared → Prop} {E : Value → Shared → Prop} {s : Shared} (h : wpAny M A' t Q E s)
    (h1 : A.handled = A'.handled) (hd : A.depth ≤ A'.depth) (hu : A.units ≤ A'.units) (hf : A'.frames = none) (hg : A'.guards = none) : wpAny M A t Q E s :=
  fun Γ p hΓ => h Γ p ⟨hΓ.1.trans h1, Nat.le_trans hΓ.2.1 hd, (fun l hl => by rw [hf] at hl; cases hl), (fun g hg' => by rw [hg] at hg'; cases hg'), Nat.le_trans hΓ.2.2.2.2 hu⟩
/-- what a run leaves: the old heap kept, and the rest of the state -/
noncomputable def Ran (s : Shared) (P : Value → Prop) (r : Value) (s' : Shared) : Prop := ∃ h' tk news, s' = { s with heap := h', toks := tk } ∧ Mem s.heap h' [] news ∧ P r
theorem ran_K {prog : Program} {w : World} {A : Around} {E : Value → Shared → Prop} {s : Shared} {h₀ : Heap} {L : Addr} {m : Str → Option Value} {news : List (Addr × Obj)} {t : Sem Value} {P : Value → Prop} {Q : Value → Shared → Prop}
    (h : wpAny (model prog w) ⟨none, 600, none, none, 9000⟩ t (Ran s P) E s) (F : Fr h₀ L s.heap m) (N : News h₀ L s.heap news) (h1 : A.handled = none) (hd : A.depth ≤ 600) (hu : A.units ≤ 9000)
    (hq : ∀ r h' tk, P r → Fr h₀ L h' m → News h₀ L h' news → Q r { s with heap := h', toks := tk }) : wpAny (model prog w) A t Q E s := by
  refine wpAny_big (wpAny_mono h ?_ fun _ _ e => e) h1 hd hu rfl rfl
  rintro r s' ⟨h', tk, nw, rfl, D, hp⟩
  have keep : ∀ b o, s.heap.get? b = some o → h'.get? b = some o := fun b o e => D.keep b o e (by simp [away])
  exact hq r h' tk hp (F.kept keep) (N.grown keep)
local macro_rules | `(tactic| x_close) => `(tactic| (refine ⟨_, _, _, rfl, (by first | assumption | exact Mem.start _), rfl⟩))
theorem issub0 (w : World) (s : Shared) (a : Addr) (n : Nat) (d : Option Addr) (sl : Array (Option Value)) (ho : s.heap.get? a = some ⟨.type "tuple", d, .seq #[.type "str", .type "bytes"] n, sl⟩) (E : Value → Shared → Prop) :
   wpAny (model PySem.Challenge.pw_pd0110_01 w) ⟨none, 600, none, none, 9000⟩ (call (.builtin "issubclass") [.type "str", .ref a]) (Ran s (· = .bool true)) E s := by
  x_run
end Mine
end
section
open PySem PySem.W PySem.W.X PySem.Spec PySem.Calls PyProof.Rows
set_option maxRecDepth 100000
set_option maxHeartbeats 8000000
namespace Mine
theorem wpAny_le {α : Type} {M : Model} {A A' : Around} {t : Sem α} {Q : α → Shared → Prop} {E : Value → Shared → Prop} {s : Shared} (h : wpAny M A' t Q E s)
    (h1 : A.handled = A'.handled) (hd : A.depth ≤ A'.depth) (hu : A.units ≤ A'.units) (hf : A.frames = A'.frames) (hg : A.guards = A'.guards) : wpAny M A t Q E s :=
  fun Γ p hΓ => h Γ p ⟨hΓ.1.trans h1, Nat.le_trans hΓ.2.1 hd, (fun l hl => hΓ.2.2.1 l (hf.trans hl)), (fun g hg' => hΓ.2.2.2.1 g (hg.trans hg')), Nat.le_trans hΓ.2.2.2.2 hu⟩
noncomputable abbrev Led := List (Addr × Obj)
noncomputable abbrev loose : List Str := [Str.ofString "_initial_missing", Str.ofString "reduce", Str.ofString "_filemode_table"]
/-- every object of h stands in h' -/
noncomputable def Keeps (h h' : Heap) : Prop := ∀ b o, h.get? b = some o → h'.get? b = some o
theorem Keeps.trans {a b c : Heap} (x : Keeps a b) (y : Keeps b c) : Keeps a c := fun p o e => y p o (x p o e)
/-- objects made since h -/
noncomputable def Made (h h' : Heap) (tl : Led) : Prop := ∀ p ∈ tl, h'.get? p.1 = some p.2 ∧ h.get? p.1 = none
/-- the claim of a call: all that stood is kept -/
noncomputable def Cl (D U : Nat) (f : Addr) (vs : List Value) (pre : Heap → Prop) (Ret : Heap → Value → Led → Prop) : Prop :=
  ∀ (w : World) (p : Program) (lo : List Str) (mean : ExcName → Option Value) (mg mb : Str → Option Value) (gd : Option (List Code)) (cn : Str) (cs : Scope) (a : Addr) (ccd : Value) (cl : List (Str × Addr)) (outer : List Env) (A₀ : Around) (base h₀ : Heap) (L : Addr) (m : Str → Option Value) (s : Shared) (Q E : Value → Shared → Prop),
    Below A₀ base outer h₀ → Fr h₀ L s.heap m → (hd.heap_1 w.params).In h₀ → Top p lo mean mg mb h₀ → cs.kind = .function → pre s.heap →
    (∀ (r : Value) (tl : Led) (h' : Heap) (tk' : Nat), Ret h' r tl → Keeps s.heap h' → Made s.heap h' tl → Q r { s with heap := h', toks := tk' }) →
      wpAny (model PySem.Challenge.pw_pd0110_01 w) (ktrTop D U gd cn cs L a ccd cl outer) (call (.ref f) vs) Q E s
section
variable {prog : Program} {w : World} {A A₀ : Around} {s : Shared} {K : Frag} {L : Addr} {h₀ base : Heap} {m mg mb : Str → Option Value} {p : Program} {loose : List Str} {mean : ExcName → Option Value}
theorem enter_S {env : Env} {outer : List Env} {R : Result → Shared → Prop} {name qual : Str} {params : Arguments} {body : List Stmt} {scope : Scope} {dV kV doc pm cdv ct oc : Value} {an od : Option Addr} {osl : Array (Option Value)} {f : Addr} {args : Args} {binds : List (Str × Value)}
    (B : Below A₀ base outer h₀) (F : Fr h₀ L s.heap m) (X₀ : K.In h₀) (T : Top p loose mean mg mb h₀) (hA : A.frames = some (env :: outer)) (hf : env.frame = some L) (hke : env.scope.kind = .function)
    (ho : K.lookup f = some ⟨oc, od, .func (fnOf name qual params body scope dV kV doc pm an cdv ct), osl⟩) (hcd : codeIn K cdv qual = true) (hroom : A.depth < recursionLimit)
    (hbind : BindsTo s (fnOf name qual params body scope dV kV doc pm an cdv ct) args binds) (hloc : ∀ y ∈ binds, scope.names.lookup y.1 = some .local)
    (h : ∀ L' h₁, Fr s.heap L' h₁ (fun y => binds.reverse.lookup y) → News s.heap L' h₁ [] → Below A base (env :: outer) s.heap → K.In s.heap → Top p loose mean mg mb s.heap →
      wpAny (model prog w) (A.deeper (envOf qual scope L' f cdv)) (execs body (envOf qual scope L' f cdv))
        (fun fl s' => R (.ok (.ret (match fl with | .ret v => v | _ => .none))) s')
        (fun e s' => wpAny (model prog w) (A.deeper (envOf qual scope L' f cdv)) (leaving (envOf qual scope L' f cdv) e) (fun _ s'' => R (.error e) s'') (fun e' s'' => R (.error e') s'') s')
        { s with heap := h₁, toks := s.toks + binds.length })
    (hco : scope.isCoroutine = false) (hgen : scope.isGenerator = false) (hk : scope.kind = .function)
    (hcell : ∀ x ∈ scope.names, x.2 ≠ .cell) : codeAny (model prog w) A (.call (.ref f) args) R s := by
  obtain ⟨FG, BG, st, lv⟩ := groundX (R := R) B F (News.nil (h₀ := h₀) (L := L) (h := s.heap)) hA hf hke
  refine codeAny_call_def (fd := fnX name qual params body scope [] dV kV doc pm an cdv ct) (body := body) (binds := binds) hroom ((X₀.keeps F.keep) _ _ ho) rfl (T.nolimit.keeps F.keep) (codeRec_of (X₀.keeps F.keep) hcd) rfl hbind hcell hloc (fun h₁ hns hk₁ => ?_) hco hgen hk
  exact h s.heap.objs.size h₁ ⟨hns, hk₁, Nat.le_refl _⟩ News.nil BG (X₀.keeps st) (T.keeps st)
theorem enter_rest {env : Env} {outer : List Env} {R : Result → Shared → Prop} {name qual : Str} {params : Arguments} {body : List Stmt} {scope : Scope} {dV kV doc pm cdv ct oc : Value} {an od : Option Addr} {osl : Array (Option Value)} {f : Addr} {args : Args} {vs : List Value} {binds : Value → List (Str × Value)}
    (B : Below A₀ base outer h₀) (F : Fr h₀ L s.heap m) (X₀ : K.In h₀) (T : Top p loose mean mg mb h₀) (hA : A.frames = some (env :: outer)) (hf : env.frame = some L) (hke : env.scope.kind = .function)
    (ho : K.lookup f = some ⟨oc, od, .func (fnOf name qual params body scope dV kV doc pm an cdv ct), osl⟩) (hcd : codeIn K cdv qual = true) (hroom : A.depth < recursionLimit)
    (hb : bindArgs (fnOf name qual params body scope dV kV doc pm an cdv ct) args = (newTuple vs >>= fun t => pure (binds t))) (hz : vs.length ≤ sizeLine) (hloc : ∀ D, ∀ y ∈ binds D, scope.names.lookup y.1 = some .local)
    (h : ∀ D L' h₁, Fr s.heap L' h₁ (fun y => (binds (.ref D)).reverse.lookup y) → News s.heap L' h₁ [(D, ({ cls := .type "tuple", data := .seq vs.toArray } : Obj))] → Below A base (env :: outer) s.heap → K.In s.heap → Top p loose mean mg mb s.heap →
      wpAny (model prog w) (A.deeper (envOf qual scope L' f cdv)) (execs body (envOf qual scope L' f cdv))
        (fun fl s' => R (.ok (.ret (match fl with | .ret v => v | _ => .none))) s')
        (fun e s' => wpAny (model prog w) (A.deeper (envOf qual scope L' f cdv)) (leaving (envOf qual scope L' f cdv) e) (fun _ s'' => R (.error e) s'') (fun e' s'' => R (.error e') s'') s')
        { s with heap := h₁, toks := s.toks + (binds (.ref D)).length })
    (hco : scope.isCoroutine = false) (hgen : scope.isGenerator = false) (hk : scope.kind = .function)
    (hcell : ∀ x ∈ scope.names, x.2 ≠ .cell) : codeAny (model prog w) A (.call (.ref f) args) R s := by
  obtain ⟨FG, BG, st, lv⟩ := groundX (R := R) B F (News.nil (h₀ := h₀) (L := L) (h := s.heap)) hA hf hke
  refine codeAny_call_function (fd := fnOf name qual params body scope dV kV doc pm an cdv ct) (body := body) hroom ((X₀.keeps F.keep) _ _ ho) rfl hco hgen rfl (codeRec_of (X₀.keeps F.keep) hcd) ?_
  rw [hb]
  refine wpAny_bind (wpAny_newObj_type (wpAny_pure ?_) (by show vs.toArray.size ≤ sizeLine; rw [List.size_toArray]; exact hz))
  have k0 : Keeps s.heap (s.heap.push ({ cls := .type "tuple", data := .seq vs.toArray } : Obj)) := fun b o e => Heap.get?_push_of_some _ e
  refine wpAny_newFunctionEnv hcell (hloc _) (fun h₁ hns hsb => ⟨((T.nolimit.keeps F.keep).keeps k0).fresh _ hsb, codeAny_func ?_⟩) hk
  have hk₁ : Keeps (s.heap.push ({ cls := .type "tuple", data := .seq vs.toArray } : Obj)) h₁ := fun b o e => hsb.extBut b o (Nat.ne_of_lt (Heap.lt_size e)) (Heap.get?_push_of_some _ e)
  refine h s.heap.objs.size _ h₁ ⟨hns, k0.trans hk₁, ?_⟩ ?_ BG (X₀.keeps st) (T.keeps st)
  · show s.heap.objs.size ≤ (s.heap.push _).objs.size
    rw [Heap.size_push]; exact Nat.le_succ _
  · intro q hq
    cases hq with
    | head =>
      refine ⟨hk₁ _ _ (Heap.get?_push_size _ rfl), ?_, Heap.get?_none_of_le (Nat.le_refl _)⟩
      show s.heap.objs.size ≠ (s.heap.push _).objs.size
      rw [Heap.size_push]; exact Nat.ne_of_lt (Nat.lt_succ_self _)
    | tail _ hq => cases hq
end
theorem Cl.use {D U : Nat} {f : Addr} {vs : List Value} {pre : Heap → Prop} {Ret : Heap → Value → Led → Prop} (c : Cl D U f vs pre Ret) {dp un : Nat} {w : World} {p : Program} {lo : List Str} {mean : ExcName → Option Value} {mg mb : Str → Option Value} {gd : Option (List Code)} {cn : Str} {cs : Scope} {a : Addr} {ccd : Value} {cl : List (Str × Addr)} {outer : List Env} {A₀ : Around} {base h₀ : Heap} {L : Addr} {m : Str → Option Value} {news : Led} {s : Shared} {Q E : Value → Shared → Prop}
    (B : Below A₀ base outer h₀) (F : Fr h₀ L s.heap m) (X : (hd.heap_1 w.params).In h₀) (N : News h₀ L s.heap news) (T : Top p lo mean mg mb h₀) (hk : cs.kind = .function) (h1 : dp ≤ D) (h2 : un ≤ U) (hp : pre s.heap)
    (h : ∀ (r : Value) (tl : Led) (h' : Heap) (tk' : Nat), Ret h' r tl → Fr h₀ L h' m → News h₀ L h' (tl ++ news) → (∀ q ∈ news, ∀ p ∈ tl, q.1 ≠ p.1) → Keeps s.heap h' → Q r { s with heap := h', toks := tk' }) :
    wpAny (model PySem.Challenge.pw_pd0110_01 w) (ktrTop dp un gd cn cs L a ccd cl outer) (call (.ref f) vs) Q E s :=
  wpAny_le (c w p lo mean mg mb gd cn cs a ccd cl outer A₀ base h₀ L m s Q E B F X T hk hp fun r tl h' tk' hr kp md => h r tl h' tk' hr (F.kept kp)
    (fun p hp => by
      rcases List.mem_append.mp hp with hp | hp
      · obtain ⟨e1, e2⟩ := md p hp
        refine ⟨e1, fun q => ?_, ?_⟩
        · obtain ⟨o, _, _, ho, _⟩ := F.ns
          rw [q, ho] at e2; cases e2
        · cases q : h₀.get? p.1 with
          | none => rfl
          | some o => rw [F.keep _ _ q] at e2; cases e2
      · exact ⟨kp _ _ (N p hp).1, (N p hp).2⟩)
    (fun q hq p hp e => by have x := (md p hp).2; rw [← e, (N q hq).1] at x; cases x) kp) rfl h1 h2 rfl rfl
theorem fill0 : (PySem.Challenge.rw_pd0110_01 = PySem.Challenge.rw_pd0110_01) ∧ (hd.heap_1 = hd.heap_1) := by k_fill; exact ⟨rfl, rfl⟩
end Mine
end
local macro_rules | `(tactic| cell_enter) => `(tactic| (refine' enter_S ?k1 ?k2 ?k3 ?k5 ?kA ?kF ?kK ?k6 ?k7 ?k8 ?k9 ?kB ?_ ?c2 ?c3 ?c4 ?c5; (case kA => exact rfl); (case kF => exact rfl); (case kK => assumption); (case k1 => k_asm); (case k2 => k_asm); (case k3 => k_asm); (case k5 => k_asm); (case k6 => k_is); (case k7 => k_is); (case k8 => ktr_room); (case k9 => exact BindsTo.of_eq rfl); (case c5 => decide); (case kB => exact locs rfl); (case c2 => exact rfl); (case c3 => exact rfl); (case c4 => exact rfl); k_whole; intro L' h' F' N' B' X' T'; (try dsimp only); (try k_lift B'); (try k_fold)))
section
open PySem PySem.W PySem.W.X PySem.Spec PySem.Calls PyProof.Rows
set_option maxRecDepth 100000
set_option maxHeartbeats 8000000
namespace Mine
local macro_rules | `(tactic| walk_at "call builtin:issubclass") => `(tactic| (k_here; (with_reducible show wpAny _ _ (call (Value.builtin "issubclass") [Value.type "str", Value.ref _]) _ _ _); k_dflt (refine' ran_K (issub0 _ _ _ _ _ _ ?ho _) ?F ?N ?h1 ?hd ?hu ?_; (case ho => exact News.get (by k_asm) (by k_mem)); (case F => k_asm); (case N => k_asm); (case h1 => rfl); (case hd => k_units); (case hu => k_units); k_whole); intro r' h' tk' rr' F' N'; subst rr'; (try dsimp only)))
theorem fspath_ok (x : Str) (t : Tok) : Cl 500 3000 110 [.str x t] (fun _ => True) (fun _ r tl => r = .str x t ∧ tl = []) := by
  unfold Cl; intros; rename_i hret
  refine wpAny_call ?_
  k_dflt cell_enter
  k_steps
  all_goals exact hret _ [] _ _ ⟨rfl, rfl⟩ (Fr.keep (by assumption)) (fun _ h => nomatch h)
theorem get_sep_ok (x : Str) (t : Tok) : Cl 500 3000 124 [.str x t] (fun _ => True) (fun _ r tl => (∃ t', r = .str (Str.ofString "/") t') ∧ tl = []) := by
  unfold Cl; intros; rename_i hret
  refine wpAny_call ?_
  k_dflt cell_enter
  k_steps
  all_goals exact hret _ [] _ _ ⟨⟨_, rfl⟩, rfl⟩ (Fr.keep (by assumption)) (fun _ h => nomatch h)
end Mine
end
section
open PySem PySem.W PySem.W.X PySem.Spec PySem.Calls PyProof.Rows
set_option maxRecDepth 100000
set_option maxHeartbeats 8000000
namespace Mine
end Mine
end
set_option hygiene false in
local macro_rules | `(tactic| walk_at "call ref") => `(tactic| (k_here; (with_reducible show wpAny _ _ (call (Value.ref 110) [Value.str _ _]) _ _ _); k_dflt (refine' Cl.use (fspath_ok _ _) ?B ?F ?X ?N ?T ?hk ?h1 ?h2 trivial ?_; walk_at "useB"); walk_at "useD"))
section
open PySem PySem.W PySem.W.X PySem.Spec PySem.Calls PyProof.Rows
set_option maxRecDepth 100000
set_option maxHeartbeats 8000000
namespace Mine
end Mine
end
set_option hygiene false in
local macro_rules | `(tactic| walk_at "call ref") => `(tactic| (k_here; (with_reducible show wpAny _ _ (call (Value.ref 124) [Value.str _ _]) _ _ _); k_dflt (refine' Cl.use (get_sep_ok _ _) ?B ?F ?X ?N ?T ?hk ?h1 ?h2 trivial ?_; walk_at "useB"); walk_at "useC"))
section
open PySem PySem.W PySem.W.X PySem.Spec PySem.Calls PyProof.Rows
set_option maxRecDepth 100000
set_option maxHeartbeats 8000000
namespace Mine
end Mine
end
local macro_rules | `(tactic| walk_at "truthy str") => `(tactic| (k_here; (with_reducible show wpAny _ _ (PySem.truthy (Value.str _ _)) _ _ _); (refine' KXt.truthy_pos (K := 100) ?ka ?kb ?kc ?_; (case ka => assumption); (case kb => assumption); (case kc => exact Nat.le_of_ble_eq_true rfl)); intro _))
section
open PySem PySem.W PySem.W.X PySem.Spec PySem.Calls PyProof.Rows
set_option maxRecDepth 100000
set_option maxHeartbeats 8000000
namespace Mine
theorem join_ok (x y : Str) (t u : Tok) (hy : Txt.startswith y (Str.ofString "/") = false) (hx1 : 1 ≤ x.length) (hx : x.length ≤ 100) (hy2 : y.length ≤ 100) : Cl 480 2900 131 [.str x t, .str y u] (fun _ => True) (fun _ r tl => (∃ t', r = .str (if Txt.endswith x (Str.ofString "/") then x ++ y else x ++ (Str.ofString "/" ++ y)) t') ∧ tl = []) := by
  unfold Cl; intros; rename_i hret
  refine wpAny_call ?_
  k_dflt (refine' enter_rest ?k1 ?k2 ?k3 ?k5 ?kA ?kF ?kK ?k6 ?k7 ?k8 ?k9 ?kz ?kB ?_ ?c2 ?c3 ?c4 ?c5; (case kA => exact rfl); (case kF => exact rfl); (case kK => assumption); (case k1 => k_asm); (case k2 => k_asm); (case k3 => k_asm); (case k5 => k_asm); (case k6 => k_is); (case k7 => k_is); (case k8 => ktr_room); (case k9 => exact rfl); (case kz => k_units); (case c5 => decide); (case kB => exact fun _ => locs rfl); (case c2 => exact rfl); (case c3 => exact rfl); (case c4 => exact rfl); k_whole; intro D' L' h' F' N' B' X' T'; (try dsimp only); (try k_lift B'); (try k_fold))
  k_steps
  all_goals first
    | exact hret _ [] _ _ ⟨⟨_, by rw [if_pos (by assumption)]⟩, rfl⟩ (Fr.keep (by assumption)) (fun _ h => nomatch h)
    | exact hret _ [] _ _ ⟨⟨_, by rw [if_neg (by simp_all)]⟩, rfl⟩ (Fr.keep (by assumption)) (fun _ h => nomatch h)
end Mine
end
section
open PySem PySem.W PySem.W.X PySem.Spec PySem.Calls PyProof.Rows
set_option maxRecDepth 100000
set_option maxHeartbeats 8000000
namespace Mine
theorem News.get_both {h₀ h : Heap} {L : Addr} {news : Led} (N : News h₀ L h news) {p : Addr × Obj} (hp : p ∈ news) : h.get? p.1 = some p.2 ∧ p.1 ≠ L ∧ h₀.get? p.1 = none := N p hp
theorem splitroot_ok (x : Str) (t : Tok) (hx1 : 1 ≤ x.length) (hx : x.length ≤ 100) (h1 : (Txt.slice x none (some 1) != Str.ofString "/") = false) (h2 : (Txt.slice x (some 1) (some 2) != Str.ofString "/") = true) : Cl 490 2950 138 [.str x t] (fun _ => True) (fun _ r tl => ∃ D t1 t2 t3, r = .ref D ∧ tl = [(D, { cls := .type "tuple", data := .seq #[.str (Str.ofString "") t1, .str (Str.ofString "/") t2, .str (Txt.slice x (some 1) none) t3] })]) := by
  unfold Cl; intros; rename_i hret
  refine wpAny_call ?_
  k_dflt cell_enter
  k_steps
  all_goals first
    | (exfalso; clear hret; simp_all; done)
    | exact hret _ _ _ _ ⟨_, _, _, _, rfl, rfl⟩ (Fr.keep (by assumption)) (fun p hp => (fun q => ⟨q.1, q.2.2⟩) (News.get_both (by assumption) hp))
end Mine
end
section
open PySem PySem.W PySem.W.X PySem.Spec PySem.Calls PyProof.Rows
set_option maxRecDepth 100000
namespace Mine
section
variable {prog : Program} {w : World} {A : Around} {E : Value → Shared → Prop} {s : Shared} {env : Env} {h₀ : Heap} {x : Str} {body : List Stmt} {Q : Flow → Shared → Prop}
/-- a for over a list, of any values, by an invariant -/
theorem iter_V {l : Addr} {vs : List Value} {m₀ : Str → Option Value} {news : Led} (J : Nat → (Str → Option Value) → Led → Prop)
    (hh : A.handled = none) (hl : s.heap.IsList l vs.toArray) (hlL : l ≠ env.locals) (hln : l ∉ news.map (·.1)) (F : Fr h₀ env.locals s.heap m₀) (N : News h₀ env.locals s.heap news) (hj : J 0 m₀ news)
    (turn : ∀ i v m₁ news₁ h tk own, vs[i]? = some v → news₁.map (·.1) = news.map (·.1) → OwnOff own (news.map (·.1)) → J i m₁ news₁ → Fr h₀ env.locals h (fun y => if y = x then some v else m₁ y) → News h₀ env.locals h (news₁ ++ own) →
      wpAny (model prog w) A (execs body env) (InvPostN h₀ env.locals (J (i + 1)) own (news.map (·.1)) { s with heap := h, toks := tk } Q) E { s with heap := h, toks := tk })
    (done : ∀ m₁ news₁ h tk, J vs.length m₁ news₁ → Fr h₀ env.locals h m₁ → News h₀ env.locals h news₁ → Q .next { s with heap := h, toks := tk }) :
    wpAny (model prog w) A (pyIter (.ref l)) (fun it s₂ => LoopAtV prog w A h₀ env x body Q E it s₂) E s := by
  obtain ⟨ol, hol, _⟩ := id hl
  have hlt : l < s.heap.objs.size := Heap.lt_size hol
  have hne : l ≠ s.heap.objs.size := Nat.ne_of_lt hlt
  refine wpAny_pyIter_list hl ?_
  have W := Walks.list (prog := prog) (w := w) hh s.heap.objs.size l hne vs.toArray
  have hlen : vs.toArray.size = vs.length := by simp
  rw [hlen] at W
  let J' : Nat → (Str → Option Value) → List (Addr × Obj) → Prop := fun i m₁ news₁ => news₁.map (·.1) = news.map (·.1) ∧ J i m₁ news₁
  refine ⟨_, _, _, vs.length, _, _, m₀, news, J', rfl, W, ?_, ?_, ?_, ⟨⟨_, Heap.get?_push_size _ rfl, rfl, rfl⟩, hl.at fun o e => Heap.get?_push_of_some _ e⟩, F.push _, (fun p hp => ⟨Heap.get?_push_of_some _ (N p hp).1, (N p hp).2⟩), ⟨rfl, hj⟩, ?_, ?_⟩
  · intro hm
    rcases List.mem_cons.mp hm with e | hm
    · exact absurd F.ns.lt (e ▸ Nat.lt_irrefl _)
    · exact hlL (List.mem_singleton.mp hm).symm
  · intro b hb
    rw [List.mem_singleton.mp hb]
    exact next_is_new F
  · intro p hp hI
    exact absurd (Heap.lt_size (N p hp).1) ((List.mem_singleton.mp hI) ▸ Nat.lt_irrefl _)
  · rintro i v m₁ news₁ s₁ own ⟨hh', tk', rfl⟩ hin hP ⟨hadr, hJ⟩ hoff hown _ _ _ F₁ N₁
    have hsep : OwnOff own (news.map (·.1)) := by
      intro p hp b hb e
      rcases List.mem_cons.mp (hown p hp) with h1 | h1
      · obtain ⟨q, hq, rfl⟩ := List.mem_map.mp hb
        exact absurd (Heap.lt_size (N q hq).1) (by rw [← e, h1]; exact Nat.lt_irrefl _)
      · have h2 := List.mem_singleton.mp h1
        exact hln (by rw [← h2, e]; exact hb)
    have hP' : vs[i]? = some v := by simpa using hP
    have N₂ : News h₀ env.locals hh' (news₁ ++ own) := fun p hp => N₁ p ((List.mem_append.mp hp).elim (fun h => List.mem_append.mpr (.inr h)) fun h => List.mem_append.mpr (.inl h))
    refine wpAny_mono (turn i v m₁ news₁ hh' tk' own hP' hadr hsep hJ F₁ N₂) (fun f s₂ p => ?_) fun _ _ e => e
    have fin : InvEndN h₀ env.locals (J (i + 1)) own (news.map (·.1)) { s with heap := hh', toks := tk' } s₂ → LoopStepU h₀ env.locals [s.heap.objs.size] own (J' (i + 1)) { s with heap := hh', toks := tk' } .next s₂ := by
      rintro ⟨h', tk, m', news', nx, e, F', N', hn, ho, ha, hm⟩
      refine ⟨rfl, h', tk, m', nx, e, F', fun p hp => N' p ((List.mem_append.mp hp).elim (ho p) (hn p)), fun p hp hq => ?_, ha, hm⟩
      have h1 : p.1 ∈ nx.map (·.1) := List.mem_map.mpr ⟨p, hp, rfl⟩
      rw [ha, ← hadr] at h1
      obtain ⟨q, hq1, hq2⟩ := List.mem_map.mp h1
      exact hoff q hq1 (by rw [hq2]; exact hq)
    cases f with
    | ret v => exact .ret p
    | brk => exact .brk p
    | next => exact .next (fin p)
    | cont => exact .cont (fin p)
  · rintro h' tk m' news' F' N' _ ⟨_, hm⟩
    exact done m' news' h' tk hm F' N'
/-- the same, where the loop's own name alone is stored -/
theorem iter_W {l : Addr} {vs : List Value} {m₀ : Str → Option Value} {news : Led} (JJ : Nat → Led → Prop)
    (hh : A.handled = none) (hl : s.heap.IsList l vs.toArray) (hlL : l ≠ env.locals) (hln : l ∉ news.map (·.1)) (F : Fr h₀ env.locals s.heap m₀) (N : News h₀ env.locals s.heap news) (hj : JJ 0 news)
    (turn : ∀ i v news₁ h tk own, vs[i]? = some v → news₁.map (·.1) = news.map (·.1) → OwnOff own (news.map (·.1)) → JJ i news₁ → Fr h₀ env.locals h (fun y => if y = x then some v else m₀ y) → News h₀ env.locals h (news₁ ++ own) →
      wpAny (model prog w) A (execs body env) (InvPostN h₀ env.locals (fun m' nx => JJ (i + 1) nx ∧ ∀ z, z ≠ x → m' z = m₀ z) own (news.map (·.1)) { s with heap := h, toks := tk } Q) E { s with heap := h, toks := tk })
    (done : ∀ (u : Str → Option Value) news₁ h tk, JJ vs.length news₁ → Fr h₀ env.locals h (fun z => if z = x then u z else m₀ z) → News h₀ env.locals h news₁ → Q .next { s with heap := h, toks := tk }) :
    wpAny (model prog w) A (pyIter (.ref l)) (fun it s₂ => LoopAtV prog w A h₀ env x body Q E it s₂) E s := by
  refine iter_V (fun i m nx => JJ i nx ∧ ∀ z, z ≠ x → m z = m₀ z) hh hl hlL hln F N ⟨hj, fun _ _ => rfl⟩ ?_ ?_
  · rintro i v m₁ news₁ h tk own hv ha ho ⟨hJ, hm⟩ F₁ N₁
    have e : (fun z => if z = x then some v else m₁ z) = fun z => if z = x then some v else m₀ z := by
      funext z
      by_cases h1 : z = x
      · simp [h1]
      · simp only [if_neg h1]; exact hm z h1
    rw [e] at F₁
    exact turn i v news₁ h tk own hv ha ho hJ F₁ N₁
  · rintro m₁ news₁ h tk ⟨hJ, hm⟩ F₁ N₁
    refine done m₁ news₁ h tk hJ ?_ N₁
    have e : (fun z => if z = x then m₁ z else m₀ z) = m₁ := by
      funext z
      by_cases h1 : z = x
      · simp [h1]
      · simp only [if_neg h1]; exact (hm z h1).symm
    rw [e]; exact F₁
end
end Mine
end
section
open PySem PySem.W PySem.W.X PySem.Spec PySem.Calls PyProof.Rows
set_option maxRecDepth 100000
set_option maxHeartbeats 8000000
namespace Mine
noncomputable def stepC (acc : List Str) (c : Str) : List Str := if c = Str.ofString "" ∨ c = Str.ofString "." then acc else if c = Str.ofString ".." then acc.dropLast else acc ++ [c]
theorem take_step {cs : List Str} {i : Nat} {c : Str} (h : cs[i]? = some c) : (cs.take (i + 1)).foldl stepC [] = stepC ((cs.take i).foldl stepC []) c := by
  rw [List.take_add_one, h]; simp
theorem strValues_at {l : List (Str × Tok)} {i : Nat} {v : Value} (h : (strValues l)[i]? = some v) : ∃ c t, v = .str c t ∧ (l.map (·.1))[i]? = some c := by
  unfold strValues at h
  rw [List.getElem?_map] at h
  cases e : l[i]? with
  | none => rw [e] at h; cases h
  | some p => rw [e] at h; cases h; exact ⟨p.1, p.2, rfl, by rw [List.getElem?_map, e]; rfl⟩
theorem strValues_push (l : List (Str × Tok)) (c : Str) (t : Tok) : (strValues l).toArray.push (.str c t) = (strValues (l ++ [(c, t)])).toArray := by simp [strValues]
noncomputable def GoodA (cs : List Str) (i : Nat) (arr : Array Value) : Prop := ∃ l : List (Str × Tok), arr = (strValues l).toArray ∧ l.map (·.1) = (cs.take i).foldl stepC []
theorem InvEndN_one {h₀ : Heap} {L : Addr} {J : (Str → Option Value) → Led → Prop} {m' : Str → Option Value} {own rest : Led} {a : Addr} {o : Obj} {s₁ : Shared} {h' : Heap} {tk : Nat} (F : Fr h₀ L h' m') (N : News h₀ L h' ((a, o) :: rest))
    (hj : J m' [(a, o)]) (ho : ∀ p ∈ own, p ∈ (a, o) :: rest) : InvEndN h₀ L J own [a] s₁ { s₁ with heap := h', toks := tk } :=
  InvEndN.intro F N hj rfl (fun p hp => (List.mem_singleton.mp hp) ▸ .head _) ho
theorem stepC_len (acc : List Str) (c : Str) : (stepC acc c).length ≤ acc.length + 1 := by
  unfold stepC
  split
  · omega
  · split
    · simp; omega
    · simp
theorem foldC_len : ∀ (cs acc : List Str), (cs.foldl stepC acc).length ≤ acc.length + cs.length
  | [], acc => by simp
  | c :: cs, acc => by
    have h1 := foldC_len cs (stepC acc c)
    have h2 := stepC_len acc c
    simp only [List.foldl_cons, List.length_cons]
    omega
theorem len_pos {c : Str} (h : ¬ c = Str.ofString "") : 1 ≤ c.length := by
  rcases Nat.eq_zero_or_pos c.length with e | e
  · exfalso
    apply h
    cases c with
    | mk a =>
      have : a = #[] := Array.eq_empty_of_size_eq_zero e
      subst this
      rfl
  · exact e
end Mine
end
local macro_rules | `(tactic| walk_at "call builtin:str.join") => `(tactic| (k_here; (with_reducible show wpAny _ _ (call (Value.builtin "str.join") [Value.str _ _, Value.ref _]) _ _ _); (refine SC.join (News.isList (by assumption) (by k_mem)) (by assumption) (by assumption) ?_); intro _ _))
section
open PySem PySem.W PySem.W.X PySem.Spec PySem.Calls PyProof.Rows
set_option maxRecDepth 100000
set_option maxHeartbeats 8000000
namespace Mine
set_option hygiene false in
local macro_rules | `(tactic| walk_at "call ref") => `(tactic| (k_here; (with_reducible show wpAny _ _ (call (Value.ref 138) [Value.str _ _]) _ _ _); k_dflt (refine' Cl.use (splitroot_ok _ _ (by assumption) (by assumption) (by assumption) (by assumption)) ?B ?F ?X ?N ?T ?hk ?h1 ?h2 trivial ?_; walk_at "useB"); rintro r' tl' h' tk' ⟨D', t1', t2', t3', rr', tt'⟩ F' N' l1 kp'; subst rr'; subst tt'; (try dsimp only); (try dsimp only [List.nil_append, List.cons_append] at N')))
local macro_rules | `(tactic| walk_at "InvEndN") => `(tactic| (refine InvEndN_one (by assumption) (by assumption) ⟨⟨_, _, rfl, by assumption⟩, fun z hz => if_neg hz⟩ (fun p hp => List.Mem.tail _ hp)))
theorem normpath_ok (x : Str) (t : Tok) (hx1 : 1 ≤ x.length) (hx : x.length ≤ 100) (h1 : (Txt.slice x none (some 1) != Str.ofString "/") = false) (h2 : (Txt.slice x (some 1) (some 2) != Str.ofString "/") = true)
   (cs : List Str) (hcs : Txt.split (Txt.slice x (some 1) none) (Str.ofString "/") = cs) (hlen : ∀ c ∈ cs, c.length ≤ 100) (hdd : ∀ i : Nat, cs[i]? = some (Str.ofString "..") → ∃ y, (y == Str.ofString "..") = false ∧ (cs.take i).foldl stepC [] = [y])
   (hcl : cs.length ≤ 100) (hjo : JoinOk (Str.ofString "/") (cs.foldl stepC []) = true) (hj1 : 1 ≤ (Str.ofString "/" ++ Txt.join (Str.ofString "/") (cs.foldl stepC [])).length) (hj2 : (Str.ofString "/" ++ Txt.join (Str.ofString "/") (cs.foldl stepC [])).length ≤ 100)
   : Cl 470 2800 145 [.str x t] (fun _ => True) (fun _ r tl => ∃ t', r = .str (Str.ofString "/" ++ Txt.join (Str.ofString "/") (cs.foldl stepC [])) t' ∧ tl = []) := by
  unfold Cl; intros; rename_i hret
  refine wpAny_call ?_
  k_dflt (refine' enter_S (binds := [(Str.ofString "path", .str x t)]) ?k1 ?k2 ?k3 ?k5 ?kA ?kF ?kK ?k6 ?k7 ?k8 ?k9 ?kB ?_ ?c2 ?c3 ?c4 ?c5; (case kA => exact rfl); (case kF => exact rfl); (case kK => assumption); (case k1 => k_asm); (case k2 => k_asm); (case k3 => k_asm); (case k5 => k_asm); (case k6 => k_is); (case k7 => k_is); (case k8 => ktr_room); (case k9 => exact BindsTo.of_eq rfl); (case c5 => decide); (case kB => exact locs rfl); (case c2 => exact rfl); (case c3 => exact rfl); (case c4 => exact rfl); k_whole; intro L' h' F' N' B' X' T'; (try dsimp only); (try k_lift B'); (try k_fold))
  k_steps
  rename_i l _ _ hl2 hl3 hl4 hl5 _ lc _ lt1 _ F1 N1
  rw [hcs] at hl2
  refine iter_W (vs := strValues l) (news := [(lc, W.listOf #[] 0)]) (fun i nx => ∃ arr n', nx = [(lc, W.listOf arr n')] ∧ GoodA cs i arr) rfl (by is_list) ((N1 _ (.tail _ (.head _))).2.1) (fun h => absurd (List.mem_singleton.mp h) (Nat.ne_of_lt lt1.1)) F1 (cb_drop N1 (fun p hp => (List.mem_singleton.mp hp) ▸ .head _)) ⟨#[], 0, rfl, [], rfl, rfl⟩ ?turn ?done
  case turn =>
    clear N1 F1
    rintro i v news₁ h tk own hv ha ho ⟨arr, n', rfl, l', rfl, hl'⟩ F2 N2
    obtain ⟨c, tc, rfl, hc⟩ := strValues_at hv
    rw [hl2] at hc
    have hcl0 := hlen c (List.mem_of_getElem? hc)
    have ht := take_step hc
    have hoff := ho.ne (.head _)
    dsimp only [List.cons_append, List.nil_append] at N2
    have hsz : (strValues l').toArray.size ≤ sizeLine := by
      have e1 : l'.length = ((cs.take i).foldl stepC []).length := by rw [← hl', List.length_map]
      have e2 := foldC_len (cs.take i) []
      have e3 : (cs.take i).length ≤ cs.length := by rw [List.length_take]; omega
      have e4 : (strValues l').toArray.size = l'.length := by simp [strValues]
      simp only [List.length_nil] at e2
      rw [e4, sizeLine_eq]; omega
    by_cases c1 : c = Str.ofString ""
    · subst c1
      have hS : GoodA cs (i + 1) (strValues l').toArray := ⟨l', rfl, by rw [ht, hl']; exact (if_pos (.inl rfl)).symm⟩
      k_steps
    · by_cases c2 : c = Str.ofString "."
      · subst c2
        have hS : GoodA cs (i + 1) (strValues l').toArray := ⟨l', rfl, by rw [ht, hl']; exact (if_pos (.inr rfl)).symm⟩
        k_steps
      · by_cases c3 : c = Str.ofString ".."
        · subst c3
          obtain ⟨y, hy, he⟩ := hdd i hc
          have hS : GoodA cs (i + 1) #[] := ⟨[], rfl, by rw [ht, he]; rfl⟩
          rw [he] at hl'
          obtain ⟨ty, rfl⟩ : ∃ ty, l' = [(y, ty)] := by
            cases l' with
            | nil => cases hl'
            | cons p r => cases r with
              | nil => simp at hl'; exact ⟨p.2, by rw [← hl']⟩
              | cons q r => simp at hl'
          simp only [strValues, List.map] at N2
          k_steps
        · have hS : GoodA cs (i + 1) ((strValues l').toArray.push (.str c tc)) := ⟨l' ++ [(c, tc)], strValues_push .., by rw [ht, ← hl']; simp [stepC, c1, c2, c3]⟩
          have hlp : 1 ≤ c.length := len_pos c1
          have e1 : (c == Str.ofString ".") = false := by simpa using c2
          have e2 : (c != Str.ofString "..") = true := by simpa using c3
          k_steps
  case done =>
    rintro u news₁ h tk ⟨arr, n', rfl, l', rfl, hl'⟩ F2 N2
    have hl2' : (strValues l).length = cs.length := by rw [← hl2]; simp [strValues]
    rw [hl2', List.take_length] at hl'
    have hj3 : (Str.ofString "/").length + (Txt.join (Str.ofString "/") (cs.foldl stepC [])).length ≤ sizeLine := by rw [← Str.length_append, sizeLine_eq]; omega
    k_steps
    all_goals exact hret _ [] _ _ ⟨_, rfl, rfl⟩ (Fr.keep (by assumption)) (fun _ h => nomatch h)
end Mine
end
section
open PySem PySem.W PySem.W.X PySem.Spec PySem.Calls PyProof.Rows
set_option maxRecDepth 100000
set_option maxHeartbeats 8000000
namespace Mine
theorem ifmt_ok (m : Int) (t : Tok) : Cl 500 3000 152 [.int m t] (fun _ => True) (fun _ r tl => (∃ t', r = .int (Builtin.bitAnd m 61440) t') ∧ tl = []) := by
  unfold Cl; intros; rename_i hret
  refine wpAny_call ?_
  k_dflt (refine' enter_S (binds := [(Str.ofString "mode", .int m t)]) ?k1 ?k2 ?k3 ?k5 ?kA ?kF ?kK ?k6 ?k7 ?k8 ?k9 ?kB ?_ ?c2 ?c3 ?c4 ?c5; (case kA => exact rfl); (case kF => exact rfl); (case kK => assumption); (case k1 => k_asm); (case k2 => k_asm); (case k3 => k_asm); (case k5 => k_asm); (case k6 => k_is); (case k7 => k_is); (case k8 => ktr_room); (case k9 => exact BindsTo.of_eq rfl); (case c5 => decide); (case kB => exact locs rfl); (case c2 => exact rfl); (case c3 => exact rfl); (case c4 => exact rfl); k_whole; intro L' h' F' N' B' X' T'; (try dsimp only); (try k_lift B'); (try k_fold))
  k_steps
  all_goals exact hret _ [] _ _ ⟨⟨_, rfl⟩, rfl⟩ (Fr.keep (by assumption)) (fun _ h => nomatch h)
end Mine
end
set_option hygiene false in
local macro_rules | `(tactic| walk_at "call ref") => `(tactic| (k_here; (with_reducible show wpAny _ _ (call (Value.ref 152) [Value.int _ _]) _ _ _); k_dflt (refine' Cl.use (ifmt_ok _ _) ?B ?F ?X ?N ?T ?hk ?h1 ?h2 trivial ?_; walk_at "useB"); walk_at "useC"))
section
open PySem PySem.W PySem.W.X PySem.Spec PySem.Calls PyProof.Rows
set_option maxRecDepth 100000
set_option maxHeartbeats 8000000
namespace Mine
theorem isreg_ok (m : Int) (t : Tok) : Cl 490 2950 159 [.int m t] (fun _ => True) (fun _ r tl => r = .bool (Builtin.bitAnd m 61440 == 32768) ∧ tl = []) := by
  unfold Cl; intros; rename_i hret
  refine wpAny_call ?_
  k_dflt (refine' enter_S (binds := [(Str.ofString "mode", .int m t)]) ?k1 ?k2 ?k3 ?k5 ?kA ?kF ?kK ?k6 ?k7 ?k8 ?k9 ?kB ?_ ?c2 ?c3 ?c4 ?c5; (case kA => exact rfl); (case kF => exact rfl); (case kK => assumption); (case k1 => k_asm); (case k2 => k_asm); (case k3 => k_asm); (case k5 => k_asm); (case k6 => k_is); (case k7 => k_is); (case k8 => ktr_room); (case k9 => exact BindsTo.of_eq rfl); (case c5 => decide); (case kB => exact locs rfl); (case c2 => exact rfl); (case c3 => exact rfl); (case c4 => exact rfl); k_whole; intro L' h' F' N' B' X' T'; (try dsimp only); (try k_lift B'); (try k_fold))
  k_steps
  all_goals exact hret _ [] _ _ ⟨rfl, rfl⟩ (Fr.keep (by assumption)) (fun _ h => nomatch h)
end Mine
end
section
open PySem PySem.W PySem.W.X PySem.Spec PySem.Calls PyProof.Rows PyProof.Rows.LCg
set_option maxRecDepth 100000
namespace Mine
/-- what a test or an element of a comprehension leaves -/
noncomputable def Aft (s : Shared) (h₀ : Heap) (L : Addr) (m : Str → Option Value) (news : Led) (s' : Shared) : Prop := ∃ h' tk', s' = { s with heap := h', toks := tk' } ∧ Fr h₀ L h' m ∧ News h₀ L h' news
section
variable {prog : Program} {w : World} {A : Around} {E : Value → Shared → Prop} {s : Shared} {env : Env} {h₀ : Heap} {L : Addr} {m : Str → Option Value}
/-- a list comprehension over a list of pairs of the base, with one test; nothing of the ledger is changed; what is done at its end stands open -/
theorem comp_core {elt iter c : Expr} {a b : Str} {pa pb tp : Pos} {kk : Nat} {scope : Scope} {cl : List (Str × Addr)} {pos : Pos} {R : Value → Addr → Result → Shared → Prop} {ax : Addr} {items : List (Addr × Value × Value)} {news : Led} (p : Addr × Value × Value → Bool) (f : Addr × Value × Value → Value)
    (hcell : ∀ y ∈ scope.names, y.2 ≠ .cell) (hkind : scope.kind = .function)
    (ha : scope.names.lookup a = some .local) (hb : scope.names.lookup b = some .local) (hab : a ≠ b) (hh : A.handled = none)
    (hl : h₀.IsList ax (items.map fun q => Value.ref q.1).toArray) (hsz : items.length ≤ sizeLine) (htup : ∀ q ∈ items, h₀.IsTuple q.1 #[q.2.1, q.2.2])
    (F : Fr h₀ L s.heap m) (N : News h₀ L s.heap news)
    (test : ∀ q ∈ items, ∀ I oI C oC D oD m₂ h tk (E' : Value → Shared → Prop), NsObj oC m₂ → m₂ a = some q.2.1 → m₂ b = some q.2.2 → Fr h₀ L h m → News h₀ L h ((I, oI) :: (C, oC) :: (D, oD) :: news) →
      wpAny (model prog w) A (isTrue c (compEnvC scope cl C env) (eval c (compEnvC scope cl C env))) (fun ok s' => ok = p q ∧ Aft s h₀ L m ((I, oI) :: (C, oC) :: (D, oD) :: news) s') E' { s with heap := h, toks := tk })
    (elem : ∀ q ∈ items, p q = true → ∀ I oI C oC D oD m₂ h tk (E' : Value → Shared → Prop), NsObj oC m₂ → m₂ a = some q.2.1 → m₂ b = some q.2.2 → Fr h₀ L h m → News h₀ L h ((I, oI) :: (C, oC) :: (D, oD) :: news) →
      wpAny (model prog w) A (eval elt (compEnvC scope cl C env)) (fun v s' => v = f q ∧ Aft s h₀ L m ((I, oI) :: (C, oC) :: (D, oD) :: news) s') E' { s with heap := h, toks := tk })
    (hend : ∀ D C h tk m', L < C → h₀.get? C = none → (∀ r ∈ (D, lst ((items.filter p).map f)) :: news, r.1 ≠ C) → Fr h₀ L h m → News h₀ L h ((D, lst ((items.filter p).map f)) :: news) → h.Ns C m' → (∀ r ∈ news, r.1 ≠ D) → R (.ref D) C (.ok .next) { s with heap := h, toks := tk }) :
    wpAny (model prog w) A (pyIter (.ref ax)) (fun it s₂ => wpAny (model prog w) A (newList []) (fun acc s₃ => wpAny (model prog w) A (newFunctionEnv scope env.globals cl [] env.qual none .none (some env)) (fun cenv s₄ =>
      codeAny (model prog w) A (.compStart (.ListComp elt [⟨.Tuple [.Name a pa, .Name b pb] kk tp, iter, [c], 0⟩] scope pos) 0 it acc { cenv with scope := relabel scope env }) (R acc cenv.locals) s₄) E s₃) E s₂) E s := by
  have hl1 : s.heap.IsList ax (items.map fun q => Value.ref q.1).toArray := hl.at fun o e => F.keep _ o e
  refine wpAny_pyIter_list hl1 ?_
  generalize hH1 : s.heap.push { cls := .type "list_iterator", data := .fields #[.ref ax, .int 0 0] } = H1
  have z1 : H1.objs.size = s.heap.objs.size + 1 := by rw [← hH1, Heap.size_push]
  have k1 : Keeps s.heap H1 := fun b o e => hH1 ▸ Heap.get?_push_of_some _ e
  refine wpAny_newObj_type (wpAny_newFunctionEnv hcell (by intro y hy; simp at hy) (fun h₁ hns₁ hsb₁ => ?_) hkind)
  dsimp only at hns₁ hsb₁ ⊢
  generalize hH2 : H1.push { cls := .type "list", dict := none, data := .seq ([] : List Value).toArray } = H2 at hns₁ hsb₁ ⊢
  have z2 : H2.objs.size = s.heap.objs.size + 2 := by rw [← hH2, Heap.size_push, z1]
  have k2 : Keeps H1 H2 := fun b o e => hH2 ▸ Heap.get?_push_of_some _ e
  have k3 : Keeps H2 h₁ := fun b o e => hsb₁.extBut b o (Nat.ne_of_lt (Heap.lt_size e)) (Heap.get?_push_of_some _ e)
  -- the three new addresses
  generalize hI : s.heap.objs.size = I at *
  generalize hD : H1.objs.size = D at *
  generalize hC : H2.objs.size = C at *
  have hold : ∀ b o, s.heap.get? b = some o → b < I := fun b o e => hI ▸ Heap.lt_size e
  have fr0 : ∀ b, I ≤ b → h₀.get? b = none := fun b hb => by
    cases e : h₀.get? b with
    | none => rfl
    | some o => exact absurd (hold b o (F.keep b o e)) (Nat.not_lt.mpr hb)
  have hLI : L < I := hI ▸ F.ns.lt
  have itI : h₁.IsListIter I ax 0 := ⟨_, k3 _ _ (k2 _ _ (hH1 ▸ hI ▸ Heap.get?_push_size _ rfl)), rfl, rfl⟩
  have acD : h₁.get? D = some (lst []) := k3 _ _ (hH2 ▸ hD ▸ Heap.get?_push_size _ rfl)
  have F₁ : Fr h₀ L h₁ m := F.kept (k1.trans (k2.trans k3))
  have hID : I < D := by rw [z1]; exact Nat.lt_succ_self I
  have hIC : I < C := by rw [z2]; exact Nat.lt_succ_of_lt (Nat.lt_succ_self I)
  have hDC : D < C := by rw [z2, z1]; exact Nat.lt_succ_self (I + 1)
  have hLD : L < D := Nat.lt_trans hLI hID
  have hLC : L < C := Nat.lt_trans hLI hIC
  have hND : ∀ r ∈ news, r.1 < I := fun r hr => hold _ _ (N r hr).1
  have loop : ∀ s₃ : Shared, s₃ = { s with heap := h₁, toks := s.toks + ([] : List (Str × Value)).length } →
      codeAny (model prog w) A (.compLoop (.ListComp elt [⟨.Tuple [.Name a pa, .Name b pb] kk tp, iter, [c], 0⟩] scope pos) 0 (.ref I) (.ref D) (compEnvC scope cl C env))
        (R (.ref D) C) s₃ := by
    rintro s₃ rfl
    refine kct_loop
      (fun k s' => ∃ h' tk i m', s' = { s with heap := h', toks := tk } ∧ i ≤ items.length ∧ k = items.length + 1 - i ∧ h'.IsListIter I ax i ∧ Fr h₀ L h' m ∧ h'.Ns C m' ∧ News h₀ L h' ((D, lst (((items.take i).filter p).map f)) :: news)) ?_ (items.length + 1)
      ⟨h₁, _, 0, _, rfl, Nat.zero_le _, rfl, itI, F₁, hns₁, fun r hr => ?_⟩
    · rintro k s' ⟨h', tk, i, m', rfl, hi, rfl, hit, F', hn', N'⟩
      have hl' : h'.IsList ax (items.map fun q => Value.ref q.1).toArray := hl.at fun o e => F'.keep _ o e
      have off : ∀ r ∈ (D, lst (((items.take i).filter p).map f)) :: news, r.1 ≠ I ∧ r.1 ≠ C := fun r hr => by
        rcases List.mem_cons.mp hr with rfl | hr
        · exact ⟨Nat.ne_of_gt hID, Nat.ne_of_lt hDC⟩
        · exact ⟨Nat.ne_of_lt (hND r hr), Nat.ne_of_lt (Nat.lt_trans (hND r hr) hIC)⟩
      cases hq : items[i]? with
      | none =>
        have hin : i = items.length := Nat.le_antisymm hi (List.getElem?_eq_none_iff.mp hq)
        refine wpAny_pyNext_list_end hh hit hl' (by simp [hq]) fun h₂ he => ?_
        have F₂ : Fr h₀ L h₂ m := ⟨F'.ns.at' fun o e => he _ o (Nat.ne_of_lt hLI) e, fun b o e => he b o (fun q => by rw [q, fr0 I (Nat.le_refl _)] at e; cases e) (F'.keep b o e), F'.above⟩
        rw [hin, List.take_length] at N' off
        exact hend D C h₂ tk m' hLC (fr0 C (Nat.le_of_lt hIC)) (fun r hr => (off r hr).2) F₂ (fun r hr => ⟨he _ _ (off r hr).1 (N' r hr).1, (N' r hr).2⟩) (hn'.at' fun o e => he _ o (Nat.ne_of_gt hIC) e) fun r hr => Nat.ne_of_lt (Nat.lt_trans (hND r hr) hID)
      | some q =>
        have hmem := List.mem_of_getElem? hq
        have hlt : i < items.length := (List.getElem?_eq_some_iff.mp hq).1
        refine wpAny_pyNext_list_item hit hl' (x := .ref q.1) (by simp [hq]) fun h₂ hit₂ hs₂ => ?_
        have F₂ : Fr h₀ L h₂ m := F'.change hs₂ (Nat.ne_of_gt hLI) (fr0 I (Nat.le_refl _))
        have N₂ : News h₀ L h₂ ((D, lst (((items.take i).filter p).map f)) :: news) := fun r hr => ⟨hs₂.extBut _ _ (off r hr).1 (N' r hr).1, (N' r hr).2⟩
        have hn₂ : h₂.Ns C m' := hn'.at' fun o e => hs₂.extBut _ o (Nat.ne_of_gt hIC) e
        refine wpAny_letOwnedTupleGo_listiter hit₂ ?_
        refine kcp_assign hh ((htup q hmem).at fun o e => F₂.keep _ o e) (lookup_relabel_local ha) (lookup_relabel_local hb) (by simp [compEnvC, relabel, hkind]) hn₂ fun h₃ tk₃ hn₃ hk₃ => ?_
        obtain ⟨oI, heI⟩ : ∃ o, h₂.get? I = some o := by obtain ⟨o, e, _⟩ := hit₂; exact ⟨o, e⟩
        have heI3 := hk₃ I oI (Nat.ne_of_lt hIC) heI
        have hit₃ : h₃.IsListIter I ax (i + 1) := hit₂.at fun o e => hk₃ I o (Nat.ne_of_lt hIC) e
        obtain ⟨oC, heC, hoC⟩ := ns_obj hn₃
        have F₃ : Fr h₀ L h₃ m := ⟨F₂.ns.at' fun o e => hk₃ _ o (Nat.ne_of_lt hLC) e, fun b o e => hk₃ b o (fun q => by have q' : b = C := q; rw [q', fr0 C (Nat.le_of_lt hIC)] at e; cases e) (F₂.keep b o e), F₂.above⟩
        have N₃ : News h₀ L h₃ ((I, oI) :: (C, oC) :: (D, lst (((items.take i).filter p).map f)) :: news) := fun r hr => by
          rcases List.mem_cons.mp hr with rfl | hr
          · exact ⟨heI3, Nat.ne_of_gt hLI, fr0 I (Nat.le_refl _)⟩
          · rcases List.mem_cons.mp hr with rfl | hr
            · exact ⟨heC, Nat.ne_of_gt hLC, fr0 C (Nat.le_of_lt hIC)⟩
            · exact ⟨hk₃ _ _ (off r hr).2 (N₂ r hr).1, (N₂ r hr).2⟩
        have ma : (fun z => if z = b then some q.2.2 else if z = a then some q.2.1 else m' z) a = some q.2.1 := by simp [hab]
        have mb' : (fun z => if z = b then some q.2.2 else if z = a then some q.2.1 else m' z) b = some q.2.2 := by simp
        have tk1 : items.take (i + 1) = items.take i ++ [q] := by rw [List.take_add_one, hq]; rfl
        refine wpAny_mono (test q hmem I oI C oC D _ _ h₃ tk₃ _ hoC ma mb' F₃ N₃) (fun ok s₄ h₄ => ?_) fun _ _ e => e
        obtain ⟨rfl, h₄', tk₄, rfl, F₄, N₄⟩ := h₄
        have again : ∀ {h₅ : Heap} {oD : Obj}, News h₀ L h₅ ((I, oI) :: (C, oC) :: (D, oD) :: news) → h₅.IsListIter I ax (i + 1) ∧ h₅.Ns C _ := fun {h₅ oD} N₅ =>
          ⟨hit₃.at fun o e => (Option.some.inj (heI3.symm.trans e)) ▸ (N₅ _ (.head _)).1, hoC.ns (N₅ _ (.tail _ (.head _))).1⟩
        cases hp : p q with
        | false =>
          simp only [Bool.false_eq_true, if_false]
          obtain ⟨e1, e2⟩ := again N₄
          refine ⟨items.length + 1 - (i + 1), by omega, h₄', tk₄, i + 1, _, rfl, hlt, rfl, e1, F₄, e2, ?_⟩
          have e3 : ((items.take (i + 1)).filter p).map f = ((items.take i).filter p).map f := by rw [tk1]; simp [hp]
          rw [e3]
          exact fun r hr => N₄ r (.tail _ (.tail _ hr))
        | true =>
          simp only [if_true]
          refine wpAny_mono (elem q hmem hp I oI C oC D _ _ h₄' tk₄ _ hoC ma mb' F₄ N₄) (fun v s₅ h₅ => ?_) fun _ _ e => e
          obtain ⟨rfl, h₅', tk₅, rfl, F₅, N₅⟩ := h₅
          have hlen : (((items.take i).filter p).map f).length ≤ items.length := by
            rw [List.length_map]
            exact Nat.le_trans (List.length_filter_le _ _) (by rw [List.length_take]; omega)
          refine append_at (hsz := by show (((items.take i).filter p).map f).toArray.size ≤ sizeLine; rw [List.size_toArray]; exact Nat.le_trans hlen hsz) (N₅ _ (.tail _ (.tail _ (.head _)))).1 fun h₆ hs₆ hD₆ => ?_
          obtain ⟨e1, e2⟩ := again N₅
          refine ⟨items.length + 1 - (i + 1), by omega, h₆, tk₅, i + 1, _, rfl, hlt, rfl, e1.at fun o e => hs₆.extBut _ o (Nat.ne_of_lt hID) e, F₅.change hs₆ (Nat.ne_of_gt hLD) (fr0 D (Nat.le_of_lt hID)), e2.sameBut hs₆ (Nat.ne_of_gt hDC), ?_⟩
          have e3 : ((items.take (i + 1)).filter p).map f = ((items.take i).filter p).map f ++ [f q] := by rw [tk1]; simp [hp]
          rw [e3]
          intro r hr
          rcases List.mem_cons.mp hr with rfl | hr
          · exact ⟨hD₆.trans (congrArg some (lst_snoc _ _)), Nat.ne_of_gt hLD, fr0 D (Nat.le_of_lt hID)⟩
          · have z := N₅ r (.tail _ (.tail _ (.tail _ hr)))
            exact ⟨hs₆.extBut _ _ (Nat.ne_of_lt (Nat.lt_trans (hND r hr) hID)) z.1, z.2⟩
    · rcases List.mem_cons.mp hr with rfl | hr
      · exact ⟨acD, Nat.ne_of_gt hLD, fr0 _ (Nat.le_of_lt hID)⟩
      · exact ⟨k3 _ _ (k2 _ _ (k1 _ _ (N r hr).1)), (N r hr).2⟩
  exact codeAny_compStart_list (loop _ rfl) (wpAny_pyIter_listiter itI (loop _ rfl))
/-- a list comprehension over a list of pairs of the base, with one test; nothing of the ledger is changed -/
theorem comp_pairs {elt iter c : Expr} {a b : Str} {pa pb tp : Pos} {kk : Nat} {scope : Scope} {cl : List (Str × Addr)} {pos : Pos} {Q : Value → Shared → Prop} {ax : Addr} {items : List (Addr × Value × Value)} {news : Led} (p : Addr × Value × Value → Bool) (f : Addr × Value × Value → Value)
    (hclos : closureFor scope env = pure cl) (hcell : ∀ y ∈ scope.names, y.2 ≠ .cell) (hkind : scope.kind = .function)
    (hnames : ∀ y ∈ scope.names, y.2 = .local → scope.names.lookup y.1 = some .local) (ha : scope.names.lookup a = some .local) (hb : scope.names.lookup b = some .local) (hab : a ≠ b) (hh : A.handled = none)
    (hl : h₀.IsList ax (items.map fun q => Value.ref q.1).toArray) (hsz : items.length ≤ sizeLine) (htup : ∀ q ∈ items, h₀.IsTuple q.1 #[q.2.1, q.2.2])
    (F : Fr h₀ L s.heap m) (N : News h₀ L s.heap news)
    (hiter : ∀ K : Value → Shared → Prop, K (.ref ax) s → wpAny (model prog w) A (eval iter env) K E s)
    (test : ∀ q ∈ items, ∀ I oI C oC D oD m₂ h tk (E' : Value → Shared → Prop), NsObj oC m₂ → m₂ a = some q.2.1 → m₂ b = some q.2.2 → Fr h₀ L h m → News h₀ L h ((I, oI) :: (C, oC) :: (D, oD) :: news) →
      wpAny (model prog w) A (isTrue c (compEnvC scope cl C env) (eval c (compEnvC scope cl C env))) (fun ok s' => ok = p q ∧ Aft s h₀ L m ((I, oI) :: (C, oC) :: (D, oD) :: news) s') E' { s with heap := h, toks := tk })
    (elem : ∀ q ∈ items, p q = true → ∀ I oI C oC D oD m₂ h tk (E' : Value → Shared → Prop), NsObj oC m₂ → m₂ a = some q.2.1 → m₂ b = some q.2.2 → Fr h₀ L h m → News h₀ L h ((I, oI) :: (C, oC) :: (D, oD) :: news) →
      wpAny (model prog w) A (eval elt (compEnvC scope cl C env)) (fun v s' => v = f q ∧ Aft s h₀ L m ((I, oI) :: (C, oC) :: (D, oD) :: news) s') E' { s with heap := h, toks := tk })
    (done : ∀ D h tk, Fr h₀ L h m → News h₀ L h ((D, lst ((items.filter p).map f)) :: news) → (∀ r ∈ news, r.1 ≠ D) → Q (.ref D) { s with heap := h, toks := tk })
    (hs : ∀ x, foldedSetIterable iter env x = pure x := by intro _; rfl) :
    wpAny (model prog w) A (eval (.ListComp elt [⟨.Tuple [.Name a pa, .Name b pb] kk tp, iter, [c], 0⟩] scope pos) env) Q E s := by
  rw [eval_ListComp]
  exact wpAny_comprehension_free (use := none) rfl hs hclos hkind hnames (hiter _ (comp_core (R := fun acc C => compPost (model prog w) A E none Q acc C) p f hcell hkind ha hb hab hh hl hsz htup F N test elem fun D C h tk m' hLC hC off F₂ N₂ hn₂ hd =>
    ⟨m', hn₂, fun h'' hs'' => done D h'' tk (F₂.change hs'' (Nat.ne_of_gt hLC) hC) (fun r hr => ⟨hs''.extBut _ _ (off r hr) (N₂ r hr).1, (N₂ r hr).2⟩) hd⟩))
end
end Mine
end
section
open PySem PySem.W PySem.W.X PySem.Spec PySem.Calls PyProof.Rows
set_option maxRecDepth 100000
set_option maxHeartbeats 8000000
namespace Mine
section
variable {prog : Program} {w : World} {A A₀ : Around} {s : Shared} {K : Frag} {L : Addr} {h₀ base : Heap} {m mg mb : Str → Option Value} {p : Program} {loose : List Str} {mean : ExcName → Option Value}
theorem enter_C {env : Env} {outer : List Env} {R : Result → Shared → Prop} {name qual : Str} {params : Arguments} {body : List Stmt} {scope : Scope} {dV kV doc pm cdv ct oc : Value} {an od : Option Addr} {osl : Array (Option Value)} {f : Addr} {args : Args} {binds : List (Str × Value)}
    (B : Below A₀ base outer h₀) (F : Fr h₀ L s.heap m) (X₀ : K.In h₀) (T : Top p loose mean mg mb h₀) (hA : A.frames = some (env :: outer)) (hf : env.frame = some L) (hke : env.scope.kind = .function)
    (ho : K.lookup f = some ⟨oc, od, .func (fnOf name qual params body scope dV kV doc pm an cdv ct), osl⟩) (hcd : codeIn K cdv qual = true) (hroom : A.depth < recursionLimit)
    (hbind : BindsTo s (fnOf name qual params body scope dV kV doc pm an cdv ct) args binds)
    (hkind : ∀ n, ∀ x ∈ binds, scope.names.lookup x.1 = some .local ∨ (scope.names.lookup x.1 = some .cell ∧ ((cellsFrom n scope.names []).lookup x.1).isSome = true))
    (hnd : ((cellsFrom 0 scope.names []).map (·.1)).Nodup)
    (h : ∀ L' h₁ tk cells, Fr s.heap L' h₁ (bindL (envOfC qual scope L' f cdv).kindOf binds fun _ => none) → News s.heap L' h₁ cells →
      CellsAre (bindC (envOfC qual scope L' f cdv).kindOf binds fun _ => none) (cellsFrom (L' + 1) scope.names []) cells → Below A base (env :: outer) s.heap → K.In s.heap → Top p loose mean mg mb s.heap →
      wpAny (model prog w) (A.deeper (envOfC qual scope L' f cdv)) (execs body (envOfC qual scope L' f cdv))
        (fun fl s' => R (.ok (.ret (match fl with | .ret v => v | _ => .none))) s')
        (fun e s' => wpAny (model prog w) (A.deeper (envOfC qual scope L' f cdv)) (leaving (envOfC qual scope L' f cdv) e) (fun _ s'' => R (.error e) s'') (fun e' s'' => R (.error e') s'') s')
        { s with heap := h₁, toks := tk })
    (hco : scope.isCoroutine = false) (hgen : scope.isGenerator = false) (hk : scope.kind = .function) : codeAny (model prog w) A (.call (.ref f) args) R s := by
  obtain ⟨FG, BG, st, lv⟩ := groundX (R := R) B F (News.nil (h₀ := h₀) (L := L) (h := s.heap)) hA hf hke
  refine codeAny_call_function hroom ((X₀.keeps F.keep) _ _ ho) rfl hco hgen rfl (codeRec_of (X₀.keeps F.keep) hcd) (hbind _ _ _ _ ?_)
  refine wpAny_newFunctionEnv_cells hk (hkind _) fun env' he s' x => ?_
  subst he
  refine ⟨(T.nolimit.keeps F.keep).keeps x.toInCall.keep, codeAny_func ?_⟩
  obtain ⟨h₁, tk, rfl, _⟩ := x.done
  obtain ⟨cells, NC, Y⟩ := PyProof.Rows.Cl.news (h₀ := s.heap) (Nat.le_refl _) fun n c hm => ⟨x.cell n c (lookup_of_mem_nodup (cellsFrom_names scope.names 0 (s.heap.objs.size + 1) [] [] rfl ▸ hnd) hm), x.above n c hm⟩
  exact h s.heap.objs.size h₁ tk cells ⟨x.toInCall.ns, x.toInCall.keep, Nat.le_refl _⟩ NC Y BG (X₀.keeps st) (T.keeps st)
end
end Mine
end
section
open PySem PySem.W PySem.W.X PySem.Spec PySem.Calls PyProof.Rows
set_option maxRecDepth 100000
namespace Mine
section
variable {prog : Program} {w : World} {A : Around} {E : Value → Shared → Prop} {s : Shared} {env : Env} {h₀ : Heap} {x : Str} {body : List Stmt} {Q : Flow → Shared → Prop}
/-- a for over anything that is walked, by an invariant -/
theorem loop_gen {I : Addr} {fp : List Addr} {n : Nat} {P : Nat → Value → Prop} {St : Nat → Heap → Prop} {m₀ : Str → Option Value} {news : Led} (J : Nat → (Str → Option Value) → Led → Prop)
    (W : Walks prog w A I fp [I] n P St) (hL : env.locals ∉ fp) (hI : h₀.get? I = none) (hIn : I ∉ news.map (·.1)) (hfn : ∀ b ∈ fp, b ∉ news.map (·.1)) (st : St 0 s.heap) (F : Fr h₀ env.locals s.heap m₀) (N : News h₀ env.locals s.heap news) (hj : J 0 m₀ news)
    (turn : ∀ i v m₁ news₁ h tk own, i < n → P i v → news₁.map (·.1) = news.map (·.1) → OwnOff own (news.map (·.1)) → J i m₁ news₁ → Fr h₀ env.locals h (fun y => if y = x then some v else m₁ y) → News h₀ env.locals h (news₁ ++ own) →
      wpAny (model prog w) A (execs body env) (InvPostN h₀ env.locals (J (i + 1)) own (news.map (·.1)) { s with heap := h, toks := tk } Q) E { s with heap := h, toks := tk })
    (done : ∀ m₁ news₁ h tk, J n m₁ news₁ → Fr h₀ env.locals h m₁ → News h₀ env.locals h news₁ → Q .next { s with heap := h, toks := tk }) :
    LoopAtV prog w A h₀ env x body Q E (.ref I) s := by
  let J' : Nat → (Str → Option Value) → List (Addr × Obj) → Prop := fun i m₁ news₁ => news₁.map (·.1) = news.map (·.1) ∧ J i m₁ news₁
  refine ⟨_, _, _, n, _, _, m₀, news, J', rfl, W, hL, ?_, ?_, st, F, N, ⟨rfl, hj⟩, ?_, ?_⟩
  · intro b hb
    rw [List.mem_singleton.mp hb]; exact hI
  · intro p hp hq
    exact hIn (List.mem_singleton.mp hq ▸ List.mem_map.mpr ⟨p, hp, rfl⟩)
  · rintro i v m₁ news₁ s₁ own ⟨hh', tk', rfl⟩ hin hP ⟨hadr, hJ⟩ hoff hown _ _ _ F₁ N₁
    have hsep : OwnOff own (news.map (·.1)) := by
      intro p hp b hb e
      exact hfn _ (hown p hp) (e ▸ hb)
    have N₂ : News h₀ env.locals hh' (news₁ ++ own) := fun p hp => N₁ p ((List.mem_append.mp hp).elim (fun h => List.mem_append.mpr (.inr h)) fun h => List.mem_append.mpr (.inl h))
    refine wpAny_mono (turn i v m₁ news₁ hh' tk' own hin hP hadr hsep hJ F₁ N₂) (fun f s₂ p => ?_) fun _ _ e => e
    have fin : InvEndN h₀ env.locals (J (i + 1)) own (news.map (·.1)) { s with heap := hh', toks := tk' } s₂ → LoopStepU h₀ env.locals [I] own (J' (i + 1)) { s with heap := hh', toks := tk' } .next s₂ := by
      rintro ⟨h', tk, m', news', nx, e, F', N', hn, ho, ha, hm⟩
      refine ⟨rfl, h', tk, m', nx, e, F', fun p hp => N' p ((List.mem_append.mp hp).elim (ho p) (hn p)), fun p hp hq => ?_, ha, hm⟩
      have h1 : p.1 ∈ nx.map (·.1) := List.mem_map.mpr ⟨p, hp, rfl⟩
      rw [ha, ← hadr] at h1
      obtain ⟨q, hq1, hq2⟩ := List.mem_map.mp h1
      exact hoff q hq1 (by rw [hq2]; exact hq)
    cases f with
    | ret v => exact .ret p
    | brk => exact .brk p
    | next => exact .next (fin p)
    | cont => exact .cont (fin p)
  · rintro h' tk m' news' F' N' _ ⟨_, hm⟩
    exact done m' news' h' tk hm F' N'
/-- a for over a range of n, by an invariant -/
theorem iter_R {r : Addr} {b₀ : Int} {t₀ u₀ v₀ : Tok} {n : Nat} {m₀ : Str → Option Value} {news : Led} (J : Nat → (Str → Option Value) → Led → Prop)
    (hh : A.handled = none) (hr : IsRange s.heap r 0 b₀ 1 t₀ u₀ v₀) (hsmall : Builtin.Range.small 0 b₀ 1 = true) (hn : Builtin.Range.rangeSize 0 b₀ 1 = (n : Int)) (F : Fr h₀ env.locals s.heap m₀) (N : News h₀ env.locals s.heap news) (hj : J 0 m₀ news)
    (turn : ∀ i t m₁ news₁ h tk own, i < n → news₁.map (·.1) = news.map (·.1) → OwnOff own (news.map (·.1)) → J i m₁ news₁ → Fr h₀ env.locals h (fun y => if y = x then some (.int (i : Int) t) else m₁ y) → News h₀ env.locals h (news₁ ++ own) →
      wpAny (model prog w) A (execs body env) (InvPostN h₀ env.locals (J (i + 1)) own (news.map (·.1)) { s with heap := h, toks := tk } Q) E { s with heap := h, toks := tk })
    (done : ∀ m₁ news₁ h tk, J n m₁ news₁ → Fr h₀ env.locals h m₁ → News h₀ env.locals h news₁ → Q .next { s with heap := h, toks := tk }) :
    wpAny (model prog w) A (pyIter (.ref r)) (fun it s₂ => LoopAtV prog w A h₀ env x body Q E it s₂) E s := by
  refine wpAny_pyIter_range hr hsmall ?_
  refine loop_gen (s := { s with heap := s.heap.push _ }) J (Walks.range hh s.heap.objs.size 0 1 n) ?_ (next_is_new F) ?_ ?_ ?_ (F.push _) (fun p hp => ⟨Heap.get?_push_of_some _ (N p hp).1, (N p hp).2⟩) hj ?_ done
  · intro hm; exact absurd F.ns.lt ((List.mem_singleton.mp hm) ▸ Nat.lt_irrefl _)
  · intro hm
    obtain ⟨p, hp, e⟩ := List.mem_map.mp hm
    exact absurd (Heap.lt_size (N p hp).1) (by rw [e]; exact Nat.lt_irrefl _)
  · intro b hb hm
    obtain ⟨p, hp, e⟩ := List.mem_map.mp hm
    rw [List.mem_singleton.mp hb] at e
    exact absurd (Heap.lt_size (N p hp).1) (by rw [e]; exact Nat.lt_irrefl _)
  · show IsRangeIter _ _ _ _ _
    have e1 : ((0 : Int) + ((0 : Nat) : Int) * 1) = 0 := rfl
    have e2 : ((n : Int) - ((0 : Nat) : Int)) = (n : Int) := by simp
    rw [e1, e2, ← hn]
    exact Heap.get?_push_size _ rfl
  · rintro i v m₁ news₁ h tk own hin ⟨t, rfl⟩ ha ho hJ F₁ N₁
    have e : (0 : Int) + (i : Int) * 1 = (i : Int) := by omega
    rw [e] at F₁
    exact turn i t m₁ news₁ h tk own hin ha ho hJ F₁ N₁
end
end Mine
end
section
open PySem PySem.W PySem.W.X PySem.Spec PySem.Calls PyProof.Rows
set_option maxRecDepth 100000
set_option maxHeartbeats 8000000
namespace Mine
/-- a mark at which the walk stands still -/
noncomputable def Stop (p : Prop) : Prop := p
theorem Stop.out {p : Prop} (h : Stop p) : p := h
section
variable {prog : Program} {w : World} {A A₀ : Around} {s : Shared} {K : Frag} {L : Addr} {h₀ base : Heap} {m mg mb : Str → Option Value} {p : Program} {loose : List Str} {mean : ExcName → Option Value}
theorem enter_C2 {env : Env} {outer : List Env} {R : Result → Shared → Prop} {name qual : Str} {params : Arguments} {body : List Stmt} {scope : Scope} {dV kV doc pm cdv ct oc : Value} {an od : Option Addr} {osl : Array (Option Value)} {f : Addr} {args : Args} {binds : List (Str × Value)}
    (mF cF : Str → Option Value)
    (B : Below A₀ base outer h₀) (F : Fr h₀ L s.heap m) (X₀ : K.In h₀) (T : Top p loose mean mg mb h₀) (hA : A.frames = some (env :: outer)) (hf : env.frame = some L) (hke : env.scope.kind = .function)
    (ho : K.lookup f = some ⟨oc, od, .func (fnOf name qual params body scope dV kV doc pm an cdv ct), osl⟩) (hcd : codeIn K cdv qual = true) (hroom : A.depth < recursionLimit)
    (hbind : BindsTo s (fnOf name qual params body scope dV kV doc pm an cdv ct) args binds)
    (hkind : ∀ n, ∀ x ∈ binds, scope.names.lookup x.1 = some .local ∨ (scope.names.lookup x.1 = some .cell ∧ ((cellsFrom n scope.names []).lookup x.1).isSome = true))
    (hnd : ((cellsFrom 0 scope.names []).map (·.1)).Nodup)
    (hmF : bindL (scope.names.lookup ·) binds (fun _ => none) = mF) (hcF : bindC (scope.names.lookup ·) binds (fun _ => none) = cF)
    (h : ∀ L' h₁ tk cells, Fr s.heap L' h₁ mF → News s.heap L' h₁ cells →
      CellsAre cF (cellsFrom (L' + 1) scope.names []) cells → Below A base (env :: outer) s.heap → K.In s.heap → Top p loose mean mg mb s.heap →
      wpAny (model prog w) (A.deeper (envOfC qual scope L' f cdv)) (execs body (envOfC qual scope L' f cdv))
        (fun fl s' => R (.ok (.ret (match fl with | .ret v => v | _ => .none))) s')
        (fun e s' => wpAny (model prog w) (A.deeper (envOfC qual scope L' f cdv)) (leaving (envOfC qual scope L' f cdv) e) (fun _ s'' => R (.error e) s'') (fun e' s'' => R (.error e') s'') s')
        { s with heap := h₁, toks := tk })
    (hco : scope.isCoroutine = false) (hgen : scope.isGenerator = false) (hk : scope.kind = .function) : codeAny (model prog w) A (.call (.ref f) args) R s := by
  refine enter_C B F X₀ T hA hf hke ho hcd hroom hbind hkind hnd (fun L' h₁ tk cells F' N' Y' B' X' T' => ?_) hco hgen hk
  have e1 : bindL (envOfC qual scope L' f cdv).kindOf binds (fun _ => none) = mF := hmF
  have e2 : bindC (envOfC qual scope L' f cdv).kindOf binds (fun _ => none) = cF := hcF
  rw [e1] at F'
  rw [e2] at Y'
  exact h L' h₁ tk cells F' N' Y' B' X' T'
end
end Mine
end
section
open PySem PySem.W PySem.W.X PySem.Spec PySem.Calls PyProof.Rows PyProof.Rows.LCg
set_option maxRecDepth 100000
namespace Mine
section
variable {prog : Program} {w : World} {A : Around} {E : Value → Shared → Prop} {s : Shared} {env : Env} {h₀ : Heap}
theorem letGo_tupiter {elts : List Expr} {x1} {pos : Pos} {I l T : Addr} {i : Nat} {Q : Unit → Shared → Prop} (hit : s.heap.IsTupleIter I l i) (hQ : Q () s) :
    wpAny (model prog w) A (letOwnedTupleGo (.Tuple elts x1 pos) (.ref I) (.ref T)) Q E s := by
  obtain ⟨o, ho, hc, hd⟩ := hit
  unfold letOwnedTupleGo
  refine wpAny_bind (wpAny_load ho ?_)
  rw [hc, hd]
  dsimp only
  split
  · next h => exact absurd (Bool.and_eq_true _ _ ▸ h).1 (by decide)
  · exact wpAny_pure hQ
/-- for a, b in a tuple of the base, of pairs of the base; with else and break; what is new is kept until the loop is left -/
theorem For_else {Q : Flow → Shared → Prop} {xi xc : Str} {pk pv pt pos : Pos} {x1 : Nat} {iter : Expr} {body orelse : List Stmt} {T : Addr} {items : List (Addr × Value × Value)} {m₀ : Str → Option Value} {news : Led} (J : Nat → (Str → Option Value) → Prop)
    (hh : A.handled = none) (hxi : env.kindOf xi = some .local) (hxc : env.kindOf xc = some .local) (hk : env.scope.kind = .function)
    (hl : h₀.IsTuple T (items.map fun q => Value.ref q.1).toArray) (htup : ∀ q ∈ items, h₀.IsTuple q.1 #[q.2.1, q.2.2])
    (F : Fr h₀ env.locals s.heap m₀) (N : News h₀ env.locals s.heap news)
    (hiter : ∀ K : Value → Shared → Prop, K (.ref T) s → wpAny (model prog w) A (eval iter env) K E s) (hj : J 0 m₀)
    (turn : ∀ i q m₁ I oI h tk, items[i]? = some q → J i m₁ → (∀ p ∈ news, p.1 < I) → Fr h₀ env.locals h (fun y => if y = xc then some q.2.2 else if y = xi then some q.2.1 else m₁ y) → News h₀ env.locals h ((I, oI) :: news) →
      wpAny (model prog w) A (execs body env) (fun f s' => match f with
        | .next | .cont => Stop (∃ h' tk' m', s' = { s with heap := h', toks := tk' } ∧ Fr h₀ env.locals h' m' ∧ News h₀ env.locals h' ((I, oI) :: news) ∧ J (i + 1) m')
        | .brk => Q .next s'
        | .ret v => Q (.ret v) s') E { s with heap := h, toks := tk })
    (els : ∀ m₁ h tk, J items.length m₁ → Fr h₀ env.locals h m₁ → News h₀ env.locals h news → wpAny (model prog w) A (execs orelse env) Q E { s with heap := h, toks := tk })
    (hs : ∀ x, foldedSetIterable iter env x = pure x := by intro _; rfl)
    (hE : PassesOwn (model prog w) A env E := by passes_own) :
    wpAny (model prog w) A (exec (.For (.Tuple [.Name xi pk, .Name xc pv] x1 pt) iter body orelse pos) env) Q E s := by
  have hp : (env.scope.kind == .class || (env.scope.kind == .module && env.locals != env.globals)) = false := by rw [hk]; rfl
  refine wpAny_For (hiter _ ?_) hs
  have hl1 : s.heap.IsTuple T (items.map fun q => Value.ref q.1).toArray := hl.at fun o e => F.keep _ o e
  refine wpAny_pyIter_tuple hl1 ?_
  have hTs : T < s.heap.objs.size := by obtain ⟨o, ho, _⟩ := hl1; exact Heap.lt_size ho
  have hI0 : h₀.get? s.heap.objs.size = none := next_is_new F
  have hLI : env.locals < s.heap.objs.size := F.ns.lt
  generalize hI : s.heap.objs.size = I at *
  have W := Walks.tuple (prog := prog) (w := w) (A := A) hh I T (Nat.ne_of_lt hTs) (items.map fun q => Value.ref q.1).toArray
  have hsz : (items.map fun q => Value.ref q.1).toArray.size = items.length := by simp
  rw [hsz] at W
  have hNI : ∀ p ∈ news, p.1 < I := fun p hp => hI ▸ Heap.lt_size (N p hp).1
  refine codeAny_forLoop_any
    (fun k s' => ∃ h' tk m' i, s' = { s with heap := h', toks := tk } ∧ (h'.IsTupleIter I T i ∧ h'.IsTuple T (items.map fun q => Value.ref q.1).toArray) ∧ Fr h₀ env.locals h' m' ∧ News h₀ env.locals h' news ∧ J i m' ∧ i ≤ items.length ∧ k = items.length + 1 - i) ?_ (items.length + 1)
    ⟨_, s.toks, m₀, 0, rfl, ⟨⟨_, hI ▸ Heap.get?_push_size _ rfl, rfl, rfl⟩, hl1.at fun o e => Heap.get?_push_of_some _ e⟩, F.push _, (fun p hp => ⟨Heap.get?_push_of_some _ (N p hp).1, (N p hp).2⟩), hj, Nat.zero_le _, rfl⟩
  rintro k s' ⟨H, tk, m', i, rfl, hst', F', N', hJ, hi, rfl⟩
  have next : ∀ h₁ : Heap, (∀ b o, b ∉ [I] → H.get? b = some o → h₁.get? b = some o) → Fr h₀ env.locals h₁ m' ∧ News h₀ env.locals h₁ news := fun h₁ hk₁ =>
    ⟨⟨F'.ns.at' fun o e => hk₁ _ o (fun q => absurd hLI (by rw [List.mem_singleton.mp q]; exact Nat.lt_irrefl _)) e, fun b o e => hk₁ b o (fun q => by rw [List.mem_singleton.mp q, hI0] at e; cases e) (F'.keep b o e), F'.above⟩,
      fun p hp => ⟨hk₁ _ _ (fun q => absurd (hNI p hp) (by rw [List.mem_singleton.mp q]; exact Nat.lt_irrefl _)) (N' p hp).1, (N' p hp).2⟩⟩
  by_cases hlt : i < items.length
  · refine W.item i _ _ _ hlt hst' fun v h₁ tk₁ hPv hst₁ hk₁ => ?_
    obtain ⟨F₁, N₁⟩ := next h₁ hk₁
    have hq : items[i]? = some items[i] := List.getElem?_eq_getElem hlt
    have hv : v = .ref items[i].1 := by simpa [hlt] using hPv.symm
    subst hv
    refine letGo_tupiter hst₁.1 ?_
    refine kcp_assign hh ((htup _ (List.getElem_mem hlt)).at fun o e => F₁.keep _ o e) hxi hxc hp F₁.ns fun h₂ tk₂ hn₂ hk₂ => ?_
    have hIL : I ≠ env.locals := Nat.ne_of_gt hLI
    obtain ⟨oI, hoI⟩ : ∃ o, h₁.get? I = some o := by obtain ⟨o, e, _⟩ := hst₁.1; exact ⟨o, e⟩
    have hoI₂ := hk₂ I oI hIL hoI
    have F₂ : Fr h₀ env.locals h₂ (fun y => if y = xc then some items[i].2.2 else if y = xi then some items[i].2.1 else m' y) :=
      ⟨hn₂, fun b o e => hk₂ b o (fun q => absurd (Heap.lt_size e) (Nat.not_lt.mpr (q ▸ F₁.above))) (F₁.keep b o e), F₁.above⟩
    have N₂ : News h₀ env.locals h₂ ((I, oI) :: news) := fun p hp' => by
      rcases List.mem_cons.mp hp' with rfl | hp'
      · exact ⟨hoI₂, hIL, hI0⟩
      · exact ⟨hk₂ _ _ (N₁ p hp').2.1 (N₁ p hp').1, (N₁ p hp').2⟩
    refine wpAny_passesOwn hE (wpAny_mono (turn i items[i] m' I oI h₂ tk₂ hq hJ hNI F₂ N₂) (fun f s₃ h₃ => ?_) fun _ _ e => e)
    have again : (∃ h' tk' m'', s₃ = { s with heap := h', toks := tk' } ∧ Fr h₀ env.locals h' m'' ∧ News h₀ env.locals h' ((I, oI) :: news) ∧ J (i + 1) m'') →
        ∃ k, k < items.length + 1 - i ∧ ∃ h' tk m' j, s₃ = { s with heap := h', toks := tk } ∧ (h'.IsTupleIter I T j ∧ h'.IsTuple T (items.map fun q => Value.ref q.1).toArray) ∧ Fr h₀ env.locals h' m' ∧ News h₀ env.locals h' news ∧ J j m' ∧ j ≤ items.length ∧ k = items.length + 1 - j := by
      rintro ⟨h', tk', m'', rfl, F₃, N₃, hJ₃⟩
      refine ⟨items.length + 1 - (i + 1), by omega, h', tk', m'', i + 1, rfl, ⟨hst₁.1.at fun o e => ?_, hl.at fun o e => F₃.keep _ o e⟩, F₃, fun p hp => N₃ p (.tail _ hp), hJ₃, hlt, rfl⟩
      rw [hoI] at e
      exact Option.some.inj e ▸ (N₃ _ (.head _)).1
    cases f with
    | next => exact again h₃
    | cont => exact again h₃
    | brk => exact h₃
    | ret v => exact h₃
  · have hin : i = items.length := by omega
    subst hin
    refine W.done _ _ _ hst' fun h₁ tk₁ hk₁ => ?_
    obtain ⟨F₁, N₁⟩ := next h₁ hk₁
    refine wpAny_passesOwn hE ?_
    exact els m' h₁ tk₁ hJ F₁ N₁
end
end Mine
end
section
open PySem PySem.W PySem.W.X PySem.Spec PySem.Calls PyProof.Rows
set_option maxRecDepth 100000
namespace Mine
section
variable {prog : Program} {w : World} {A : Around} {E : Value → Shared → Prop} {s : Shared}
theorem nextOf_tuple_item {it l : Addr} {i : Nat} {items} {x : Value} {Q : Value → Shared → Prop} (hit : s.heap.IsTupleIter it l i)
    (hl : s.heap.IsTuple l items) (hx : items[i]? = some x)
    (hQ : ∀ h', h'.IsTupleIter it l (i + 1) → Heap.SameBut it s.heap h' → Q x { s with heap := h' }) :
    wpAny (model prog w) A (Builtin.SmallTypes.nextOf (.ref it)) Q E s := by
  obtain ⟨o, ho, hc, hd⟩ := id hit
  obtain ⟨ol, hol, _, nl, hdl⟩ := hl
  unfold Builtin.SmallTypes.nextOf
  refine wpAny_bind (wpAny_callSpecial?_slot (name := Str.ofString "__next__") hit.typeIs F.slot_tuple_iterator_next
    (wpAny_call_entry F.slot_tuple_iterator_next hit.typeIs F.entry_tuple_iterator_next ?_ (F.args_tuple_iterator_next_1 _)))
  show wpAny _ _ (field (.ref it) 0 >>= _) _ _ s
  refine wpAny_bind (wpAny_field ho hd (x := .ref l) rfl ?_)
  show wpAny _ _ (if (Value.ref l == Value.none) = true then _ else _) _ _ s
  rw [if_neg (show ¬ ((Value.ref l == Value.none) = true) from Bool.false_ne_true)]
  show wpAny _ _ (field (.ref it) 1 >>= _) _ _ s
  refine wpAny_bind (wpAny_field ho hd (x := .int i 0) rfl ?_)
  show wpAny _ _ (seqItems? (.ref l) >>= _) _ _ s
  refine wpAny_bind (wpAny_seqItems hol hdl ?_)
  simp only [Int.toNat_natCast, hx]
  refine wpAny_bind (wpAny_setField ho hd (by simp) (wpAny_pure ⟨x, rfl, wpAny_pure (hQ _ ?_ (Heap.SameBut.update ..))⟩))
  exact ⟨_, Heap.get?_update_self _ ho (Obj.isFreed_of_fields (Obj.data_mapFields hd _)), (Obj.cls_mapFields ..).trans hc, by
    rw [Obj.data_mapFields hd]; simp [rawInt]⟩
theorem nextOf_tuple_end {it l : Addr} {i : Nat} {items} {Q : Value → Shared → Prop} (hh : A.handled = none)
    (hit : s.heap.IsTupleIter it l i) (hl : s.heap.IsTuple l items) (hx : items[i]? = none)
    (hE : ∀ h' e, Heap.ExtBut it s.heap h' → (∃ o, h'.get? e = some o ∧ o.cls = .type "StopIteration") → E (.ref e) { s with heap := h' }) :
    wpAny (model prog w) A (Builtin.SmallTypes.nextOf (.ref it)) Q E s := by
  obtain ⟨o, ho, hc, hd⟩ := id hit
  obtain ⟨ol, hol, _, nl, hdl⟩ := hl
  unfold Builtin.SmallTypes.nextOf
  refine wpAny_bind (wpAny_callSpecial?_slot (name := Str.ofString "__next__") hit.typeIs F.slot_tuple_iterator_next
    (wpAny_call_entry F.slot_tuple_iterator_next hit.typeIs F.entry_tuple_iterator_next ?_ (F.args_tuple_iterator_next_1 _)))
  show wpAny _ _ (field (.ref it) 0 >>= _) _ _ s
  refine wpAny_bind (wpAny_field ho hd (x := .ref l) rfl ?_)
  show wpAny _ _ (if (Value.ref l == Value.none) = true then _ else _) _ _ s
  rw [if_neg (show ¬ ((Value.ref l == Value.none) = true) from Bool.false_ne_true)]
  show wpAny _ _ (field (.ref it) 1 >>= _) _ _ s
  refine wpAny_bind (wpAny_field ho hd (x := .int i 0) rfl ?_)
  show wpAny _ _ (seqItems? (.ref l) >>= _) _ _ s
  refine wpAny_bind (wpAny_seqItems hol hdl ?_)
  simp only [Int.toNat_natCast, hx]
  refine wpAny_bind (wpAny_rule (wpAny_bind (wpAny_setField ho hd (by simp) ?_)))
  show wpAny _ _ (newExc (.type "StopIteration") [] >>= _) _ _ _
  refine wpAny_bind ?_
  simp only [newExc, newTuple]
  refine wpAny_bind (wpAny_newObj_type ?_ (by size_fits))
  refine wpAny_bind (m := firstArgMember _ _) (wpAny_of_eq (a := Value.none) (by first | rfl | (simp only [firstArgMember]; rfl)) ?_)
  refine wpAny_newObj_type ?_ (by size_fits)
  simp only [raiseNew]
  refine wpAny_bind (wpAny_handled ?_)
  first | rw [show A.in1.handled = none from hh] | rw [hh]
  refine wpAny_bind (wpAny_pure (wpAny_throw ?_))
  exact hE _ _ (((Heap.SameBut.update ..).extBut.push _).push _) ⟨_, Heap.get?_push_size _ rfl, rfl⟩
end
theorem drawsTuple {prog : Program} {w : World} {A : Around} (hh : A.handled = none) (it l : Addr) (hne : l ≠ it) (items : Array Value) :
    Draws prog w A it [it, l] items.size (fun i v => items[i]? = some v) (fun i h => h.IsTupleIter it l i ∧ h.IsTuple l items) where
  live := fun _ _ st => let ⟨o, ho, _⟩ := st.1; ⟨o, ho⟩
  frame := fun _ _ _ st hk => ⟨st.1.at fun o e => hk it (by simp) o e, st.2.at fun o e => hk l (by simp) o e⟩
  item := fun i s Q E hi st hQ => by
    refine nextOf_tuple_item st.1 st.2 (x := items[i]) (by simp [hi]) fun h' hit' hs' => ?_
    exact hQ _ h' s.toks (by simp [hi]) ⟨hit', st.2.extBut hs'.extBut hne⟩ hs'
  done := fun s Q E st hE => nextOf_tuple_end hh st.1 st.2 (by simp) hE
theorem meets_enum_T (l : Addr) (items : Array Value) (n : Nat) (dct : Option Addr) (sl : Array (Option Value)) :
    Meets (Builtin.«enumerate.__new__» ⟨[.type "enumerate", .ref l], []⟩) (fun _ R s => s.heap.get? l = some { cls := .type "tuple", dict := dct, data := .seq items n, slots := sl } ∧
      R (.ok (.ret (.ref (s.heap.push { cls := .type "tuple_iterator", data := .fields #[.ref l, .int 0 0] }).objs.size)))
        { s with heap := (s.heap.push { cls := .type "tuple_iterator", data := .fields #[.ref l, .int 0 0] }).push { cls := .type "enumerate", data := .fields #[.none, .bool false, .ref s.heap.objs.size, rawInt 0, .none, .none] } }) :=
  .of_wp fun prog w A R s h => by
    obtain ⟨hp, g, d, tk, os⟩ := s; obtain ⟨hl, h⟩ := h
    have hsub := sub_enumerate
    have hL : Heap.IsTuple (Shared.heap ⟨hp, g, d, tk, os⟩) l items := ⟨_, hl, rfl, n, rfl⟩
    wp_walk using AutoSeq1.wpAny_loadPart' hl
    refine wpAny_stack_any fun st => wpAny_pure ?_
    split
    · rename_i c _ _ _ _ _
      cases (c == Value.type "enumerate")
      · wp_walk using AutoSeq1.wpAny_loadPart' hl, wpAny_pyIter_tuple hL
        exact ⟨_, rfl, h⟩
      · wp_walk using AutoSeq1.wpAny_loadPart' hl, wpAny_pyIter_tuple hL
        exact ⟨_, rfl, h⟩
    · wp_walk using AutoSeq1.wpAny_loadPart' hl, wpAny_pyIter_tuple hL
      exact ⟨_, rfl, h⟩
section
variable {prog : Program} {w : World} {A : Around} {E : Value → Shared → Prop} {s : Shared}
theorem call_enumerate_T {l : Addr} {items : Array Value} {Q : Value → Shared → Prop} (hL : s.heap.IsTuple l items)
    (h : ∀ h', IsEnum h' (s.heap.objs.size + 1) s.heap.objs.size 0 .none → h'.IsTupleIter s.heap.objs.size l 0 → h'.objs.size = s.heap.objs.size + 2 →
      (∀ b o, s.heap.get? b = some o → h'.get? b = some o) → Q (.ref (s.heap.objs.size + 1)) { s with heap := h' }) :
    wpAny (model prog w) A (call (.type "enumerate") [.ref l]) Q E s := by
  obtain ⟨⟨c, dct, dt, sl⟩, hl, hc, n, hd⟩ := hL
  replace hc : c = .type "tuple" := hc
  replace hd : dt = .seq items n := hd
  subst hc hd
  refine callType_new F.called_enumerate (by decide) (F.typeCall_enumerate_1 _) (F.newCall_enumerate_1 _) (fun obj => F.args_object_init_2 obj _) F.entry_enumerate_new
    (meets_enum_T l items n dct sl) ⟨hl, ?_⟩
  have hz : (s.heap.push { cls := .type "tuple_iterator", data := .fields #[.ref l, .int 0 0] }).objs.size = s.heap.objs.size + 1 := Heap.size_push ..
  show _ ∧ _
  rw [hz]
  have he : IsEnum ((s.heap.push { cls := .type "tuple_iterator", data := .fields #[.ref l, .int 0 0] }).push
      { cls := .type "enumerate", data := .fields #[.none, .bool false, .ref s.heap.objs.size, rawInt 0, .none, .none] }) (s.heap.objs.size + 1) s.heap.objs.size 0 .none := by
    have := Heap.get?_push_size (s.heap.push { cls := .type "tuple_iterator", data := .fields #[.ref l, .int 0 0] })
      (o := { cls := .type "enumerate", data := .fields #[.none, .bool false, .ref s.heap.objs.size, rawInt 0, .none, .none] }) rfl
    rw [hz] at this; exact this
  refine ⟨⟨_, he, rfl⟩, h _ he ⟨_, Heap.get?_push_of_some _ (Heap.get?_push_size _ rfl), rfl, rfl⟩ (by rw [Heap.size_push, hz]) fun b o x => Heap.get?_push_of_some _ (Heap.get?_push_of_some _ x)⟩
end
end Mine
end
section
open PySem PySem.W PySem.W.X PySem.Spec PySem.Calls PyProof.Rows
set_option maxRecDepth 100000
namespace Mine
theorem not_frame0 {h₀ h : Heap} {L b : Addr} {m : Str → Option Value} {it : Array Value} (F : Fr h₀ L h m) (e : h₀.IsTuple b it) : b ≠ L := by
  obtain ⟨o, ho, _⟩ := e
  exact fun q => absurd (Heap.lt_size ho) (Nat.not_lt.mpr (q ▸ F.above))
section
variable {prog : Program} {w : World} {A : Around} {E : Value → Shared → Prop} {s : Shared} {env : Env} {h₀ : Heap} {xi xc : Str} {body : List Stmt} {Q : Flow → Shared → Prop}
/-- for i, v in enumerate(a tuple of the base), by an invariant -/
theorem enum_loop {T : Addr} {vals : List Value} {m₀ : Str → Option Value} {news : Led} (J : Nat → (Str → Option Value) → Led → Prop)
    (hh : A.handled = none) (hl : h₀.IsTuple T vals.toArray) (F : Fr h₀ env.locals s.heap m₀) (N : News h₀ env.locals s.heap news) (hj : J 0 m₀ news)
    (turn : ∀ i t v m₁ news₁ h tk own, vals[i]? = some v → news₁.map (·.1) = news.map (·.1) → OwnOff own (news.map (·.1)) → J i m₁ news₁ → Fr h₀ env.locals h (fun y => if y = xc then some v else if y = xi then some (.int (i : Int) t) else m₁ y) → News h₀ env.locals h (news₁ ++ own) →
      wpAny (model prog w) A (execs body env) (InvPostN h₀ env.locals (J (i + 1)) own (news.map (·.1)) { s with heap := h, toks := tk } Q) E { s with heap := h, toks := tk })
    (done : ∀ m₁ news₁ h tk, J vals.length m₁ news₁ → Fr h₀ env.locals h m₁ → News h₀ env.locals h news₁ → Q .next { s with heap := h, toks := tk }) :
    wpAny (model prog w) A (call (.type "enumerate") [.ref T]) (fun xv s₁ => wpAny (model prog w) A (pyIter xv) (fun it s₂ => PairAt3 prog w A h₀ env xi xc body Q E it s₂) E s₁) E s := by
  have hl1 : s.heap.IsTuple T vals.toArray := hl.at fun o e => F.keep _ o e
  have hTs : T < s.heap.objs.size := by obtain ⟨o, ho, _⟩ := hl1; exact Heap.lt_size ho
  refine call_enumerate_T hl1 fun h' he hit hz hk => ?_
  refine wpAny_pyIter_enum he ?_
  have hLI : env.locals < s.heap.objs.size := F.ns.lt
  have fr0 : ∀ b, s.heap.objs.size ≤ b → h₀.get? b = none := fun b hb => by
    cases e : h₀.get? b with
    | none => rfl
    | some o => exact absurd (Heap.lt_size (F.keep b o e)) (Nat.not_lt.mpr hb)
  have hNI : ∀ p ∈ news, p.1 < s.heap.objs.size := fun p hp => Heap.lt_size (N p hp).1
  generalize hI : s.heap.objs.size = I at *
  have W := WalksT.enumerateD (drawsTuple (prog := prog) (w := w) (A := A.in1) hh I T (Nat.ne_of_lt hTs) vals.toArray) (I + 1) (Nat.succ_ne_self _)
    (by simp only [List.mem_cons, List.not_mem_nil, or_false, not_or]; exact ⟨Nat.succ_ne_self _, Nat.ne_of_gt (Nat.lt_succ_of_lt hTs)⟩) (by simp)
  have hlen : vals.toArray.size = vals.length := by simp
  rw [hlen] at W
  have offI : ∀ p ∈ news, p.1 ∉ [I + 1, I] := fun p hp q => by
    have h1 := hNI p hp
    simp only [List.mem_cons, List.not_mem_nil, or_false] at q
    rcases q with q | q
    · exact absurd h1 (by rw [q]; exact Nat.not_lt.mpr (Nat.le_succ I))
    · exact absurd h1 (by rw [q]; exact Nat.lt_irrefl I)
  refine ⟨I + 1, _, _, vals.length, _, _, _, (fun i v0 v1 => vals[i]? = some v1 ∧ ∃ t, v0 = .int (i : Int) t), m₀, news, J, rfl, W, ?_, ?_, ?_, offI, ⟨⟨_, he⟩, hit, hl1.at fun o e => hk _ o e⟩, F.kept hk, (fun p hp => ⟨hk _ _ (N p hp).1, (N p hp).2⟩), hj, ?_, ?_⟩
  · rintro i vals' ⟨t, x, hx, rfl⟩
    exact ⟨_, _, rfl, by simpa using hx, t, rfl⟩
  · intro hm
    simp only [List.mem_cons, List.not_mem_nil, or_false] at hm
    rcases hm with h | h | h
    · exact absurd hLI (by rw [h]; exact Nat.not_lt.mpr (Nat.le_succ I))
    · exact absurd hLI (by rw [h]; exact Nat.lt_irrefl I)
    · exact not_frame0 F hl h.symm
  · intro b hb
    simp only [List.mem_cons, List.not_mem_nil, or_false] at hb
    rcases hb with rfl | rfl
    · exact fr0 _ (Nat.le_succ I)
    · exact fr0 _ (Nat.le_refl _)
  · rintro i v0 v1 m₁ news₁ s₁ own ⟨hh', tk', rfl⟩ hin ⟨hP, t, rfl⟩ hJ hadr hown F₁ N₁
    have hsep : OwnOff own (news.map (·.1)) := by
      intro p hp b hb e
      obtain ⟨q, hq, rfl⟩ := List.mem_map.mp hb
      have h1 := hown p hp
      have h2 := hNI q hq
      simp only [List.mem_cons, List.not_mem_nil, or_false] at h1
      rcases h1 with h1 | h1 | h1
      · exact absurd h2 (by rw [← e, h1]; exact Nat.not_lt.mpr (Nat.le_succ I))
      · exact absurd h2 (by rw [← e, h1]; exact Nat.lt_irrefl I)
      · obtain ⟨o, ho, _⟩ := hl
        have := (N q hq).2.2
        rw [← e, h1, ho] at this; cases this
    have N₂ : News h₀ env.locals hh' (news₁ ++ own) := fun p hp => N₁ p ((List.mem_append.mp hp).elim (fun h => List.mem_append.mpr (.inr h)) fun h => List.mem_append.mpr (.inl h))
    refine wpAny_mono (turn i t v1 m₁ news₁ hh' tk' own hP hadr hsep hJ F₁ N₂) (fun f s₂ p => ?_) fun _ _ e => e
    have fin : InvEndN h₀ env.locals (J (i + 1)) own (news.map (·.1)) { s with heap := hh', toks := tk' } s₂ → LoopStep2 h₀ env.locals own news₁ (J (i + 1)) { s with heap := hh', toks := tk' } .next s₂ := by
      rintro ⟨h'', tk, m', news', nx, e, F', N', hn, ho, ha, hm⟩
      exact ⟨rfl, h'', tk, m', nx, e, F', fun p hp => N' p ((List.mem_append.mp hp).elim (ho p) (hn p)), ha.trans hadr.symm, hm⟩
    cases f with
    | ret v => exact p
    | brk => exact p
    | next => exact fin p
    | cont => exact fin p
  · rintro h'' tk m' news' F' N' _ hm
    exact done m' news' h'' tk hm F' N'
end
end Mine
end
section
open PySem PySem.W PySem.W.X PySem.Spec PySem.Calls PyProof.Rows
set_option maxRecDepth 100000
set_option maxHeartbeats 8000000
namespace Mine
/-- a file: its place, its path, its mode -/
structure FileV where
  a : Addr
  path : Str
  pt : Tok
  mode : Int
  mt : Tok
noncomputable def FileV.it (f : FileV) : Addr × Value × Value := (f.a, .str f.path f.pt, .int f.mode f.mt)
noncomputable def FilesAt (h : Heap) (fa : Addr) (fs : List FileV) : Prop := h.IsList fa (fs.map fun f => Value.ref f.a).toArray ∧ ∀ f ∈ fs, h.IsTuple f.a #[.str f.path f.pt, .int f.mode f.mt]
noncomputable def IsCellO (o : Obj) : Prop := ∃ v, o.data = .cell v
theorem map2 {m m₀ : Str → Option Value} {a b : Str} (h : ∀ z, z ≠ a → z ≠ b → m z = m₀ z) : m = fun z => if z = a then m z else if z = b then m z else m₀ z := by
  funext z
  by_cases h1 : z = a
  · simp [h1]
  · by_cases h2 : z = b
    · simp [h2]
    · simp only [if_neg h1, if_neg h2]; exact h z h1 h2
theorem map1 {m m₀ : Str → Option Value} {a : Str} (h : ∀ z, z ≠ a → m z = m₀ z) : m = fun z => if z = a then m z else m₀ z := by
  funext z
  by_cases h1 : z = a
  · simp [h1]
  · simp only [if_neg h1]; exact h z h1
theorem mod4 (n : Int) : 0 ≤ n.fmod 4 ∧ n.fmod 4 < 4 := ⟨Int.fmod_nonneg_of_pos _ (by decide), Int.fmod_lt_of_pos _ (by decide)⟩
theorem foldLen {i : Int} (h0 : 0 ≤ i) (h1 : i < 4) : (List.getD [Str.ofString "/a", Str.ofString "/b", Str.ofString "/a/c", Str.ofString ""] i.toNat Str.empty).length ≤ 20 := by
  have : i = 0 ∨ i = 1 ∨ i = 2 ∨ i = 3 := by omega
  rcases this with rfl | rfl | rfl | rfl <;> decide
noncomputable def fold4 (n : Int) : Str := List.getD [Str.ofString "/a", Str.ofString "/b", Str.ofString "/a/c", Str.ofString ""] ((n.fdiv 4).fmod 4).toNat Str.empty
noncomputable def okF (path one : Str) (mode : Int) : Bool := (one == path) && ((mode.fdiv 4096 == 8) && ((mode.fdiv 64).fmod 2 == 1))
noncomputable def pV (path : Str) : Addr × Value × Value → Bool
  | (_, .str one _, .int mode _) => okF path one mode
  | _ => false
theorem not_news {h₀ h : Heap} {L b : Addr} {news : Led} {o : Obj} (N : News h₀ L h news) (e : h₀.get? b = some o) : b ∉ news.map (·.1) := by
  intro hm
  obtain ⟨p, hp, rfl⟩ := List.mem_map.mp hm
  rw [(N p hp).2.2] at e; cases e
theorem not_frame {h₀ h : Heap} {L b : Addr} {m : Str → Option Value} {o : Obj} (F : Fr h₀ L h m) (e : h₀.get? b = some o) : b ≠ L :=
  fun q => absurd (Heap.lt_size e) (Nat.not_lt.mpr (q ▸ F.above))
theorem intsAt : ∀ {vs : List Value} {ns : List Int} {j : Nat} {v : Value}, IntsAre vs ns → vs[j]? = some v → ∃ n t, v = .int n t ∧ ns[j]? = some n
  | _, _, 0, _, .cons n t _, h => by cases h; exact ⟨n, t, rfl, rfl⟩
  | _, _, j + 1, v, .cons n t r, h => by simpa using intsAt r (j := j) (v := v) (by simpa using h)
  | _, _, _, _, .nil, h => by simp at h
noncomputable def hit (fs : List FileV) (nm : Str) (r : Nat) (n : Int) : Bool := decide (n.fmod 4 = (r : Int)) && fs.any fun f => okF (fold4 n ++ Str.ofString "/" ++ nm) f.path f.mode
/-- what _law_due gives: the number whose folder holds it -/
noncomputable def due (fs : List FileV) (ns : List Int) (nm : Str) : Option Int := (List.range 4).findSome? fun r => ns.find? (hit fs nm r)
noncomputable def answers (nm : Str) : Option Int → Value → Prop
  | some n, r => ∃ t, r = .str (fold4 n ++ Str.ofString "/" ++ nm) t
  | none, r => r = .none
theorem findSome_at {α β : Type} {g : α → Option β} : ∀ {l : List α} {i : Nat} {a : α} {b : β}, l[i]? = some a → (∀ k c, k < i → l[k]? = some c → g c = none) → g a = some b → l.findSome? g = some b
  | x :: l, 0, a, b, h, _, e => by cases h; simp [e]
  | x :: l, i + 1, a, b, h, hn, e => by
    rw [List.findSome?_cons, hn 0 x (Nat.succ_pos _) rfl]
    exact findSome_at (i := i) (by simpa using h) (fun k c hk hc => hn (k + 1) c (Nat.succ_lt_succ hk) (by simpa using hc)) e
  | [], _, _, _, h, _, _ => by simp at h
theorem find_at {α : Type} {g : α → Bool} : ∀ {l : List α} {j : Nat} {n : α}, (l.take j).find? g = none → l[j]? = some n → g n = true → l.find? g = some n
  | [], _, _, _, h, _ => by simp at h
  | x :: l, 0, n, _, h, e => by cases h; simp [e]
  | x :: l, j + 1, n, h0, h, e => by
    rw [List.take_succ_cons, List.find?_cons] at h0
    rw [List.find?_cons]
    cases hx : g x with
    | true => rw [hx] at h0; cases h0
    | false => rw [hx] at h0; exact find_at (j := j) h0 (by simpa using h) e
theorem due_some {fs : List FileV} {ns : List Int} {nm : Str} {i j : Nat} {n : Int} (hi : i < 4) (h1 : ∀ r < i, ns.find? (hit fs nm r) = none) (h2 : (ns.take j).find? (hit fs nm i) = none) (hn : ns[j]? = some n) (h : hit fs nm i n = true) : due fs ns nm = some n := by
  unfold due
  refine findSome_at (i := i) (a := i) (by simp [hi]) (fun k c hk hc => ?_) (find_at h2 hn h)
  have : c = k := by
    rw [List.getElem?_range (by omega)] at hc; exact (Option.some.inj hc).symm
  exact this ▸ h1 k hk
theorem due_none {fs : List FileV} {ns : List Int} {nm : Str} (h1 : ∀ r < 4, ns.find? (hit fs nm r) = none) : due fs ns nm = none := by
  unfold due
  rw [List.findSome?_eq_none_iff]
  intro r hr
  exact h1 r (List.mem_range.mp hr)
theorem find_step {α : Type} {g : α → Bool} {l : List α} {j : Nat} {n : α} (h : (l.take j).find? g = none) (hn : l[j]? = some n) (e : g n = false) : (l.take (j + 1)).find? g = none := by
  rw [List.take_add_one, hn, List.find?_append, h]; simp [e]
noncomputable def msOf (fs : List FileV) (path : Str) : List Int := (fs.filter fun f => okF path f.path f.mode).map (·.mode)
theorem msInts (path : Str) : ∀ fs : List FileV, IntsAre (List.map (fun q => q.2.2) (List.filter (pV path) (List.map FileV.it fs))) (msOf fs path)
  | [] => .nil
  | f :: fs => by
    have r := msInts path fs
    unfold msOf at r ⊢
    have e : pV path f.it = okF path f.path f.mode := rfl
    cases h : okF path f.path f.mode with
    | true => simp only [List.map_cons, List.filter_cons, e, h, if_true]; exact .cons _ _ r
    | false => simp only [List.map_cons, List.filter_cons, e, h]; exact r
theorem msAny (fs : List FileV) (path : Str) : (!decide (msOf fs path = [])) = fs.any fun f => okF path f.path f.mode := by
  unfold msOf
  induction fs with
  | nil => rfl
  | cons f fs ih =>
    cases h : okF path f.path f.mode with
    | true => simp [h]
    | false => simpa [h] using ih
section
variable {prog : Program} {w : World} {A : Around} {E : Value → Shared → Prop} {s : Shared} {a b : Addr} {xs : List Value} {ms : List Int} {Q : Value → Shared → Prop}
theorem ne_empty {r : Bool} (ha : s.heap.IsList a xs.toArray) (hb : s.heap.IsList b #[]) (hi : IntsAre xs ms) (e : (!decide (ms = [])) = r) (hu : A.units + 64 < cLine) (h : Q (.bool r) s) :
    wpAny (model prog w) A (compareOp .NotEq (.ref a) (.ref b)) Q E s := ke_ne_ints (ys := []) ha hb hi .nil hu (e ▸ h)
end
theorem end_two {h₀ : Heap} {L : Addr} {J : (Str → Option Value) → Led → Prop} {m' : Str → Option Value} {own own₂ ow led : Led} {a : Addr} {o o₀ : Obj} {s₁ : Shared} {h' : Heap} {tk : Nat} (F : Fr h₀ L h' m') (N : News h₀ L h' led) (how : ow = own ++ own₂)
    (hj : J m' ((a, o) :: own)) (hm : (a, o) ∈ led) (hin : ∀ p ∈ ow, p ∈ led) : InvEndN h₀ L J own₂ (((a, o₀) :: own).map (·.1)) s₁ { s₁ with heap := h', toks := tk } :=
  InvEndN.intro F N hj rfl (fun p hp => by
    rcases List.mem_cons.mp hp with rfl | hp
    · exact hm
    · exact hin p (how ▸ List.mem_append.mpr (.inl hp))) (fun p hp => hin p (how ▸ List.mem_append.mpr (.inr hp)))
theorem end_one {h₀ : Heap} {L : Addr} {J : (Str → Option Value) → Led → Prop} {m' : Str → Option Value} {own : Led} {a : Addr} {o o₀ : Obj} {s₁ : Shared} {h' : Heap} {tk : Nat} (F : Fr h₀ L h' m') (N : News h₀ L h' ((a, o) :: own))
    (hj : J m' [(a, o)]) : InvEndN h₀ L J own ([(a, o₀)].map (·.1)) s₁ { s₁ with heap := h', toks := tk } :=
  InvEndN.intro F N hj rfl (fun p hp => List.mem_singleton.mp hp ▸ .head _) (fun p hp => .tail _ hp)
end Mine
end
local macro_rules | `(tactic| walk_at "exec For Name Name cons nil") => `(tactic| (k_here; (rename Fr _ _ _ _ => lF'); (with_unfolding_all refine' For_invVF lF' ?k1 ?k2 ?_; (case k1 => exact rfl); (case k2 => exact rfl); k_whole)))
section
open PySem PySem.W PySem.W.X PySem.Spec PySem.Calls PyProof.Rows
set_option maxRecDepth 100000
set_option maxHeartbeats 8000000
namespace Mine
local macro_rules | `(tactic| walk_at "subscriptTail") => `(tactic| (k_here; (refine KTb.item_list (News.isList (by assumption) (by k_mem)) (.cons _ _ (.cons _ _ (.cons _ _ (.cons _ _ .nil)))) (by assumption) (by assumption) (by omega) ?_); intro _ _))
local macro_rules | `(tactic| walk_at "compareOp NotEq ref ref") => `(tactic| (k_here; (refine ne_empty ⟨_, News.get (by assumption) (.tail _ (.head _)), rfl, _, rfl⟩ ⟨_, News.get (by assumption) (.head _), rfl, _, rfl⟩ (by assumption) (by assumption) (by ke_room) ?_)))
local macro_rules | `(tactic| walk_at "pyIter ref") => `(tactic| ((with_reducible show wpAny _ _ (pyIter (Value.ref _)) (fun it s₂ => LoopAtV _ _ _ _ _ _ _ _ _ it s₂) _ _); refine Stop.out ?_))
local macro_rules | `(tactic| walk_at "eval ListComp") => `(tactic| (refine Stop.out ?_))
local macro_rules | `(tactic| walk_at "InvEndN") => `(tactic| (refine Stop.out ?_))
local macro_rules | `(tactic| k_all) => `(tactic| (with_unfolding_all assumption))
theorem due_ok (fa sa : Addr) (fs : List FileV) (vs : List Value) (ns : List Int) (nm : Str) (t : Tok) (hnm : nm.length ≤ 20) (hfs : fs.length ≤ 100) : Cl 450 2600 225 [.ref fa, .ref sa, .str nm t] (fun h => FilesAt h fa fs ∧ h.IsList sa vs.toArray ∧ IntsAre vs ns) (fun _ r tl => answers nm (due fs ns nm) r ∧ tl = []) := by
  unfold Cl; intros; rename_i hpre hret
  obtain ⟨⟨hfl, hft⟩, hsl, hints⟩ := hpre
  refine wpAny_call ?_
  k_dflt (refine' enter_C2 (fun y => if y = Str.ofString "name" then some (.str nm t) else if y = Str.ofString "steps" then some (.ref sa) else if y = Str.ofString "files" then some (.ref fa) else none) (fun _ => none) (binds := [(Str.ofString "files", .ref fa), (Str.ofString "steps", .ref sa), (Str.ofString "name", .str nm t)]) ?k1 ?k2 ?k3 ?k5 ?kA ?kF ?kK ?k6 ?k7 ?k8 ?k9 ?kB ?kN ?kL ?kC ?_ ?c2 ?c3 ?c4; (case kA => exact rfl); (case kF => exact rfl); (case kK => assumption); (case k1 => k_asm); (case k2 => k_asm); (case k3 => k_asm); (case k5 => k_asm); (case k6 => k_is); (case k7 => k_is); (case k8 => ktr_room); (case k9 => exact BindsTo.of_eq rfl); (case kB => intro n x hx; simp only [List.mem_cons, List.not_mem_nil, or_false] at hx; rcases hx with rfl | rfl | rfl <;> exact .inl rfl); (case kN => decide); (case kL => exact rfl); (case kC => exact rfl); (case c2 => exact rfl); (case c3 => exact rfl); (case c4 => exact rfl); k_whole; intro L' h' tk' cells' F' N' Y' B' X' T'; obtain ⟨oP, rfl, hoP⟩ := CellsAre.one Y'; (try dsimp only); (try k_lift B'); (try k_fold))
  clear Y'
  k_steps
  delta Stop
  rename_i hr _ F1 N1
  obtain ⟨osl, hosl, _⟩ := id hsl
  refine iter_R (news := [(L' + 1, oP)]) (fun i m nx => (∃ oP' v, nx = [(L' + 1, oP')] ∧ oP'.data = .cell v) ∧ (∀ z, z ≠ Str.ofString "rank" → z ≠ Str.ofString "n" → m z = (if z = Str.ofString "name" then some (.str nm t) else if z = Str.ofString "steps" then some (.ref sa) else if z = Str.ofString "files" then some (.ref fa) else none)) ∧ ∀ r < i, ns.find? (hit fs nm r) = none)
    rfl (by assumption) (by decide) (by rfl) (by assumption) (by assumption) ⟨⟨_, _, rfl, hoP⟩, (fun z _ _ => rfl), fun r hr => absurd hr (Nat.not_lt_zero _)⟩ ?turn ?done
  case turn =>
    clear hoP
    rintro i ti m₁ news₁ h tk own hi ha ho ⟨⟨oP', v', rfl, hv'⟩, hm, hbef⟩ F2 N2
    have hi4 : i < 4 := hi
    rw [map2 hm] at F2
    dsimp only [List.cons_append, List.nil_append] at N2
    have hoff := ho.ne (.head _)
    k_steps
    delta Stop
    rename Fr _ _ _ _ => F2
    rename News _ _ _ _ => N2
    refine iter_V (vs := vs) (news := (L' + 1, oP') :: own) (fun j m nx => (∃ oP' v, nx = (L' + 1, oP') :: own ∧ oP'.data = .cell v) ∧ (∀ z, z ≠ Str.ofString "n" → m z = (if z = Str.ofString "rank" then some (.int i ti) else if z = Str.ofString "rank" then m₁ z else if z = Str.ofString "n" then m₁ z else if z = Str.ofString "name" then some (.str nm t) else if z = Str.ofString "steps" then some (.ref sa) else if z = Str.ofString "files" then some (.ref fa) else none)) ∧ (ns.take j).find? (hit fs nm i) = none)
      rfl (hsl.at fun o e => F2.keep _ o e) (not_frame F2 hosl) (not_news N2 hosl) F2 N2 ⟨⟨_, _, rfl, hv'⟩, (fun z _ => rfl), by simp⟩ ?turn2 ?done2
    case turn2 =>
      rintro j v m₂ news₂ h₂ tk₂ own₂ hv ha₂ ho₂ ⟨⟨oP'', v'', rfl, hv''⟩, hm₂, hnone⟩ F3 N3
      obtain ⟨n, tn, rfl, hn⟩ := intsAt hints hv
      rw [map1 hm₂] at F3
      dsimp only [List.cons_append, List.nil_append] at N3
      clear N2 F2 hv'
      have hoff3 : ∀ p ∈ own ++ own₂, p.1 ≠ L' + 1 := fun p hp => (List.mem_append.mp hp).elim (hoff p) (ho₂.ne (.head _) p)
      obtain ⟨ow, how⟩ : ∃ ow, ow = own ++ own₂ := ⟨_, rfl⟩
      rw [← how] at N3 hoff3
      obtain ⟨q0, q1⟩ := mod4 (n.fdiv 4)
      have hfl4 := foldLen q0 q1
      have hno : ¬ n.fmod 4 = (i : Int) → (ns.take (j + 1)).find? (hit fs nm i) = none := fun h => find_step hnone hn (by simp [hit, h])
      have hno2 : (fs.any fun f => okF (fold4 n ++ Str.ofString "/" ++ nm) f.path f.mode) = false → (ns.take (j + 1)).find? (hit fs nm i) = none := fun h => find_step hnone hn (by simp [hit, h])
      k_steps
      · delta Stop
        rename Fr _ _ _ _ => F4
        rename News _ _ _ _ => N4
        rename n.fmod 4 = _ => hrk
        have hyes : (fs.any fun f => okF (fold4 n ++ Str.ofString "/" ++ nm) f.path f.mode) = true → due fs ns nm = some n := fun h => due_some hi4 hbef hnone hn (by simp [hit, h, hrk])
        refine comp_pairs (items := fs.map FileV.it) (pV (fold4 n ++ Str.ofString "/" ++ nm)) (fun q => q.2.2) (cl := [(Str.ofString "path", L' + 1)]) (by with_unfolding_all rfl) (by decide) (by rfl) (by decide) (by rfl) (by rfl) (by decide) (by rfl) (ax := fa) ?hl ?hsz ?htup F4 N4 ?hiter ?test ?elem ?donec
        case hl => simpa [FileV.it, Function.comp_def] using hfl
        case hsz => rw [List.length_map, sizeLine_eq]; omega
        case htup =>
          intro q hq
          obtain ⟨f, hf, rfl⟩ := List.mem_map.mp hq
          exact hft f hf
        case hiter =>
          intro K hK
          k_steps
          exact hK
        case test =>
          intro q hq I oI C oC D oD m₂ h tk E' hoC hone hmode F5 N5
          clear F4 N4
          obtain ⟨f, hf, rfl⟩ := List.mem_map.mp hq
          dsimp only [FileV.it] at hone hmode
          k_steps
          all_goals first | exact ⟨_, _, rfl, by assumption, by assumption⟩ | skip
          all_goals (show _ = okF _ f.path f.mode; unfold okF fold4; simp_all)
        case elem =>
          intro q hq _ I oI C oC D oD m₂ h tk E' hoC hone hmode F5 N5
          clear F4 N4
          k_steps
          all_goals first | exact rfl | exact ⟨_, _, rfl, by assumption, by assumption⟩
        case donec =>
          intro D h tk F5 N5 hoffD
          clear F4 N4
          have hI := msInts (fold4 n ++ Str.ofString "/" ++ nm) fs
          cases hb : (!decide (msOf fs (fold4 n ++ Str.ofString "/" ++ nm) = [])) with
          | true =>
            have hy := hyes ((msAny _ _).symm.trans hb)
            k_steps
            all_goals exact hret _ [] _ _ ⟨by rw [hy]; exact ⟨_, rfl⟩, rfl⟩ (Fr.keep (by assumption)) (fun _ h => nomatch h)
          | false =>
            have hy := hno2 ((msAny _ _).symm.trans hb)
            k_steps
            all_goals delta Stop
            all_goals exact end_two (by assumption) (by assumption) how ⟨⟨_, _, rfl, by assumption⟩, (fun z hz => by simp only [if_neg hz]), hy⟩ (by k_mem) (fun p hp => by repeat (first | exact hp | apply List.Mem.tail))
      · delta Stop
        exact end_two (by assumption) (by assumption) how ⟨⟨_, _, rfl, by assumption⟩, (fun z hz => by simp only [if_neg hz]), hno (by assumption)⟩ (by k_mem) (fun p hp => by repeat (first | exact hp | apply List.Mem.tail))
    case done2 =>
      rintro m₂ news₂ h₂ tk₂ ⟨⟨oP'', v'', rfl, hv''⟩, hm₂, hnone⟩ F3 N3
      clear N2 F2 hv'
      rw [map1 hm₂] at F3
      rw [IntsAre.length hints, List.take_length] at hnone
      have hb2 : ∀ r < i + 1, ns.find? (hit fs nm r) = none := fun r hr => by
        rcases Nat.lt_succ_iff_lt_or_eq.mp hr with h | rfl
        · exact hbef r h
        · exact hnone
      k_steps
      all_goals delta Stop
      all_goals exact end_one (by assumption) (by assumption) ⟨⟨_, _, rfl, hv''⟩, (fun z h1 h2 => by simp only [if_neg h1, if_neg h2]), hb2⟩
  case done =>
    rintro m₁ news₁ h tk ⟨⟨oP', v', rfl, hv'⟩, hm, hbef⟩ F2 N2
    rw [map2 hm] at F2
    k_steps
    all_goals exact hret _ [] _ _ ⟨by rw [due_none hbef]; rfl, rfl⟩ (Fr.keep (by assumption)) (fun _ h => nomatch h)
end Mine
end
section
open PySem PySem.W PySem.W.X PySem.Spec PySem.Calls PyProof.Rows
set_option maxRecDepth 100000
set_option maxHeartbeats 8000000
namespace Mine
noncomputable def rowsF : List (Addr × List (Addr × Int × Tok × Str × Tok)) :=
  [(167, [(160, 40960, 393, Str.ofString "l", 428), (161, 49152, 395, Str.ofString "s", 429), (162, 32768, 389, Str.ofString "-", 430), (163, 24576, 387, Str.ofString "b", 431), (164, 16384, 383, Str.ofString "d", 432), (165, 8192, 385, Str.ofString "c", 433), (166, 4096, 391, Str.ofString "p", 434)]),
   (169, [(168, 256, 410, Str.ofString "r", 435)]),
   (171, [(170, 128, 412, Str.ofString "w", 436)]),
   (175, [(172, 2112, 437, Str.ofString "s", 438), (173, 2048, 404, Str.ofString "S", 439), (174, 64, 414, Str.ofString "x", 440)]),
   (177, [(176, 32, 416, Str.ofString "r", 441)]),
   (179, [(178, 16, 418, Str.ofString "w", 442)]),
   (183, [(180, 1032, 443, Str.ofString "s", 444), (181, 1024, 406, Str.ofString "S", 445), (182, 8, 420, Str.ofString "x", 446)]),
   (185, [(184, 4, 422, Str.ofString "r", 447)]),
   (187, [(186, 2, 424, Str.ofString "w", 448)]),
   (191, [(188, 513, 449, Str.ofString "t", 450), (189, 512, 408, Str.ofString "T", 451), (190, 1, 426, Str.ofString "x", 452)])]
noncomputable def pairF (q : Addr × Int × Tok × Str × Tok) : Addr × Value × Value := (q.1, .int q.2.1 q.2.2.1, .str q.2.2.2.1 q.2.2.2.2)
theorem rows_in {P : Params} {h : Heap} (X : (hd.heap_1 P).In h) : h.IsTuple 192 (rowsF.map fun r => Value.ref r.1).toArray ∧ ∀ r ∈ rowsF, h.IsTuple r.1 ((r.2.map pairF).map fun q => Value.ref q.1).toArray ∧ ∀ q ∈ r.2.map pairF, h.IsTuple q.1 #[q.2.1, q.2.2] := by
  refine ⟨⟨_, X 192 _ rfl, rfl, _, rfl⟩, ?_⟩
  simp only [rowsF, List.forall_mem_cons, List.not_mem_nil, false_implies, implies_true, and_true, List.map_cons, List.map_nil, pairF]
  refine ⟨?_, ?_, ?_, ?_, ?_, ?_, ?_, ?_, ?_, ?_⟩
  all_goals refine ⟨⟨_, X _ _ rfl, rfl, _, rfl⟩, ?_⟩
  all_goals repeat' refine And.intro ?_ ?_
  all_goals exact ⟨_, X _ _ rfl, rfl, _, rfl⟩
section
variable {prog : Program} {w : World} {A : Around} {s : Shared} {env : Env} {h₀ : Heap}
theorem For_pairF {E : Value → Shared → Prop} {Q : Flow → Shared → Prop} {xi xc : Str} {pk pv pt pos : Pos} {x1 : Nat} {iter : Expr} {body : List Stmt} {m : Str → Option Value} (_F : Fr h₀ env.locals s.heap m) (hh : A.handled = none)
    (hxi : env.kindOf xi = some .local) (hxc : env.kindOf xc = some .local)
    (hp : (env.scope.kind == .class || (env.scope.kind == .module && env.locals != env.globals)) = false)
    (h : wpAny (model prog w) A (eval iter env) (fun xv s₁ => wpAny (model prog w) A (pyIter xv) (fun it s₂ => PairAt3 prog w A h₀ env xi xc body Q E it s₂) E s₁) E s)
    (hs : ∀ x, foldedSetIterable iter env x = pure x)
    (hE : PassesOwn (model prog w) A env E := by passes_own) :
    wpAny (model prog w) A (exec (.For (.Tuple [.Name xi pk, .Name xc pv] x1 pt) iter body [] pos) env) Q E s := For_pair3 h₀ hh hxi hxc hp h hs hE
end
local macro_rules | `(tactic| walk_at "exec For Tuple Call cons nil") => `(tactic| (k_here; (rename Fr _ _ _ _ => lF'); (with_unfolding_all refine' For_pairF lF' ?k0 ?k1 ?k2 ?k3 ?_ ?k4; (case k0 => exact rfl); (case k1 => exact rfl); (case k2 => exact rfl); (case k3 => exact rfl); (case k4 => intro _; exact rfl); k_whole)))
local macro_rules | `(tactic| walk_at "call type:enumerate") => `(tactic| (refine Stop.out ?_))
noncomputable def answersF (i : Nat) (md bit : Int) : Bool := if i = 0 then Builtin.bitAnd md 61440 == bit else Builtin.bitAnd md bit == bit
noncomputable def charF (i : Nat) (md : Int) (row : List (Addr × Int × Tok × Str × Tok)) : Str :=
  match row.find? fun q => answersF i md q.2.1 with
  | some q => q.2.2.2.1
  | none => if i = 0 then Str.ofString "?" else Str.ofString "-"
noncomputable def permF (md : Int) : List Str := rowsF.mapIdx fun i r => charF i md r.2
theorem map4 {m m₀ : Str → Option Value} {a b c d : Str} (h : ∀ z, z ≠ a → z ≠ b → z ≠ c → z ≠ d → m z = m₀ z) : m = fun z => if z = a then m z else if z = b then m z else if z = c then m z else if z = d then m z else m₀ z := by
  funext z
  by_cases h1 : z = a
  · simp [h1]
  · by_cases h2 : z = b
    · simp [h2]
    · by_cases h3 : z = c
      · simp [h3]
      · by_cases h4 : z = d
        · simp [h4]
        · simp only [if_neg h1, if_neg h2, if_neg h3, if_neg h4]; exact h z h1 h2 h3 h4
local macro_rules | `(tactic| walk_at "InvEndN") => `(tactic| (refine Stop.out ?_))
local macro_rules | `(tactic| k_all) => `(tactic| (with_unfolding_all assumption))
theorem end_perm {h₀ : Heap} {L : Addr} {J : (Str → Option Value) → Led → Prop} {m' : Str → Option Value} {own led : Led} {a : Addr} {o o₀ : Obj} {s₁ : Shared} {h' : Heap} {tk : Nat} (F : Fr h₀ L h' m') (N : News h₀ L h' led)
    (hm : (a, o) ∈ led) (hin : ∀ p ∈ own, p ∈ led) (hj : J m' [(a, o)]) : InvEndN h₀ L J own ([(a, o₀)].map (·.1)) s₁ { s₁ with heap := h', toks := tk } :=
  InvEndN.intro F N hj rfl (fun p hp => List.mem_singleton.mp hp ▸ hm) hin
theorem perm0 {lp : Addr} {md : Int} {t : Tok} (z : Str) : (if z = Str.ofString "perm" then some (Value.ref lp) else List.lookup z [(Str.ofString "mode", Value.int md t)].reverse) = (if z = Str.ofString "perm" then some (.ref lp) else if z = Str.ofString "mode" then some (.int md t) else none) := by
  by_cases a : z = Str.ofString "perm"
  · simp [a]
  · by_cases b : z = Str.ofString "mode"
    · subst b; rfl
    · have b' : (z == Str.ofString "mode") = false := by simpa using b
      simp [a, b, b', List.lookup]
theorem perm1 {o1 o2 o3 o4 : Option Value} {g : Str → Option Value} (z : Str) (h1 : z ≠ Str.ofString "bit") (h2 : z ≠ Str.ofString "char") : (if z = Str.ofString "table" then o1 else if z = Str.ofString "index" then o2 else (fun z => if z = Str.ofString "index" then g z else if z = Str.ofString "table" then g z else if z = Str.ofString "bit" then g z else if z = Str.ofString "char" then g z else if z = Str.ofString "perm" then o3 else if z = Str.ofString "mode" then o4 else none) z) = (if z = Str.ofString "table" then o1 else if z = Str.ofString "index" then o2 else if z = Str.ofString "perm" then o3 else if z = Str.ofString "mode" then o4 else none) := by
  dsimp only
  by_cases a : z = Str.ofString "table"
  · simp only [if_pos a]
  · by_cases b : z = Str.ofString "index"
    · simp only [if_neg a, if_pos b]
    · simp only [if_neg a, if_neg b, if_neg h1, if_neg h2]
theorem charF_len {i : Nat} {md : Int} {r : List (Addr × Int × Tok × Str × Tok)} (hr : ∀ q ∈ r, q.2.2.2.1.length = 1) : (charF i md r).length = 1 := by
  unfold charF
  split
  · next q h => exact hr q (List.mem_of_find?_eq_some h)
  · split <;> rfl
theorem permF_len (md : Int) : ∀ c ∈ permF md, c.length = 1 := by
  intro c hc
  unfold permF at hc
  obtain ⟨i, hi, rfl⟩ := List.mem_mapIdx.mp hc
  exact charF_len ((by decide : ∀ r ∈ rowsF, ∀ q ∈ r.2, q.2.2.2.1.length = 1) _ (List.getElem_mem _))
theorem permF_size (md : Int) : (permF md).length = 10 := by unfold permF; rw [List.length_mapIdx]; rfl
theorem permF_join (md : Int) : JoinOk (Str.ofString "") (permF md) = true := by
  refine joinOk_of_weight ?_ (by decide)
  have e : (permF md).map (·.length) = List.replicate 10 1 := by
    rw [List.eq_replicate_iff]
    refine ⟨by rw [List.length_map, permF_size], fun b hb => ?_⟩
    obtain ⟨c, hc, rfl⟩ := List.mem_map.mp hb
    exact permF_len md c hc
  rw [e, permF_size]; decide
theorem filemode_ok (md : Int) (t : Tok) : Cl 480 2900 199 [.int md t] (fun _ => True) (fun _ r tl => (∃ t', r = .str (Txt.join (Str.ofString "") (permF md)) t') ∧ tl = []) := by
  unfold Cl; intros; rename_i hret
  refine wpAny_call ?_
  k_dflt (refine' enter_S (binds := [(Str.ofString "mode", .int md t)]) ?k1 ?k2 ?k3 ?k5 ?kA ?kF ?kK ?k6 ?k7 ?k8 ?k9 ?kB ?_ ?c2 ?c3 ?c4 ?c5; (case kA => exact rfl); (case kF => exact rfl); (case kK => assumption); (case k1 => k_asm); (case k2 => k_asm); (case k3 => k_asm); (case k5 => k_asm); (case k6 => k_is); (case k7 => k_is); (case k8 => ktr_room); (case k9 => exact BindsTo.of_eq rfl); (case c5 => decide); (case kB => exact locs rfl); (case c2 => exact rfl); (case c3 => exact rfl); (case c4 => exact rfl); k_whole; intro L' h' F' N' B' X' T'; (try dsimp only); (try k_lift B'); (try k_fold))
  k_steps
  delta Stop
  rename Fr _ _ _ _ => F1
  rename News _ _ _ _ => N1
  rename_i lp _ _ _
  obtain ⟨hR0, hR⟩ := rows_in X'
  refine enum_loop (news := [(lp, W.listOf #[] 0)]) (fun i m nx => (∃ l n', nx = [(lp, W.listOf (strValues l).toArray n')] ∧ l.map (·.1) = (permF md).take i) ∧ (∀ z, z ≠ Str.ofString "index" → z ≠ Str.ofString "table" → z ≠ Str.ofString "bit" → z ≠ Str.ofString "char" → m z = (if z = Str.ofString "perm" then some (.ref lp) else if z = Str.ofString "mode" then some (.int md t) else none)))
    rfl hR0 F1 N1 ⟨⟨[], 0, rfl, rfl⟩, fun z _ _ _ _ => perm0 z⟩ ?turn ?done
  case turn =>
    clear F1 N1
    rintro i ti v m₁ news₁ h tk own hv ha ho ⟨⟨l, n', rfl, hl⟩, hm⟩ F2 N2
    rw [map4 hm] at F2
    dsimp only [List.cons_append, List.nil_append] at N2
    have hoff : ∀ p ∈ own, p.1 ≠ lp := ho.ne (.head _)
    obtain ⟨r, hr, rfl⟩ : ∃ r, rowsF[i]? = some r ∧ v = .ref r.1 := by
      rw [List.getElem?_map] at hv
      cases e : rowsF[i]? with
      | none => rw [e] at hv; cases hv
      | some r => rw [e] at hv; cases hv; exact ⟨r, rfl, rfl⟩
    obtain ⟨hr1, hr2⟩ := hR r (List.mem_of_getElem? hr)
    have hperm : (permF md).take (i + 1) = (permF md).take i ++ [charF i md r.2] := by
      rw [List.take_add_one, permF, List.getElem?_mapIdx, hr]; rfl
    have hsz : (strValues l).toArray.size ≤ sizeLine := by
      have e1 : l.length = ((permF md).take i).length := by rw [← hl, List.length_map]
      have e2 : ((permF md).take i).length ≤ 10 := by rw [List.length_take, permF, List.length_mapIdx]; exact Nat.min_le_right _ _
      have e4 : (strValues l).toArray.size = l.length := by simp [strValues]
      rw [e4, sizeLine_eq]; omega
    have good : ∀ c tc, charF i md r.2 = c → ∃ l', (strValues l).toArray.push (.str c tc) = (strValues l').toArray ∧ l'.map (·.1) = (permF md).take (i + 1) := fun c tc hc => ⟨l ++ [(c, tc)], by simp [strValues], by rw [hperm, ← hl, hc]; simp⟩
    k_steps
    rename Fr _ _ _ _ => F2
    rename News _ _ _ _ => N2
    refine For_else (items := r.2.map pairF) (news := (lp, W.listOf (strValues l).toArray n') :: own) (fun j m => (∀ z, z ≠ Str.ofString "bit" → z ≠ Str.ofString "char" → m z = (if z = Str.ofString "table" then some (.ref r.1) else if z = Str.ofString "index" then some (.int (i : Int) ti) else if z = Str.ofString "perm" then some (.ref lp) else if z = Str.ofString "mode" then some (.int md t) else none)) ∧ (r.2.take j).find? (fun q => answersF i md q.2.1) = none)
      rfl rfl rfl rfl hr1 hr2 F2 N2 ?hiter ⟨fun z h1 h2 => perm1 z h1 h2, by simp⟩ ?turn2 ?els
    case hiter =>
      intro K hK
      k_steps
      exact hK
    case turn2 =>
      rintro j q m₂ I oI h₂ tk₂ hq ⟨hm₂, hnone⟩ hNI F3 N3
      clear F2 N2
      rw [map2 hm₂] at F3
      obtain ⟨q, hq0, rfl⟩ : ∃ q0, r.2[j]? = some q0 ∧ q = pairF q0 := by
        rw [List.getElem?_map] at hq
        cases e : r.2[j]? with
        | none => rw [e] at hq; cases hq
        | some q0 => rw [e] at hq; cases hq; exact ⟨q0, rfl, rfl⟩
      dsimp only [pairF] at F3
      have hlI : @LT.lt Nat _ lp I := hNI _ (.head _)
      have yes : answersF i md q.2.1 = true → charF i md r.2 = q.2.2.2.1 := fun h => by
        unfold charF; rw [find_at hnone hq0 h]
      have no : answersF i md q.2.1 = false → (r.2.take (j + 1)).find? (fun q => answersF i md q.2.1) = none := fun h => find_step hnone hq0 h
      k_steps
      all_goals delta Stop
      all_goals first
        | exact end_perm (by assumption) (by assumption) (by k_mem) (fun p hp => .tail _ (.tail _ hp)) ⟨by obtain ⟨l', e1, e2⟩ := good _ _ (yes (by simp_all [answersF])); exact ⟨l', _, by rw [e1], e2⟩, fun z h1 h2 h3 h4 => by simp only [if_neg h1, if_neg h2, if_neg h3, if_neg h4]⟩
        | exact ⟨_, _, _, rfl, by assumption, by assumption, (fun z h1 h2 => by simp only [if_neg h1, if_neg h2]), no (by simp_all [answersF])⟩
    case els =>
      rintro m₂ h₂ tk₂ ⟨hm₂, hnone⟩ F3 N3
      clear F2 N2
      rw [map2 hm₂] at F3
      rw [List.length_map, List.take_length] at hnone
      have hc : charF i md r.2 = if i = 0 then Str.ofString "?" else Str.ofString "-" := by unfold charF; rw [hnone]
      k_steps
      all_goals delta Stop
      all_goals exact end_perm (by assumption) (by assumption) (by k_mem) (fun p hp => .tail _ hp) ⟨by obtain ⟨l', e1, e2⟩ := good _ _ (hc.trans (by simp_all; rfl)); exact ⟨l', _, by rw [e1], e2⟩, fun z h1 h2 h3 h4 => by simp only [if_neg h1, if_neg h2, if_neg h3, if_neg h4]⟩
  case done =>
    rintro m₁ news₁ h tk ⟨⟨l, n', rfl, hl⟩, hm⟩ F2 N2
    clear F1 N1
    rw [map4 hm] at F2
    have hl' : l.map (·.1) = permF md := hl.trans (List.take_of_length_le (by rw [permF_size]; decide))
    have hjo := permF_join md
    clear hl
    k_steps
    all_goals exact hret _ [] _ _ ⟨⟨_, rfl⟩, rfl⟩ (Fr.keep (by assumption)) (fun _ h => nomatch h)
end Mine
end
section
open PySem PySem.W PySem.W.X PySem.Spec PySem.Calls PyProof.Rows
set_option maxRecDepth 100000
set_option maxHeartbeats 8000000
namespace Mine
section
variable {M : Model} {A : Around} {E : Value → Shared → Prop} {s : Shared}
/-- a function's frame, with cells of its own and a closure; its parameters are plain locals -/
theorem newEnv_clos {scope : Scope} {globals : Addr} {closure : List (Str × Addr)} {binds : List (Str × Value)} {qual : Str} {func : Option Addr} {code : Value} {builtins : Addr} {Q : Env → Shared → Prop}
    (hk : scope.kind = .function) (hl : ∀ x ∈ binds, scope.names.lookup x.1 = some .local)
    (hQ : ∀ h', h'.Ns s.heap.objs.size (fun x => binds.reverse.lookup x) → Heap.SameBut s.heap.objs.size (pushCells (s.heap.push { cls := .type "frame", data := .dict #[] }) scope.names) h' →
      Q (newEnv scope s.heap.objs.size globals (cellsFrom (s.heap.objs.size + 1) scope.names closure) qual func code none builtins) { s with heap := h', toks := s.toks + binds.length }) :
    wpAny M A (newFunctionEnv scope globals closure binds qual func code none builtins) Q E s := by
  simp only [newFunctionEnv, Option.isSome_none, Bool.false_eq_true, if_false]
  simp only [newEnv] at hQ
  refine wpAny_bind (wpAny_alloc ?_)
  refine wpAny_bind (wpAny_layCells _ (fun name kind cells => by cases hkc : kind == NameKind.cell <;> simp [hkc]) _ _ _ _ ?_)
  rw [show ({ s with heap := s.heap.push { cls := .type "frame", data := .dict #[] } } : Shared).heap.objs.size = s.heap.objs.size + 1 from Heap.size_push ..]
  refine wpAny_bind ?_
  refine wpAny_forIn_list _
    (fun rest _ s' => ∃ done h', binds = done ++ rest ∧ s' = { s with heap := h', toks := s.toks + done.length } ∧
      h'.Ns s.heap.objs.size (fun x => done.reverse.lookup x) ∧
      Heap.SameBut s.heap.objs.size (pushCells (s.heap.push { cls := .type "frame", data := .dict #[] }) scope.names) h') _ ?_ ?_ binds _
    ⟨[], _, rfl, rfl, (Heap.Ns.new s.heap (.type "frame")).keeps (pushCells_keeps _ _), Heap.SameBut.refl ..⟩
  · rintro ⟨name, v⟩ rest _ s' ⟨done, h', hb, rfl, hns, hsb⟩
    have hk' : Env.kindOf { scope, locals := s.heap.objs.size, globals, cells := cellsFrom (s.heap.objs.size + 1) scope.names closure, qual, func, code, frame := some s.heap.objs.size, builtins } name = some .local :=
      hl (name, v) (by rw [hb]; simp)
    have hp : (({ scope, locals := s.heap.objs.size, globals, cells := cellsFrom (s.heap.objs.size + 1) scope.names closure, qual, func, code, frame := some s.heap.objs.size, builtins } : Env).scope.kind == .class || (({ scope, locals := s.heap.objs.size, globals, cells := cellsFrom (s.heap.objs.size + 1) scope.names closure, qual, func, code, frame := some s.heap.objs.size, builtins } : Env).scope.kind == .module &&
        ({ scope, locals := s.heap.objs.size, globals, cells := cellsFrom (s.heap.objs.size + 1) scope.names closure, qual, func, code, frame := some s.heap.objs.size, builtins } : Env).locals != ({ scope, locals := s.heap.objs.size, globals, cells := cellsFrom (s.heap.objs.size + 1) scope.names closure, qual, func, code, frame := some s.heap.objs.size, builtins } : Env).globals)) = false := by
      show (scope.kind == .class || (scope.kind == .module && _)) = false
      rw [hk]; rfl
    simp only [storeName_local hk' hp]
    refine wpAny_bind (wpAny_nsSet hns fun h'' hns' hsb' => wpAny_pure ⟨done ++ [(name, v)], h'', by simp [hb], ?_, ?_, hsb.trans hsb'⟩)
    · simp [Nat.add_assoc]
    · have e : (fun y => if y = name then some v else List.lookup y done.reverse) = fun x => List.lookup x (done ++ [(name, v)]).reverse := by
        funext y
        rw [List.reverse_append]
        show _ = List.lookup y ((name, v) :: done.reverse)
        rw [List.lookup_cons]
        by_cases h : y = name
        · simp [h]
        · have : (y == name) = false := by simpa using h
          simp [h, this]
      rw [← e]; exact hns'
  · rintro _ s' ⟨done, h', hb, rfl, hns, hsb⟩
    have : binds = done := by simpa using hb
    subst this
    exact wpAny_pure (hQ h' hns hsb)
end
section
variable {prog : Program} {w : World} {A A₀ : Around} {s : Shared} {K : Frag} {L : Addr} {h₀ base : Heap} {m mg mb : Str → Option Value} {p : Program} {loose : List Str} {mean : ExcName → Option Value}
/-- the entry of a def made in a call, with a closure and cells of its own -/
theorem enter_CL {env : Env} {outer : List Env} {R : Result → Shared → Prop} {name qual : Str} {params : Arguments} {body : List Stmt} {scope : Scope} {cl : List (Str × Addr)} {dV kV doc pm cdv ct oc : Value} {an od : Option Addr} {osl : Array (Option Value)} {f : Addr} {args : Args} {binds : List (Str × Value)}
    (B : Below A₀ base outer h₀) (F : Fr h₀ L s.heap m) (X₀ : K.In h₀) (T : Top p loose mean mg mb h₀) (hA : A.frames = some (env :: outer)) (hf : env.frame = some L) (hke : env.scope.kind = .function)
    (ho : s.heap.get? f = some ⟨oc, od, .func (fnX name qual params body scope cl dV kV doc pm an cdv ct), osl⟩) (hcd : s.heap.CodeRec cdv qual) (hroom : A.depth < recursionLimit)
    (hbind : bindArgs (fnX name qual params body scope cl dV kV doc pm an cdv ct) args = pure binds) (hloc : ∀ y ∈ binds, scope.names.lookup y.1 = some .local)
    (h : ∀ L' h₁ tk, Fr s.heap L' h₁ (fun y => binds.reverse.lookup y) → (∀ x c, (x, c) ∈ cellsFrom (L' + 1) scope.names [] → L' < c ∧ ∃ o, h₁.get? c = some o ∧ o.data = .cell none) → Below A base (env :: outer) s.heap → K.In s.heap → Top p loose mean mg mb s.heap →
      wpAny (model prog w) (A.deeper (envX qual scope L' f cdv (cellsFrom (L' + 1) scope.names cl))) (execs body (envX qual scope L' f cdv (cellsFrom (L' + 1) scope.names cl)))
        (fun fl s' => R (.ok (.ret (match fl with | .ret v => v | _ => .none))) s')
        (fun e s' => wpAny (model prog w) (A.deeper (envX qual scope L' f cdv (cellsFrom (L' + 1) scope.names cl))) (leaving (envX qual scope L' f cdv (cellsFrom (L' + 1) scope.names cl)) e) (fun _ s'' => R (.error e) s'') (fun e' s'' => R (.error e') s'') s')
        { s with heap := h₁, toks := tk })
    (hco : scope.isCoroutine = false) (hgen : scope.isGenerator = false) (hk : scope.kind = .function) : codeAny (model prog w) A (.call (.ref f) args) R s := by
  obtain ⟨FG, BG, st, lv⟩ := groundX (R := R) B F (News.nil (h₀ := h₀) (L := L) (h := s.heap)) hA hf hke
  refine codeAny_call_function (fd := fnX name qual params body scope cl dV kV doc pm an cdv ct) (body := body) hroom ho rfl hco hgen rfl hcd ?_
  rw [hbind]
  refine wpAny_pure (newEnv_clos hk hloc fun h₁ hns hsb => ?_)
  have k0 : Keeps s.heap (pushCells (s.heap.push { cls := .type "frame", data := .dict #[] }) scope.names) := fun b o e => pushCells_keeps _ _ b o (Heap.get?_push_of_some _ e)
  have k1 : Keeps s.heap h₁ := fun b o e => hsb.extBut b o (Nat.ne_of_lt (Heap.lt_size e)) (k0 b o e)
  refine ⟨(T.nolimit.keeps F.keep).keeps k1, codeAny_func ?_⟩
  have ok := cellsFrom_ok scope.names (s.heap.push { cls := .type "frame", data := .dict #[] }) (s.heap.objs.size + 1) [] ⟨fun _ _ hm => (nomatch hm), List.Pairwise.nil⟩ (by rw [Heap.size_push]; exact Nat.le_refl _)
  rw [Heap.size_push] at ok
  refine h s.heap.objs.size h₁ _ ⟨hns, k1, Nat.le_refl _⟩ (fun x c hm => ?_) BG (X₀.keeps st) (T.keeps st)
  obtain ⟨⟨o, e1, e2⟩, e3⟩ := ok.empty x c hm
  exact ⟨e3, o, hsb.extBut c o (Nat.ne_of_gt e3) e1, e2⟩
end
end Mine
end
section
open PySem PySem.W PySem.W.X PySem.Spec PySem.Calls PyProof.Rows
set_option maxRecDepth 100000
set_option maxHeartbeats 8000000
namespace Mine
/-- the defs of a body, by name -/
noncomputable def defsOf (ss : List Stmt) : List (Str × Arguments × List Stmt × Scope) := ss.filterMap fun s => match s with
  | .FunctionDef n a b _ _ _ sc _ _ _ => some (n, a, b, sc)
  | _ => none
noncomputable def defNamed (ss : List Stmt) (n : Str) : Arguments × List Stmt × Scope := match (defsOf ss).find? (fun d => d.1 == n) with
  | some d => d.2
  | none => (⟨[], [], none, [], [], none, []⟩, [], ⟨.function, [], false, false, []⟩)
noncomputable def mainBody : List Stmt := PySem.Challenge.pw_pd0110_01.main.body
noncomputable def clsBody : List Stmt := match (defNamed mainBody (Str.ofString "cmp_to_key")).2.1 with
  | .ClassDef _ _ _ body _ _ _ _ _ _ _ :: _ => body
  | _ => []
noncomputable def lamOf : Arguments × Expr × Scope := match (defNamed mainBody (Str.ofString "law")).2.1 with
  | _ :: _ :: .Assign _ (.Call _ _ (⟨_, .Call _ (.Lambda a b sc _ :: _) _ _, _⟩ :: _) _) _ :: _ => (a, b, sc)
  | _ => (⟨[], [], none, [], [], none, []⟩, .Constant .none 0 ⟨0, 0, 0, 0⟩, ⟨.function, [], false, false, []⟩)
end Mine
end
section
open PySem PySem.W PySem.W.X PySem.Spec PySem.Calls PyProof.Rows PyProof.Rows.LCg
set_option maxRecDepth 100000
namespace Mine
section
variable {prog : Program} {w : World} {A : Around} {E : Value → Shared → Prop} {s : Shared} {env : Env} {h₀ : Heap} {L : Addr} {m : Str → Option Value}
/-- the same, where a name of the frame takes the list -/
theorem comp_pairsA {elt iter c : Expr} {a b : Str} {pa pb tp : Pos} {kk : Nat} {scope : Scope} {cl : List (Str × Addr)} {pos spos : Pos} {y : Str} {py : Pos} {Q : Flow → Shared → Prop} {ax : Addr} {items : List (Addr × Value × Value)} {news : Led} (p : Addr × Value × Value → Bool) (f : Addr × Value × Value → Value)
    (hsw : swapsWith (.ListComp elt [⟨.Tuple [.Name a pa, .Name b pb] kk tp, iter, [c], 0⟩] scope pos) (some (.Name y py)) spos.line env = pure true) (hLe : env.locals = L)
    (hy : env.kindOf y = some .local) (hp : (env.scope.kind == .class || (env.scope.kind == .module && env.locals != env.globals)) = false)
    (hclos : closureFor scope env = pure cl) (hcell : ∀ y ∈ scope.names, y.2 ≠ .cell) (hkind : scope.kind = .function)
    (hnames : ∀ y ∈ scope.names, y.2 = .local → scope.names.lookup y.1 = some .local) (ha : scope.names.lookup a = some .local) (hb : scope.names.lookup b = some .local) (hab : a ≠ b) (hh : A.handled = none)
    (hl : h₀.IsList ax (items.map fun q => Value.ref q.1).toArray) (hsz : items.length ≤ sizeLine) (htup : ∀ q ∈ items, h₀.IsTuple q.1 #[q.2.1, q.2.2])
    (F : Fr h₀ L s.heap m) (N : News h₀ L s.heap news)
    (hiter : ∀ K : Value → Shared → Prop, K (.ref ax) s → wpAny (model prog w) A (eval iter env) K E s)
    (test : ∀ q ∈ items, ∀ I oI C oC D oD m₂ h tk (E' : Value → Shared → Prop), NsObj oC m₂ → m₂ a = some q.2.1 → m₂ b = some q.2.2 → Fr h₀ L h m → News h₀ L h ((I, oI) :: (C, oC) :: (D, oD) :: news) →
      wpAny (model prog w) A (isTrue c (compEnvC scope cl C env) (eval c (compEnvC scope cl C env))) (fun ok s' => ok = p q ∧ Aft s h₀ L m ((I, oI) :: (C, oC) :: (D, oD) :: news) s') E' { s with heap := h, toks := tk })
    (elem : ∀ q ∈ items, p q = true → ∀ I oI C oC D oD m₂ h tk (E' : Value → Shared → Prop), NsObj oC m₂ → m₂ a = some q.2.1 → m₂ b = some q.2.2 → Fr h₀ L h m → News h₀ L h ((I, oI) :: (C, oC) :: (D, oD) :: news) →
      wpAny (model prog w) A (eval elt (compEnvC scope cl C env)) (fun v s' => v = f q ∧ Aft s h₀ L m ((I, oI) :: (C, oC) :: (D, oD) :: news) s') E' { s with heap := h, toks := tk })
    (done : ∀ D h tk, Fr h₀ L h (fun z => if z = y then some (.ref D) else m z) → News h₀ L h ((D, lst ((items.filter p).map f)) :: news) → (∀ r ∈ news, r.1 ≠ D) → Q .next { s with heap := h, toks := tk })
    (hs : ∀ x, foldedSetIterable iter env x = pure x := by intro _; rfl) :
    wpAny (model prog w) A (exec (.Assign [.Name y py] (.ListComp elt [⟨.Tuple [.Name a pa, .Name b pb] kk tp, iter, [c], 0⟩] scope pos) spos) env) Q E s := by
  subst hLe
  rw [exec_Assign_Name_used _ _ _ _ hsw]
  refine wpAny_bind (wpAny_standAt (wpAny_bind ?_))
  show wpAny _ A (do let _ ← comprehension (.ListComp elt [⟨.Tuple [.Name a pa, .Name b pb] kk tp, iter, [c], 0⟩] scope pos) scope env _ (newList []) false (eval iter env) (some (assign (.Name y py) env))) _ _ s
  refine wpAny_bind (wpAny_mono (wpAny_comprehension_free (use := some (assign (.Name y py) env)) (Q := fun _ s' => Q .next s') rfl hs hclos hkind hnames (hiter _ (comp_core (R := fun acc C => compPost (model prog w) A E (some (assign (.Name y py) env)) (fun _ s' => Q .next s') acc C) p f hcell hkind ha hb hab hh hl hsz htup F N test elem fun D C h tk m' hLC hC off F₂ N₂ hn₂ hd => ?_))) (fun _ s' hq => wpAny_pure (wpAny_pure hq)) fun _ _ e => e)
  show wpAny _ A (assign (.Name y py) env (.ref D)) _ _ _
  refine wpAny_assign_Name (wpAny_storeName_local hy F₂.ns (fun h₃ hn₃ hs₃ => ?_) hp)
  have F₃ : Fr h₀ env.locals h₃ (fun z => if z = y then some (.ref D) else m z) := F₂.set hn₃ hs₃
  refine ⟨m', hn₂.sameBut hs₃ (Nat.ne_of_gt hLC), fun h'' hs'' => ?_⟩
  exact done D h'' _ (F₃.change hs'' (Nat.ne_of_gt hLC) hC) (fun r hr => ⟨hs''.extBut _ _ (off r hr) (hs₃.extBut _ _ (N₂ r hr).2.1 (N₂ r hr).1), (N₂ r hr).2⟩) hd
end
end Mine
end
section
open PySem PySem.W PySem.W.X PySem.Spec PySem.Calls PyProof.Rows
set_option maxRecDepth 100000
set_option maxHeartbeats 8000000
namespace Mine
noncomputable def stepD : Arguments × List Stmt × Scope := defNamed (defNamed mainBody (Str.ofString "_law_told")).2.1 (Str.ofString "step")
noncomputable def joined (fol nm : Str) : Str := if Txt.endswith fol (Str.ofString "/") then fol ++ nm else fol ++ (Str.ofString "/" ++ nm)
noncomputable def partsP (x : Str) : List Str := Txt.split (Txt.slice x (some 1) none) (Str.ofString "/")
noncomputable def straight (cs : List Str) : Str := Str.ofString "/" ++ Txt.join (Str.ofString "/") (cs.foldl stepC [])
noncomputable def ddB (cs : List Str) : Bool := (List.range cs.length).all fun i => cs[i]? != some (Str.ofString "..") || (match (cs.take i).foldl stepC [] with | [y] => !(y == Str.ofString "..") | _ => false)
noncomputable def goodB (fol nm out : Str) : Bool :=
  (!(Txt.startswith nm (Str.ofString "/"))) && (decide (1 ≤ fol.length) && (decide (fol.length ≤ 100) && (decide (nm.length ≤ 100) && (decide (1 ≤ (joined fol nm).length) && (decide ((joined fol nm).length ≤ 100) &&
  ((!(Txt.slice (joined fol nm) none (some 1) != Str.ofString "/")) && ((Txt.slice (joined fol nm) (some 1) (some 2) != Str.ofString "/") && ((partsP (joined fol nm)).all (fun c => decide (c.length ≤ 100)) && (ddB (partsP (joined fol nm)) &&
  (decide ((partsP (joined fol nm)).length ≤ 100) && (JoinOk (Str.ofString "/") ((partsP (joined fol nm)).foldl stepC []) && (decide (1 ≤ (straight (partsP (joined fol nm))).length) && (decide ((straight (partsP (joined fol nm))).length ≤ 100) && decide (straight (partsP (joined fol nm)) = out))))))))))))))
theorem ddB_ok {cs : List Str} (h : ddB cs = true) : ∀ i : Nat, cs[i]? = some (Str.ofString "..") → ∃ y, (y == Str.ofString "..") = false ∧ (cs.take i).foldl stepC [] = [y] := by
  intro i hi
  have hlt : i < cs.length := by
    rw [List.getElem?_eq_some_iff] at hi
    exact hi.1
  have := List.all_eq_true.mp h i (List.mem_range.mpr hlt)
  rw [hi] at this
  simp only [bne_self_eq_false, Bool.false_or] at this
  split at this
  · next y e => exact ⟨y, by simpa using this, e⟩
  · cases this
theorem gp_join {fol nm out : Str} (hg : goodB fol nm out = true) (t u : Tok) : Cl 480 2900 131 [.str fol t, .str nm u] (fun _ => True) (fun _ r tl => (∃ t', r = .str (joined fol nm) t') ∧ tl = []) := by
  simp only [goodB, Bool.and_eq_true, decide_eq_true_eq, Bool.not_eq_true'] at hg
  obtain ⟨h1, h2, h3, h4, _⟩ := hg
  exact join_ok fol nm t u h1 h2 h3 h4
theorem gp_norm {fol nm out : Str} (hg : goodB fol nm out = true) (t : Tok) : Cl 470 2800 145 [.str (joined fol nm) t] (fun _ => True) (fun _ r tl => (∃ t', r = .str out t') ∧ tl = []) := by
  simp only [goodB, Bool.and_eq_true, decide_eq_true_eq, Bool.not_eq_true'] at hg
  obtain ⟨-, -, -, -, h5, h6, h7, h8, h9, h10, h11, h12, h13, h14, h15⟩ := hg
  have c := normpath_ok (joined fol nm) t h5 h6 h7 h8 _ rfl (fun c hc => by simpa using List.all_eq_true.mp h9 c hc) (ddB_ok h10) h11 h12 h13 h14
  have e : (Str.ofString "/" ++ Txt.join (Str.ofString "/") ((Txt.split (Txt.slice (joined fol nm) (some 1) none) (Str.ofString "/")).foldl stepC [])) = out := h15
  rw [e] at c
  have e2 : (fun (_ : Heap) (r : Value) (tl : Led) => ∃ t', r = .str out t' ∧ tl = []) = (fun (_ : Heap) (r : Value) (tl : Led) => (∃ t', r = .str out t') ∧ tl = []) := by
    funext _ r tl
    exact propext ⟨fun ⟨t', a, b⟩ => ⟨⟨t', a⟩, b⟩, fun ⟨⟨t', a⟩, b⟩ => ⟨t', a, b⟩⟩
  rw [e2] at c
  exact c
noncomputable def foldS (n : Int) : Str := List.getD [Str.ofString "/a", Str.ofString "/b", Str.ofString "/a/c", Str.ofString "/"] ((n.fdiv 4).fmod 4).toNat Str.empty
noncomputable def folS (n : Int) : Str := List.getD [foldS n, Str.ofString "/." ++ foldS n, Str.ofString "/x/.." ++ foldS n] ((n.fdiv 16).fmod 3).toNat Str.empty
noncomputable def namesL : List Str := [Str.ofString "ls", Str.ofString "go", Str.ofString "it", Str.ofString "no"]
noncomputable def folAt (i j : Nat) : Str := List.getD [List.getD [Str.ofString "/a", Str.ofString "/b", Str.ofString "/a/c", Str.ofString "/"] i Str.empty, Str.ofString "/." ++ List.getD [Str.ofString "/a", Str.ofString "/b", Str.ofString "/a/c", Str.ofString "/"] i Str.empty, Str.ofString "/x/.." ++ List.getD [Str.ofString "/a", Str.ofString "/b", Str.ofString "/a/c", Str.ofString "/"] i Str.empty] j Str.empty
theorem good_at : ∀ i < 4, ∀ j < 3, ∀ nm ∈ namesL, goodB (folAt i j) nm (List.getD [Str.ofString "/a", Str.ofString "/b", Str.ofString "/a/c", Str.ofString ""] i Str.empty ++ Str.ofString "/" ++ nm) = true := by decide +kernel
theorem good_all (n : Int) {nm : Str} (h : nm ∈ namesL) : goodB (folS n) nm (fold4 n ++ Str.ofString "/" ++ nm) = true := by
  have a := mod4 (n.fdiv 4)
  have b : 0 ≤ (n.fdiv 16).fmod 3 ∧ (n.fdiv 16).fmod 3 < 3 := ⟨Int.fmod_nonneg_of_pos _ (by decide), Int.fmod_lt_of_pos _ (by decide)⟩
  exact good_at ((n.fdiv 4).fmod 4).toNat (by omega) ((n.fdiv 16).fmod 3).toNat (by omega) nm h
end Mine
end
section
open PySem PySem.W PySem.W.X PySem.Spec PySem.Calls PyProof.Rows
set_option maxRecDepth 100000
set_option maxHeartbeats 8000000
namespace Mine
theorem permTxt_len (md : Int) : (Txt.join (Str.ofString "") (permF md)).length = 10 := by
  have hz := permF_size md
  have hc := permF_len md
  cases e : permF md with
  | nil => rw [e] at hz; cases hz
  | cons a l =>
    rw [e] at hz hc
    have e1 : ((a :: l).map (·.length)) = List.replicate 10 1 := by
      rw [List.eq_replicate_iff]
      refine ⟨by rw [List.length_map, hz], fun b hb => ?_⟩
      obtain ⟨c, hc', rfl⟩ := List.mem_map.mp hb
      exact hc c hc'
    have e2 : (Txt.join (Str.ofString "") (a :: l)).length = ((a :: l).map (·.length)).sum + l.length * (Str.ofString "").length := (congrArg Str.length (StrLaws.glued_eq_join (Str.ofString "") (a :: l))).trans (len_join_cons (Str.ofString "") a l)
    rw [e2, e1]
    rfl
section
variable {M : Model} {A : Around} {E : Value → Shared → Prop} {s : Shared} {h₀ : Heap} {L a : Addr} {m : Str → Option Value} {cn : Str} {cs : Scope} {ccd : Value} {cl : List (Str × Addr)} {x : Str} {pos : Pos} {v : Value} {Q : Value → Shared → Prop} {c : Addr}
theorem nameX_FB (F : Fr h₀ L s.heap m) (hc : cl.lookup x = some c) (hv : h₀.IsCell c (some v)) (h : Q v s)
    (hk : cs.kind = .function := by rfl) (hx : (envX cn cs L a ccd cl).kindOf x = some .free := by rfl) (hb : (x == ("__debug__" : Str)) = false := by decide) (hn : (x == ("__classdict__" : Str)) = false := by decide) :
    wpAny M A (eval (.Name x pos) (envX cn cs L a ccd cl)) Q E s := wpAny_Name (wpAny_loadName_free hk hx hc (hv.keeps fun b o e => F.keep b o e) h hn) hb
end
local macro_rules | `(tactic| walk_at "eval Name") => `(tactic| (k_here; k_dflt (refine' nameX_FB ?F ?c ?v ?_ ?a ?b; (case a => rfl); (case b => rfl); (case F => k_asm); (case c => rfl); (case v => assumption); k_whole)))
set_option hygiene false in
local macro_rules | `(tactic| walk_at "call ref") => `(tactic| (k_here; (with_reducible show wpAny _ _ (call (Value.ref 131) [Value.str _ _, Value.str _ _]) _ _ _); k_dflt (refine' Cl.use (gp_join (by assumption) _ _) ?B ?F ?X ?N ?T ?hk ?h1 ?h2 trivial ?_; walk_at "useB"); walk_at "useC"))
set_option hygiene false in
local macro_rules | `(tactic| walk_at "call ref") => `(tactic| (k_here; (with_reducible show wpAny _ _ (call (Value.ref 145) [Value.str _ _]) _ _ _); k_dflt (refine' Cl.use (gp_norm (by assumption) _) ?B ?F ?X ?N ?T ?hk ?h1 ?h2 trivial ?_; walk_at "useB"); walk_at "useC"))
set_option hygiene false in
local macro_rules | `(tactic| walk_at "call ref") => `(tactic| (k_here; (with_reducible show wpAny _ _ (call (Value.ref 159) [Value.int _ _]) _ _ _); k_dflt (refine' Cl.use (isreg_ok _ _) ?B ?F ?X ?N ?T ?hk ?h1 ?h2 trivial ?_; walk_at "useB"); walk_at "useD"))
set_option hygiene false in
local macro_rules | `(tactic| walk_at "call ref") => `(tactic| (k_here; (with_reducible show wpAny _ _ (call (Value.ref 199) [Value.int _ _]) _ _ _); k_dflt (refine' Cl.use (filemode_ok _ _) ?B ?F ?X ?N ?T ?hk ?h1 ?h2 trivial ?_; walk_at "useB"); walk_at "useC"))
local macro_rules | `(tactic| walk_at "subscriptTail") => `(tactic| (k_here; (with_reducible show wpAny _ _ (subscriptTail _ _ (Value.str _ _) (Value.int _ _)) _ _ _); (refine item_str rfl ?_ ?_ ?_); (rw [permTxt_len]; decide); (rw [permTxt_len]; decide); intro _; generalize hx : Txt.item _ 3 = x))
local macro_rules | `(tactic| walk_at "eval ListComp") => `(tactic| (refine Stop.out ?_))
local macro_rules | `(tactic| walk_at "subscriptTail") => `(tactic| (k_here; (with_reducible show wpAny _ _ (subscriptTail _ _ (Value.ref _) (Value.int 0 _)) _ _ _); (refine item0 (News.isList (by assumption) (.head _)) ?_)))
local macro_rules | `(tactic| walk_at "binaryOp Add ref ref") => `(tactic| (k_here; (refine add_one (by assumption) (by assumption) (.tail _ (.head _)) (.head _) (by assumption) ?_); intro D' h' F' N' l1; (try k_lt l1)))
local macro_rules | `(tactic| walk_at "exec Assign cons ListComp") => `(tactic| (refine Stop.out ?_))
section
variable {prog : Program} {w : World} {A : Around} {E : Value → Shared → Prop} {s : Shared} {h₀ : Heap} {L a b : Addr} {m : Str → Option Value} {news : Led} {v : Value} {vs : List Value} {Q : Value → Shared → Prop}
theorem item0 {value slice : PySem.Expr} {u : Tok} (hl : s.heap.IsList a (v :: vs).toArray) (h : Q v s)
    (hs : subscripted slice false (.ref a) (.int 0 u) = operate [.ref a, .int 0 u] (getItem (.ref a) (.int 0 u)) := by with_unfolding_all rfl) :
    wpAny (model prog w) A (subscriptTail value slice (.ref a) (.int 0 u)) Q E s :=
  tail_any hl.typeIs slot_list_getitem.lookup (wpAny_getItem_list hl (by decide) (by decide) (by simp) h) hs
theorem add_one {n : Nat} {x : Value} (F : Fr h₀ L s.heap m) (N : News h₀ L s.heap news) (ha : (a, LCg.lst (v :: vs)) ∈ news) (hb : (b, W.listOf #[x] n) ∈ news) (hz : vs.length ≤ 100)
    (h : ∀ D h', Fr h₀ L h' m → News h₀ L h' ((D, W.listOf (v :: (vs ++ [x])).toArray 0) :: news) → (∀ p ∈ news, p.1 < D) → Q (.ref D) { s with heap := h' }) : wpAny (model prog w) A (binaryOp .Add (.ref a) (.ref b)) Q E s :=
  kmk_add_lit F N ⟨_, N.get ha, rfl, _, rfl⟩ ⟨_, N.get hb, rfl, _, rfl⟩ (by simp) h (by simp [sizeLine_eq]; omega)
end
noncomputable def xch (mode : Int) : Bool := Txt.item (Txt.join (Str.ofString "") (permF mode)) 3 == Str.ofString "x"
noncomputable def runB (path one : Str) (mode : Int) : Bool := (one == path) && ((Builtin.bitAnd mode 61440 == 32768) && xch mode)
noncomputable def pR (path : Str) : Addr × Value × Value → Bool
  | (_, .str one _, .int mode _) => runB path one mode
  | _ => false
theorem runsEq (path : Str) : ∀ fs : List FileV, ((fs.map FileV.it).filter (pR path)).map (fun q => q.2.1) = (fs.filter fun f => runB path f.path f.mode).map fun f => Value.str f.path f.pt
  | [] => rfl
  | f :: fs => by
    have r := runsEq path fs
    have e : pR path f.it = runB path f.path f.mode := rfl
    cases h : runB path f.path f.mode with
    | true => simp only [List.map_cons, List.filter_cons, e, h, if_true, r]; rfl
    | false => simp only [List.map_cons, List.filter_cons, e, h, Bool.false_eq_true, if_false, r]
/-- what stands in the heap when step is called -/
structure StepAt (fa : Addr) (fs : List FileV) (nm : Str) (f : Addr) (h : Heap) : Prop where
  obj : ∃ doc pm c' ctv c1 c2, h.get? f = some (fnMade (Str.ofString "step") (Str.ofString "_law_told.<locals>.step") stepD.1 stepD.2.1 stepD.2.2 [(Str.ofString "name", c2), (Str.ofString "files", c1)] doc pm c' ctv) ∧
    h.CodeRec (.ref c') (Str.ofString "_law_told.<locals>.step") ∧ h.IsCell c1 (some (.ref fa)) ∧ ∃ tn, h.IsCell c2 (some (.str nm tn))
  files : FilesAt h fa fs
theorem useless : True := trivial
noncomputable def firstR (path : Str) (fs : List FileV) : Option FileV := fs.find? fun f => runB path f.path f.mode
noncomputable def stepV (path : Str) (fs : List FileV) (v : Value) : Value := match v with
  | .none => (match firstR path fs with | some f => .str f.path f.pt | none => .none)
  | v => v
theorem step_ok (fa : Addr) (fs : List FileV) (nm fol out : Str) (f t : Addr) (v : Value) (hv : v = .none ∨ ∃ a b, v = .str a b) (hg : goodB fol nm out = true) (hnm : nm.length ≤ 20) (hfs : fs.length ≤ 100) : Cl 460 2700 f [v, .ref t] (fun h => StepAt fa fs nm f h ∧ ∃ rk tr tf, h.IsTuple t #[.int rk tr, .str fol tf]) (fun _ r tl => r = stepV out fs v ∧ tl = []) := by
  unfold Cl; intros; rename_i hpre hret
  obtain ⟨⟨⟨doc, pm, c', ctv, c1, c2, hfo, hcr, hc1, tn, hc2⟩, hfl, hft⟩, rk, tr, tf, htup⟩ := hpre
  obtain ⟨sd, hsd⟩ : ∃ sd, sd = stepD := ⟨_, rfl⟩
  rw [← hsd] at hfo
  conv at hsd => rhs; whnf
  subst hsd
  dsimp only at hfo
  refine wpAny_call ?_
  k_dflt (refine' enter_CL (binds := [(Str.ofString "found", v), (Str.ofString "folder", .ref t)]) ?k1 ?k2 ?k3 ?k5 ?kA ?kF ?kK hfo hcr ?k8 ?k9 ?kB ?_ ?c2 ?c3 ?c4; (case kA => exact rfl); (case kF => exact rfl); (case kK => assumption); (case k1 => k_asm); (case k2 => k_asm); (case k3 => k_asm); (case k5 => k_asm); (case k8 => ktr_room); (case k9 => exact rfl); (case kB => exact locs rfl); (case c2 => exact rfl); (case c3 => exact rfl); (case c4 => exact rfl); k_whole; intro L' h' tk' F' cells' B' X' T')
  obtain ⟨hlt, oP, hoP1, hoP⟩ := cells' (Str.ofString "path") (L' + 1) (by with_unfolding_all exact .head _)
  have N' : News _ L' h' [(L' + 1, oP)] := fun q hq => by
    rw [List.mem_singleton.mp hq]
    exact ⟨hoP1, Nat.ne_of_gt hlt, Heap.get?_none_of_le (Nat.le_trans F'.above (Nat.le_of_lt hlt))⟩
  clear cells' hoP1
  (try dsimp only); (try k_lift B'); (try k_fold)
  k_steps
  delta Stop
  rename Fr _ _ _ _ => F4
  rename News _ _ _ _ => N4
  refine comp_pairsA (items := fs.map FileV.it) (pR out) (fun q => q.2.1) (cl := [(Str.ofString "path", L' + 1)]) (by with_unfolding_all rfl) rfl (by rfl) (by rfl) (by with_unfolding_all rfl) (by decide) (by rfl) (by decide) (by rfl) (by rfl) (by decide) (by rfl) (ax := fa) ?hl ?hsz ?htup F4 N4 ?hiter ?test ?elem ?donec
  case hl => simpa [FileV.it, Function.comp_def] using hfl
  case hsz => rw [List.length_map, sizeLine_eq]; omega
  case htup =>
    intro q hq
    obtain ⟨f, hf, rfl⟩ := List.mem_map.mp hq
    exact hft f hf
  case hiter =>
    intro K hK
    k_steps
    exact hK
  case test =>
    intro q hq I oI C oC D oD m₂ h tk E' hoC hone hmode F5 N5
    clear F4 N4
    obtain ⟨f, hf, rfl⟩ := List.mem_map.mp hq
    dsimp only [FileV.it] at hone hmode
    k_steps
    all_goals first | exact ⟨_, _, rfl, by assumption, by assumption⟩ | skip
    all_goals (show _ = runB _ _ _; unfold runB xch; simp_all)
  case elem =>
    intro q hq _ I oI C oC D oD m₂ h tk E' hoC hone hmode F5 N5
    clear F4 N4
    k_steps
    all_goals first | exact rfl | exact ⟨_, _, rfl, by assumption, by assumption⟩
  case donec =>
    intro D h tk F5 N5 hoffD
    clear F4 N4
    rw [runsEq] at N5
    rcases hv with rfl | ⟨pa, pb, rfl⟩
    · cases hfi : fs.filter fun f => runB out f.path f.mode with
      | nil =>
        rw [hfi] at N5
        have hfr : firstR out fs = none := by unfold firstR; rw [← List.head?_filter, hfi]; rfl
        have hst : stepV out fs .none = .none := by unfold stepV; rw [hfr]
        dsimp only [List.map] at N5
        k_steps
        all_goals exact hret _ [] _ _ ⟨hst.symm, rfl⟩ (Fr.keep (by assumption)) (fun _ h => nomatch h)
      | cons x xs =>
        rw [hfi] at N5
        have hfr : firstR out fs = some x := by unfold firstR; rw [← List.head?_filter, hfi]; rfl
        have hst : stepV out fs .none = .str x.path x.pt := by unfold stepV; rw [hfr]
        have hlx : (xs.map fun f => Value.str f.path f.pt).length ≤ 100 := by
          have h1 := List.length_filter_le (fun f => runB out f.path f.mode) fs
          rw [hfi] at h1
          rw [List.length_map]
          simp only [List.length_cons] at h1
          omega
        dsimp only [List.map] at N5
        k_steps
        all_goals exact hret _ [] _ _ ⟨hst.symm, rfl⟩ (Fr.keep (by assumption)) (fun _ h => nomatch h)
    · have hst : stepV out fs (.str pa pb) = .str pa pb := rfl
      k_steps
      all_goals exact hret _ [] _ _ ⟨hst.symm, rfl⟩ (Fr.keep (by assumption)) (fun _ h => nomatch h)
end Mine
end
section
open PySem PySem.W PySem.W.X PySem.Spec PySem.Calls PyProof.Rows
set_option maxRecDepth 100000
set_option maxHeartbeats 8000000
namespace Mine
theorem FnAt.up {q : Addr} {h h' : Heap} (X : FnAt q h) (k : Keeps h h') : FnAt q h' := by obtain ⟨oc, od, fd, sl, e⟩ := X; exact ⟨oc, od, fd, sl, k _ _ e⟩
theorem Fr.keeps' {h₀ h : Heap} {L : Addr} {m : Str → Option Value} (F : Fr h₀ L h m) : Keeps h₀ h := F.keep
section
variable {prog : Program} {w : World} {A : Around} {E : Value → Shared → Prop} {s : Shared} {h₀ : Heap} {L : Addr} {m : Str → Option Value} {news : Led}
theorem iter_lst {l : Addr} {items : Array Value} {Q : Value → Shared → Prop} (F : Fr h₀ L s.heap m) (N : News h₀ L s.heap news) (hl : h₀.IsList l items)
    (h : ∀ (I : Addr) h', Fr h₀ L h' m → News h₀ L h' ((I, { cls := .type "list_iterator", data := .fields #[.ref l, .int 0 0] }) :: news) → (∀ p ∈ news, p.1 < I) → Q (.ref I) { s with heap := h' }) :
    wpAny (model prog w) A (call (.builtin "iter") [.ref l]) Q E s := by
  refine call_function_entry (by decide +kernel) (by decide +kernel) kdk_entry_iter (kdk_args_iter _) ?_
  unfold Builtin.«iter»
  refine wpAny_bind (m := someArgs "iter" 1 2 _) (wpAny_of_eq (a := [Value.ref l]) (by first | rfl | kernel_rfl!) ?_)
  show wpAny _ _ (pyIter (.ref l) >>= _) _ _ _
  refine wpAny_bind (wpAny_pyIter_list (hl.at fun o e => F.keep _ o e) ?_)
  exact wpAny_pure ⟨_, rfl, h _ _ (F.push _) (News.push F N _ rfl) (fun q hq => Heap.lt_size (N q hq).1)⟩
end
local macro_rules | `(tactic| walk_at "call builtin:iter") => `(tactic| (k_here; (refine iter_lst (by assumption) (by assumption) (by assumption) ?_); intro I' h' F' N' l1))
local macro_rules | `(tactic| walk_at "callWith ref") => `(tactic| (k_here; k_dflt (refine' callWith_F ?k1 ?_; (case k1 => exact FnAt.up (by assumption) (Fr.keeps' (by assumption))); k_whole)))
local macro_rules | `(tactic| walk_at "FnAt") => `(tactic| (k_dflt (exact FnAt.up (by assumption) (Fr.keeps' (by assumption)))))
set_option hygiene false in
local macro_rules | `(tactic| walk_at "call ref") => `(tactic| (k_here; (with_reducible show wpAny _ _ (call (Value.ref _) [_, _]) _ _ _); k_dflt (refine' Cl.use ?c ?B ?F ?X ?N ?T ?hk ?h1 ?h2 ?hp ?_; (case c => assumption); (case hp => assumption); walk_at "useB"); walk_at "useD"))
local macro_rules | `(tactic| walk_at "pyIter ref") => `(tactic| ((with_reducible show wpAny _ _ (pyIter (Value.ref _)) (fun it s₂ => LoopAtV _ _ _ _ _ _ _ _ _ it s₂) _ _); refine Stop.out ?_))
local macro_rules | `(tactic| walk_at "InvEndN") => `(tactic| (refine Stop.out ?_))
theorem reduce_ok (f sa : Addr) (vs : List Value) (R : Nat → Value → Prop) (P : Heap → Prop) (hP : ∀ h h', Keeps h h' → P h → P h') (hfn : ∀ h, P h → FnAt f h) (h0 : R 0 .none) (hvs : vs.length ≤ 100)
    (hstep : ∀ i v x, vs[i]? = some x → R i v → ∃ g, R (i + 1) g ∧ Cl 460 2700 f [v, x] P (fun _ r tl => r = g ∧ tl = [])) :
    Cl 450 2600 37 [.ref f, .ref sa, .none] (fun h => P h ∧ h.IsList sa vs.toArray) (fun _ r tl => R vs.length r ∧ tl = []) := by
  unfold Cl; intros; rename_i hpre hret
  obtain ⟨hpp, hsl⟩ := hpre
  have hfa := hfn _ hpp
  refine wpAny_call ?_
  k_dflt (refine' enter_S (binds := [(Str.ofString "function", .ref f), (Str.ofString "sequence", .ref sa), (Str.ofString "initial", .none)]) ?k1 ?k2 ?k3 ?k5 ?kA ?kF ?kK ?k6 ?k7 ?k8 ?k9 ?kB ?_ ?c2 ?c3 ?c4 ?c5; (case kA => exact rfl); (case kF => exact rfl); (case kK => assumption); (case k1 => k_asm); (case k2 => k_asm); (case k3 => k_asm); (case k5 => k_asm); (case k6 => k_is); (case k7 => k_is); (case k8 => ktr_room); (case k9 => exact binds_K (by k_in) rfl (by k_is) rfl rfl rfl); (case c5 => decide); (case kB => exact locs rfl); (case c2 => exact rfl); (case c3 => exact rfl); (case c4 => exact rfl); k_whole; intro L' h' F' N' B' X' T'; (try dsimp only); (try k_lift B'); (try k_fold))
  k_steps
  delta Stop
  rename Fr _ _ _ _ => F1
  rename News _ _ _ _ => N1
  obtain ⟨e1, e2, e3⟩ := N1 _ (.head _)
  dsimp only at e1 e2 e3
  have hsl1 := hsl.at fun o e => F1.keep _ o e
  have hit : Heap.IsListIter _ _ sa 0 := ⟨_, e1, rfl, rfl⟩
  refine wpAny_pyIter_listiter hit ?_
  refine loop_gen (news := []) (fun i m nx => nx = [] ∧ ∃ v, R i v ∧ m (Str.ofString "value") = some v ∧ ∀ z, z ≠ Str.ofString "element" → z ≠ Str.ofString "value" → z ≠ Str.ofString "it" → m z = List.lookup z [(Str.ofString "function", Value.ref f), (Str.ofString "sequence", Value.ref sa), (Str.ofString "initial", Value.none)].reverse)
    (Walks.list rfl _ sa ?hne vs.toArray) ?hL e3 (by simp) (by simp) ⟨hit, hsl1⟩ F1 (fun _ h => nomatch h) ⟨rfl, .none, h0, by simp, fun z h1 h2 h3 => by simp only [if_neg h2, if_neg h3]⟩ ?turn ?done
  case hne =>
    intro q
    obtain ⟨o, e, _⟩ := hsl
    rw [← q, e] at e3; cases e3
  case hL =>
    intro hm
    rcases List.mem_cons.mp hm with q | hm
    · exact e2 q.symm
    · have q := List.mem_singleton.mp hm
      obtain ⟨o, e, _⟩ := hsl
      exact absurd (Heap.lt_size e) (Nat.not_lt.mpr (q ▸ F1.above))
  case turn =>
    clear hit hsl1 N1
    rintro i v m₁ news₁ h tk own hin hPi ha ho ⟨rfl, val, hR, hval, hm⟩ F2 N2
    dsimp only [List.nil_append] at N2
    have hx : vs[i]? = some v := by simpa using hPi
    obtain ⟨g, hg, c⟩ := hstep i val v hx hR
    have hmap : (fun y => if y = Str.ofString "element" then some v else m₁ y) = fun y => if y = Str.ofString "element" then some v else if y = Str.ofString "value" then some val else if y = Str.ofString "it" then m₁ y else List.lookup y [(Str.ofString "function", Value.ref f), (Str.ofString "sequence", Value.ref sa), (Str.ofString "initial", Value.none)].reverse := by
      funext y
      by_cases h1 : y = Str.ofString "element"
      · simp only [if_pos h1]
      · by_cases h2 : y = Str.ofString "value"
        · simp only [if_neg h1, if_pos h2]; rw [h2]; exact hval
        · by_cases h3 : y = Str.ofString "it"
          · simp only [if_neg h1, if_neg h2, if_pos h3]
          · simp only [if_neg h1, if_neg h2, if_neg h3]; exact hm y h1 h2 h3
    have F3 : Fr _ L' h _ := hmap ▸ F2
    replace N2 : News _ L' h own := N2
    have hph : P h := hP _ _ F3.keep hpp
    clear F2 F1
    k_steps
    all_goals delta Stop
    all_goals exact InvEndN.intro (by assumption) (by assumption) ⟨rfl, _, hg, by simp, fun z h1 h2 h3 => by simp only [if_neg h1, if_neg h2, if_neg h3]⟩ rfl (fun _ h => nomatch h) (fun p hp => hp)
  case done =>
    rintro m₁ news₁ h tk ⟨rfl, val, hR, hval, hm⟩ F2 N2
    have hmap : m₁ = fun y => if y = Str.ofString "value" then some val else m₁ y := by
      funext y
      by_cases h2 : y = Str.ofString "value"
      · simp only [if_pos h2]; rw [h2]; exact hval
      · simp only [if_neg h2]
    have F3 : Fr _ L' h _ := hmap ▸ F2
    replace N2 : News _ L' h [] := N2
    clear F1 N1 hit F2
    rw [List.size_toArray] at hR
    k_steps
    all_goals exact hret _ [] _ _ ⟨hR, rfl⟩ (Fr.keep (by assumption)) (fun _ h => nomatch h)
end Mine
end
section
open PySem PySem.W PySem.W.X PySem.Spec PySem.Calls PyProof.Rows
set_option maxRecDepth 100000
set_option maxHeartbeats 8000000
namespace Mine
open PySem.Builtin
noncomputable abbrev ns0 (hs : Nat → Int) (ts : Nat → Tok) (sl f1 f2 f3 f4 f5 f6 sa : Addr) : Array DictEntry := #[
  ⟨hs 0, .str (Str.ofString "__module__") (ts 0), .str (Str.ofString "cpy313.functools") (ts 20)⟩,
  ⟨hs 1, .str (Str.ofString "__qualname__") (ts 1), .str (Str.ofString "cmp_to_key.<locals>.K") (ts 22)⟩,
  ⟨hs 2, .str (Str.ofString "__firstlineno__") (ts 2), .int 7 (ts 21)⟩,
  ⟨hs 3, .str (Str.ofString "__slots__") (ts 3), .ref sl⟩,
  ⟨hs 4, .str (Str.ofString "__init__") (ts 4), .ref f1⟩,
  ⟨hs 5, .str (Str.ofString "__lt__") (ts 5), .ref f2⟩,
  ⟨hs 6, .str (Str.ofString "__gt__") (ts 6), .ref f3⟩,
  ⟨hs 7, .str (Str.ofString "__eq__") (ts 7), .ref f4⟩,
  ⟨hs 8, .str (Str.ofString "__le__") (ts 8), .ref f5⟩,
  ⟨hs 9, .str (Str.ofString "__ge__") (ts 9), .ref f6⟩,
  ⟨hs 10, .str (Str.ofString "__hash__") (ts 10), .none⟩,
  ⟨hs 11, .str (Str.ofString "__static_attributes__") (ts 11), .ref sa⟩]
theorem sT : isSubtype (.type "tuple") (.type "tuple") = pure true := by kernel_rfl
theorem sD : isSubtype (.type "dict") (.type "dict") = pure true := by kernel_rfl
theorem sY : isSubtype (.type "type") (.type "type") = pure true := by kernel_rfl
theorem ext0 : extendedBase [.type "object"] = pure (.type "object") := by kernel_rfl
theorem turned0 : notOverATurnedClass [.type "object"] = pure () := by kernel_rfl
theorem best0 : Slots.bestBase [.type "object"] = pure (.type "object") := by kernel_rfl
theorem sn0 : Slots.slotNamesOf (.type "object") = pure [] := by kernel_rfl
theorem gd0 : Slots.givesDict (.type "object") = pure false := by kernel_rfl
theorem gw0 : Slots.givesWeak (.type "object") = pure false := by kernel_rfl
theorem vs0 : Slots.varSize (.type "object") = pure false := by kernel_rfl
theorem lin0 : linearize [.type "object"] mroOf = pure [.type "object"] := by kernel_rfl
theorem hook0 : mroHook? (.type "type") = pure none := by kernel_rfl
theorem made0 : Bind.madeBy (.type "object") = pure (some "object.__new__") := by kernel_rfl
theorem typeO : typeOf (.type "object") = pure (.type "type") := by kernel_rfl
theorem isTO : isType (.type "object") = pure true := by kernel_rfl
theorem iterD : typeLookup (.type "dict") "__iter__" = pure (some (.builtin "dict.__iter__")) := by kernel_rfl
theorem wlk0 : typeLookup (.type "object") "__weakref__" = pure none := by kernel_rfl
theorem isId : Slots.isIdentifier (Str.ofString "obj") = some true := by kernel_rfl
section
variable {prog : Program} {w : World} {A : Around} {h : Heap} {g : Array GenState} {d : Drawn} {tk : Nat} {os : OsState} {E : Value → Shared → Prop}
theorem read_K {Q : Slots.Plan → Shared → Prop} {sl f1 f2 f3 f4 f5 f6 sa : Addr} {hs : Nat → Int} {ts : Nat → Tok} {t0 : Tok} {n : Nat}
   (hl : h.get? sl = some ⟨.type "list", none, .seq #[.str (Str.ofString "obj") t0] n, #[]⟩)
   (hq : ∀ h', (∀ b o, h.get? b = some o → h'.get? b = some o) → Q { names := [Str.ofString "obj"], dict := false, weak := false, inherited := [] } ⟨h', g, d, tk, os⟩) :
   wpAny (model prog w) A (Slots.read (Str.ofString "K") [.type "object"] (ns0 hs ts sl f1 f2 f3 f4 f5 f6 sa)) Q E ⟨h, g, d, tk, os⟩ := by
  unfold Slots.read
  refine wpAny_bind (wpAny_of_eq best0 ?_)
  refine wpAny_bind (wpAny_of_eq sn0 ?_)
  refine wpAny_bind (wpAny_of_eq gd0 ?_)
  refine wpAny_bind (wpAny_of_eq gw0 ?_)
  refine wpAny_bind (wpAny_of_eq vs0 ?_)
  have e : (ns0 hs ts sl f1 f2 f3 f4 f5 f6 sa).find? (·.key.isStr (Str.ofString "__slots__")) = some ⟨hs 3, .str (Str.ofString "__slots__") (ts 3), .ref sl⟩ := by rfl
  dsimp only
  rw [e]
  dsimp only
  refine wpAny_bind (wpAny_rule ?_)
  repeat (first | ((with_reducible show wpAny _ _ (collect _) _ _ _); refine collect_list (l := sl) (vs := [.str (Str.ofString "obj") t0]) ⟨_, hl, rfl, _, rfl⟩ ?_) | (refine wpAny_of_eq vs0 ?_) | (rw [isId]; dsimp only) | wp_step | (with_reducible refine wpAny_ite_false (by kernel_rfl) ?_) | (with_reducible refine wpAny_ite_true (by kernel_rfl) ?_))
  refine hq _ fun b o e => ?_
  rw [Heap.get?_update_ne _ _ _ _ (Nat.ne_of_lt (Heap.lt_size e))]
  exact Heap.get?_push_of_some _ e
/-- a mark at which the steps stand still -/
noncomputable def Halt (p : Prop) : Prop := p
theorem Halt.out {p : Prop} (h : Halt p) : p := h
/-- a state whose heap is a ledger over h₀ -/
theorem m_alloc {h₀ : Heap} {news : Led} {o : Obj} {Q : Addr → Shared → Prop} (D : Mem h₀ h [] news) (hf : o.isFreed = false)
   (k : ∀ a h', Mem h₀ h' [] ((a, o) :: news) → (∀ b x, h₀.get? b = some x → b ≠ a) → Q a ⟨h', g, d, tk, os⟩) : wpAny (model prog w) A (alloc o) Q E ⟨h, g, d, tk, os⟩ :=
  wpAny_alloc (k _ _ (D.alloc hf) fun b x e q => by
    obtain ⟨x', e'⟩ := D.there e
    exact absurd (Heap.lt_size e') (by rw [q]; exact Nat.lt_irrefl _))
theorem m_load {h₀ : Heap} {news : Led} {a : Addr} {o : Obj} {Q : Obj → Shared → Prop} (D : Mem h₀ h [] news) (i : Nat) (hi : news[i]? = some (a, o)) (hq : Q o ⟨h, g, d, tk, os⟩) : wpAny (model prog w) A (load a) Q E ⟨h, g, d, tk, os⟩ :=
  wpAny_load (D.at i a o hi) hq
theorem m_loadP {h₀ : Heap} {news : Led} {a : Addr} {p : Option Value} {o : Obj} {Q : Obj → Shared → Prop} (D : Mem h₀ h [] news) (i : Nat) (hi : news[i]? = some (a, o)) (hq : Q o ⟨h, g, d, tk, os⟩) : wpAny (model prog w) A (loadPart a p) Q E ⟨h, g, d, tk, os⟩ :=
  wpAny_loadPart_at (D.at i a o hi) hq
theorem m_loadO {h₀ : Heap} {news : Led} {a : Addr} {o : Obj} {Q : Obj → Shared → Prop} (D : Mem h₀ h [] news) (hi : h₀.get? a = some o) (hq : Q o ⟨h, g, d, tk, os⟩) : wpAny (model prog w) A (load a) Q E ⟨h, g, d, tk, os⟩ :=
  wpAny_load (D.old a o hi (by simp [away])) hq
theorem m_loadPO {h₀ : Heap} {news : Led} {a : Addr} {p : Option Value} {o : Obj} {Q : Obj → Shared → Prop} (D : Mem h₀ h [] news) (hi : h₀.get? a = some o) (hq : Q o ⟨h, g, d, tk, os⟩) : wpAny (model prog w) A (loadPart a p) Q E ⟨h, g, d, tk, os⟩ :=
  wpAny_loadPart_at (D.old a o hi (by simp [away])) hq
theorem m_updP {h₀ : Heap} {news : Led} {a : Addr} {p : Option Value} {o : Obj} {f : Obj → Obj} {Q : Unit → Shared → Prop} (D : Mem h₀ h [] news) (i : Nat) (hi : news[i]? = some (a, o)) (hf : (f o).isFreed = false)
   (k : ∀ h', Mem h₀ h' [] (news.set i (a, f o)) → Q () ⟨h', g, d, tk, os⟩) : wpAny (model prog w) A (updatePart a p f) Q E ⟨h, g, d, tk, os⟩ :=
  wpAny_updatePart (D.at i a o hi) (k _ (D.update hi hf))
theorem m_upd {h₀ : Heap} {news : Led} {a : Addr} {o : Obj} {f : Obj → Obj} {Q : Unit → Shared → Prop} (D : Mem h₀ h [] news) (i : Nat) (hi : news[i]? = some (a, o)) (hf : (f o).isFreed = false)
   (k : ∀ h', Mem h₀ h' [] (news.set i (a, f o)) → Q () ⟨h', g, d, tk, os⟩) : wpAny (model prog w) A (update a f) Q E ⟨h, g, d, tk, os⟩ :=
  wpAny_update (D.at i a o hi) (k _ (D.update hi hf))
end
end Mine
end
section
open PySem PySem.W PySem.W.X PySem.Spec PySem.Calls PyProof.Rows
set_option maxRecDepth 100000
set_option maxHeartbeats 8000000
namespace Mine
/-- the objects of the class K that a call of its instances reaches -/
structure KAt where
  C : Addr
  ns : Addr
  md : Addr
  f1 : Addr
  c1 : Addr
  f2 : Addr
  c2 : Addr
  cell : Addr
  lam : Addr
  lc : Addr
  bT : Addr
noncomputable abbrev initD := defNamed clsBody (Str.ofString "__init__")
noncomputable abbrev ltD := defNamed clsBody (Str.ofString "__lt__")
noncomputable abbrev clsObj (C ns bT : Addr) (t1 t2 : Tok) : Obj := ⟨.type "type", none, .cls { name := Str.ofString "K", bases := [.type "object"], mro := [.ref C, .type "object"], ns := ns, qualname := Str.ofString "cmp_to_key.<locals>.K", hasDict := false, slotNames := [Str.ofString "obj"], subclasses := [], abstract := false, collection := none, hasDel := false }, #[some (.ref bT), none, some (.str (Str.ofString "K") t1), some (.str (Str.ofString "cmp_to_key.<locals>.K") t2), some (.builtin "object.__new__"), some (.bool false)]⟩
noncomputable abbrev nsObj (hs : Nat → Int) (ts : Nat → Tok) (sl f1 f2 f3 f4 f5 f6 sa md : Addr) (ep : Nat) : Obj := ⟨.type "dict", none, .dict #[
  ⟨hs 0, .str (Str.ofString "__module__") (ts 0), .str (Str.ofString "cpy313.functools") (ts 20)⟩,
  ⟨hs 2, .str (Str.ofString "__firstlineno__") (ts 2), .int 7 (ts 21)⟩,
  ⟨hs 3, .str (Str.ofString "__slots__") (ts 3), .ref sl⟩,
  ⟨hs 4, .str (Str.ofString "__init__") (ts 4), .ref f1⟩,
  ⟨hs 5, .str (Str.ofString "__lt__") (ts 5), .ref f2⟩,
  ⟨hs 6, .str (Str.ofString "__gt__") (ts 6), .ref f3⟩,
  ⟨hs 7, .str (Str.ofString "__eq__") (ts 7), .ref f4⟩,
  ⟨hs 8, .str (Str.ofString "__le__") (ts 8), .ref f5⟩,
  ⟨hs 9, .str (Str.ofString "__ge__") (ts 9), .ref f6⟩,
  ⟨hs 10, .str (Str.ofString "__hash__") (ts 10), .none⟩,
  ⟨hs 11, .str (Str.ofString "__static_attributes__") (ts 11), .ref sa⟩,
  ⟨hs 12, .str (Str.ofString "obj") (ts 12), .ref md⟩,
  ⟨hs 13, .str (Str.ofString "__doc__") (ts 13), .none⟩] ep, #[]⟩
noncomputable abbrev mdObj (C : Addr) (t u : Tok) : Obj := ⟨.type "member_descriptor", none, .fields #[.str (Str.ofString "obj") t, .ref C, .builtin "proto.slot", .builtin "proto.slot#set", .int 0 u], #[]⟩
noncomputable abbrev fnObj (name qual : Str) (d : Arguments × List Stmt × Scope) (cl : List (Str × Addr)) (pm ct : Value) (c : Addr) : Obj :=
  ⟨.type "function", none, .func (fnX name qual d.1 d.2.1 d.2.2 cl .none .none .none pm none (.ref c) ct), #[]⟩
local macro_rules | `(tactic| x_close) => `(tactic| (refine ⟨_, _, _, _, _, rfl, rfl, by assumption, .tail _ (.head _), rfl, ⟨_, rfl⟩, rfl, ?_⟩; kernel_rfl))
theorem inst_run (prog : Program) (w : World) (s : Shared) (X : (hd.heap_1 w.params).In s.heap) (C ns md f1 c1 bT sl f2 f3 f4 f5 f6 sa item : Addr) (t1 t2 tm um : Tok) (pm ct1 : Value) (hs : Nat → Int) (ts : Nat → Tok) (ep : Nat) (r1 r2 r3 r4 r5 : Value) (n10 n16 : Int) (fl : Str) (tc : Nat → Tok)
   (hC : s.heap.get? C = some (clsObj C ns bT t1 t2)) (hns : s.heap.get? ns = some (nsObj hs ts sl f1 f2 f3 f4 f5 f6 sa md ep)) (hmd : s.heap.get? md = some (mdObj C tm um))
   (hf1 : s.heap.get? f1 = some (fnObj (Str.ofString "__init__") (Str.ofString "cmp_to_key.<locals>.K.__init__") initD [] pm ct1 c1))
   (hc1 : s.heap.get? c1 = some ⟨.type "code", none, .fields #[.str (Str.ofString "__init__") (tc 0), .str (Str.ofString "cmp_to_key.<locals>.K.__init__") (tc 1), .str fl (tc 2), .int 11 (tc 3), .int 2 (tc 4), .int 0 (tc 5), .int 0 (tc 6), .int 19 (tc 7), r1, .bool true, .int n10 (tc 8), r2, .none, r3, r4, r5, .int n16 (tc 9), .int 11 (tc 10), .str fl (tc 11)], #[]⟩)
   (E : Value → Shared → Prop) :
   wpAny (model prog w) ⟨none, 600, none, none, 9000⟩ (call (.ref C) [.ref item]) (fun r s' => ∃ x o h' tk news, r = .ref x ∧ s' = { s with heap := h', toks := tk } ∧ Mem s.heap h' [] news ∧ (x, o) ∈ news ∧ o.cls = .ref C ∧ (∃ d, o.dict = some d) ∧ o.data = .plain ∧ o.slots = #[some (.ref item)]) E s := by
  obtain ⟨sd, hsd⟩ : ∃ sd, sd = initD := ⟨_, rfl⟩
  rw [← hsd] at hf1
  conv at hsd => rhs; whnf
  subst hsd
  dsimp only [clsObj, nsObj, mdObj, fnObj] at hC hns hmd hf1
  x_run
end Mine
end
section
open PySem PySem.W PySem.W.X PySem.Spec PySem.Calls PyProof.Rows
set_option maxRecDepth 100000
set_option maxHeartbeats 3000000
namespace Mine
open PySem.Builtin
local macro_rules | `(tactic| x_close) => `(tactic| (refine ⟨_, _, _, _, rfl, rfl, by assumption, ?_⟩; with_unfolding_all exact .head _))
theorem sup_run (w : World) (s : Shared) (X : (hd.heap_1 w.params).In s.heap) (C ns bT : Addr) (t1 t2 : Tok) (hC : s.heap.get? C = some (clsObj C ns bT t1 t2)) (E : Value → Shared → Prop) :
   wpAny (model PySem.Challenge.pw_pd0110_01 w) ⟨none, 600, none, none, 9000⟩ (call (.type "super") [.ref C, .ref C]) (fun r s' => ∃ x h' tk news, r = .ref x ∧ s' = { s with heap := h', toks := tk } ∧ Mem s.heap h' [] news ∧ (x, (⟨.type "super", none, .fields #[.ref C, .ref C, .ref C], #[]⟩ : Obj)) ∈ news) E s := by
  dsimp only [clsObj] at hC
  x_run
local macro_rules | `(tactic| x_close) => `(tactic| (refine ⟨_, _, rfl, by first | assumption | exact Mem.start _, rfl⟩))
theorem sub_run (w : World) (s : Shared) (X : (hd.heap_1 w.params).In s.heap) (b C ns bT : Addr) (t1 t2 : Tok) (hC : s.heap.get? C = some (clsObj C ns bT t1 t2)) (hb : s.heap.get? b = some ⟨.type "builtin_function_or_method", none, .fields #[.builtin "object.__init_subclass__", .ref C], #[]⟩) (E : Value → Shared → Prop) :
   wpAny (model PySem.Challenge.pw_pd0110_01 w) ⟨none, 600, none, none, 9000⟩ (call (.ref b) []) (fun r s' => ∃ h' tk, s' = { s with heap := h', toks := tk } ∧ Mem s.heap h' [] [] ∧ r = .none) E s := by
  dsimp only [clsObj] at hC
  x_run
local macro_rules | `(tactic| x_close) => `(tactic| (refine ⟨_, _, _, _, rfl, rfl, by assumption, ?_⟩; with_unfolding_all exact .head _))
theorem get_run (w : World) (s : Shared) (X : (hd.heap_1 w.params).In s.heap) (C ns bT : Addr) (t1 t2 : Tok) (hC : s.heap.get? C = some (clsObj C ns bT t1 t2)) (E : Value → Shared → Prop) :
   wpAny (model PySem.Challenge.pw_pd0110_01 w) ⟨none, 600, none, none, 9000⟩ (call (.builtin "classmethod_descriptor.__get__") [.builtin "object.__init_subclass__", .none, .ref C]) (fun r s' => ∃ x h' tk news, r = .ref x ∧ s' = { s with heap := h', toks := tk } ∧ Mem s.heap h' [] news ∧ (x, (⟨.type "builtin_function_or_method", none, .fields #[.builtin "object.__init_subclass__", .ref C], #[]⟩ : Obj)) ∈ news) E s := by
  dsimp only [clsObj] at hC
  x_run
section
variable {w : World} {A : Around} {E : Value → Shared → Prop} {h : Heap} {g : Array GenState} {d : Drawn} {tk : Nat} {os : OsState}
theorem up_of_mem {h h' : Heap} {news : Led} (D : Mem h h' [] news) : Keeps h h' := fun b o e => D.old b o e (by simp [away])
theorem at_of_mem {h h' : Heap} {news : Led} {a : Addr} {o : Obj} (D : Mem h h' [] news) (hm : (a, o) ∈ news) : h'.get? a = some o := (D.nw _ hm).1
theorem sup_call {C ns bT : Addr} {t1 t2 : Tok} {Q : Value → Shared → Prop} (hh : A.handled = none) (hdp : A.depth ≤ 600) (hu : A.units ≤ 9000) (X : (hd.heap_1 w.params).In h) (hC : h.get? C = some (clsObj C ns bT t1 t2))
   (hq : ∀ x h' tk', Keeps h h' → h'.get? x = some ⟨.type "super", none, .fields #[.ref C, .ref C, .ref C], #[]⟩ → Q (.ref x) ⟨h', g, d, tk', os⟩) :
   wpAny (model PySem.Challenge.pw_pd0110_01 w) A (call (.type "super") [.ref C, .ref C]) Q E ⟨h, g, d, tk, os⟩ :=
  wpAny_big (wpAny_mono (sup_run w ⟨h, g, d, tk, os⟩ X C ns bT t1 t2 hC E) (fun r s' ⟨x, h', tk', news, e1, e2, D, hm⟩ => by subst e1 e2; exact hq x h' tk' (up_of_mem D) (at_of_mem D hm)) fun _ _ e => e) hh hdp hu rfl rfl
theorem get_call {C ns bT : Addr} {t1 t2 : Tok} {Q : Value → Shared → Prop} (hh : A.handled = none) (hdp : A.depth ≤ 600) (hu : A.units ≤ 9000) (X : (hd.heap_1 w.params).In h) (hC : h.get? C = some (clsObj C ns bT t1 t2))
   (hq : ∀ x h' tk', Keeps h h' → h'.get? x = some ⟨.type "builtin_function_or_method", none, .fields #[.builtin "object.__init_subclass__", .ref C], #[]⟩ → Q (.ref x) ⟨h', g, d, tk', os⟩) :
   wpAny (model PySem.Challenge.pw_pd0110_01 w) A (call (.builtin "classmethod_descriptor.__get__") [.builtin "object.__init_subclass__", .none, .ref C]) Q E ⟨h, g, d, tk, os⟩ :=
  wpAny_big (wpAny_mono (get_run w ⟨h, g, d, tk, os⟩ X C ns bT t1 t2 hC E) (fun r s' ⟨x, h', tk', news, e1, e2, D, hm⟩ => by subst e1 e2; exact hq x h' tk' (up_of_mem D) (at_of_mem D hm)) fun _ _ e => e) hh hdp hu rfl rfl
theorem sub_call {b C ns bT : Addr} {t1 t2 : Tok} {Q : Value → Shared → Prop} (hh : A.handled = none) (hdp : A.depth ≤ 600) (hu : A.units ≤ 9000) (X : (hd.heap_1 w.params).In h) (hC : h.get? C = some (clsObj C ns bT t1 t2))
   (hb : h.get? b = some ⟨.type "builtin_function_or_method", none, .fields #[.builtin "object.__init_subclass__", .ref C], #[]⟩)
   (hq : ∀ h' tk', Keeps h h' → Q .none ⟨h', g, d, tk', os⟩) :
   wpAny (model PySem.Challenge.pw_pd0110_01 w) A (call (.ref b) []) Q E ⟨h, g, d, tk, os⟩ :=
  wpAny_big (wpAny_mono (sub_run w ⟨h, g, d, tk, os⟩ X b C ns bT t1 t2 hC hb E) (fun r s' ⟨h', tk', e2, D, e1⟩ => by subst e1 e2; exact hq h' tk' (up_of_mem D)) fun _ _ e => e) hh hdp hu rfl rfl
theorem noOpq {C : Addr} (X : (hd.heap_1 w.params).In h) : Looks (model PySem.Challenge.pw_pd0110_01 w) h (opaqueClassAbove (.ref C)) none := looks_opaque X (by kernel_rfl)
theorem subO : classOwn (.type "object") (Str.ofString "__init_subclass__") = pure (some (.builtin "object.__init_subclass__")) := by kernel_rfl
theorem getO : typeLookup (.type "classmethod_descriptor") (Str.ofString "__get__") = pure (some (.builtin "classmethod_descriptor.__get__")) := by kernel_rfl
theorem typB : typeOf (.builtin "object.__init_subclass__") = pure (.type "classmethod_descriptor") := by kernel_rfl
theorem mro_cls {C ns bT : Addr} {t1 t2 : Tok} {Q : List Value → Shared → Prop} (hC : h.get? C = some (clsObj C ns bT t1 t2)) (hq : Q [.ref C, .type "object"] ⟨h, g, d, tk, os⟩) : wpAny (model PySem.Challenge.pw_pd0110_01 w) A (mroOf (.ref C)) Q E ⟨h, g, d, tk, os⟩ := by
  unfold mroOf classData
  refine wpAny_bind (wpAny_bind (wpAny_load hC ?_))
  exact wpAny_pure (wpAny_pure hq)
theorem afterC (C : Addr) : ([Value.ref C, Value.type "object"].dropWhile (· != Value.ref C)).drop 1 = [Value.type "object"] := by simp
theorem super_ga {so C ns bT : Addr} {t1 t2 u : Tok} {Q : PySem.Fin → Shared → Prop} (hh : A.handled = none) (hdp : A.depth ≤ 600) (hu : A.units ≤ 9000) (X : (hd.heap_1 w.params).In h) (hC : h.get? C = some (clsObj C ns bT t1 t2))
   (hso : h.get? so = some ⟨.type "super", none, .fields #[.ref C, .ref C, .ref C], #[]⟩)
   (hq : ∀ x h' tk', Keeps h h' → h'.get? x = some ⟨.type "builtin_function_or_method", none, .fields #[.builtin "object.__init_subclass__", .ref C], #[]⟩ → Q (.done (.ret (.ref x))) ⟨h', g, d, tk', os⟩) :
   wpAny (model PySem.Challenge.pw_pd0110_01 w) A (Builtin.«super.__getattribute__» ⟨[.ref so, .str (Str.ofString "__init_subclass__") u], []⟩) Q E ⟨h, g, d, tk, os⟩ := by
  have hdt : (⟨.type "super", none, .fields #[.ref C, .ref C, .ref C], #[]⟩ : Obj).data = .fields #[.ref C, .ref C, .ref C] := rfl
  have f0 : (#[.ref C, .ref C, .ref C] : Array Value)[0]? = some (.ref C) := rfl
  have f1 : (#[.ref C, .ref C, .ref C] : Array Value)[1]? = some (.ref C) := rfl
  have f2 : (#[.ref C, .ref C, .ref C] : Array Value)[2]? = some (.ref C) := rfl
  have hself : (Value.ref C == Value.ref C) = true := by simp
  unfold Builtin.«super.__getattribute__»
  repeat
    first
      | (with_reducible refine wpAny_field hso hdt f0 ?_)
      | (with_reducible refine wpAny_field hso hdt f1 ?_)
      | (with_reducible refine wpAny_field hso hdt f2 ?_)
      | (with_reducible refine ks_wpAny_notOpaque (noOpq X) ?_)
      | (with_reducible refine mro_cls hC ?_; rw [afterC])
      | (with_reducible refine wpAny_of_eq subO ?_)
      | (with_reducible refine wpAny_of_eq getO ?_)
      | (with_reducible refine wpAny_of_eq typB ?_)
      | (simp only [hself, if_true]; refine get_call hh hdp hu X hC ?_)
      | wp_step
  intro x h' tk' k e
  repeat wp_step
  exact hq x h' tk' k e
theorem getattr_sup {so C ns bT : Addr} {t1 t2 : Tok} {Q : Value → Shared → Prop} (hh : A.handled = none) (hdp : A.depth ≤ 590) (hu : A.units ≤ 8900) (X : (hd.heap_1 w.params).In h) (hC : h.get? C = some (clsObj C ns bT t1 t2))
   (hso : h.get? so = some ⟨.type "super", none, .fields #[.ref C, .ref C, .ref C], #[]⟩)
   (hq : ∀ x h' tk', Keeps h h' → h'.get? x = some ⟨.type "builtin_function_or_method", none, .fields #[.builtin "object.__init_subclass__", .ref C], #[]⟩ → Q (.ref x) ⟨h', g, d, tk', os⟩) :
   wpAny (model PySem.Challenge.pw_pd0110_01 w) A (getAttr (.ref so) (Str.ofString "__init_subclass__")) Q E ⟨h, g, d, tk, os⟩ := by
  have hlk := F.ks_slot_super_ga.lookup
  have hT : ∀ t', (⟨h, g, d, t', os⟩ : Shared).TypeIs (.ref so) "super" := fun _ => ⟨_, hso, rfl⟩
  unfold getAttr getAttrBy
  refine wpAny_bind (wpAny_mkText (wpAny_holding (wpAny_bind (wpAny_typeOf (hT _) (wpAny_bind (wpAny_of_eq hlk ?_))))))
  show wpAny _ _ (getAttrByItsOwn (.ref so) (.str (Str.ofString "__init_subclass__") tk) (.type "super") (.builtin "super.__getattribute__") true false) _ _ _
  unfold getAttrByItsOwn hookBefore callGetattribute boundAndCalled
  refine wpAny_bind (wpAny_of_eq (show (if onTheHeap (.type "super") then typeLookup (.type "super") "__getattr__" else pure none) = pure none from rfl) ?_)
  refine wpAny_bind (wpAny_attempt (wpAny_holding ?_))
  show wpAny _ _ (bindSpecial (.builtin "super.__getattribute__") (.ref so) >>= _) _ _ _
  refine wpAny_bind (wpAny_of_eq (F.ks_slot_super_ga.bind _) ?_)
  refine wpAny_mono (Q := fun v s' => ∃ x h' tk', v = .ref x ∧ s' = ⟨h', g, d, tk', os⟩ ∧ Keeps h h' ∧ h'.get? x = some ⟨.type "builtin_function_or_method", none, .fields #[.builtin "object.__init_subclass__", .ref C], #[]⟩) (E := fun _ _ => False)
    (wpAny_call_entry F.ks_slot_super_ga (hT _) F.ks_entry_super_ga (super_ga ?a ?b ?c X hC hso fun x h' tk' k e => ⟨_, rfl, x, h', tk', rfl, rfl, k, e⟩) (F.ks_gaArgs_super _ _)) (fun v s' hv => ?_) fun _ _ z => z.elim
  case a => exact hh
  case b => exact Nat.le_trans hdp (by decide)
  case c => show A.units + _ ≤ 9000; exact Nat.le_trans (Nat.add_le_add_right hu _) (by decide)
  obtain ⟨x, h', tk', rfl, rfl, k, e⟩ := hv
  exact wpAny_pure (hq x h' tk' k e)
end
end Mine
end
section
open PySem PySem.W PySem.W.X PySem.Spec PySem.Calls PyProof.Rows
set_option maxRecDepth 100000
set_option maxHeartbeats 3000000
namespace Mine
open PySem.Builtin
noncomputable abbrev ns1 (hs : Nat → Int) (ts : Nat → Tok) (sl f1 f2 f3 f4 f5 f6 sa : Addr) : Array DictEntry := #[
  ⟨hs 0, .str (Str.ofString "__module__") (ts 0), .str (Str.ofString "cpy313.functools") (ts 20)⟩,
  ⟨hs 2, .str (Str.ofString "__firstlineno__") (ts 2), .int 7 (ts 21)⟩,
  ⟨hs 3, .str (Str.ofString "__slots__") (ts 3), .ref sl⟩,
  ⟨hs 4, .str (Str.ofString "__init__") (ts 4), .ref f1⟩,
  ⟨hs 5, .str (Str.ofString "__lt__") (ts 5), .ref f2⟩,
  ⟨hs 6, .str (Str.ofString "__gt__") (ts 6), .ref f3⟩,
  ⟨hs 7, .str (Str.ofString "__eq__") (ts 7), .ref f4⟩,
  ⟨hs 8, .str (Str.ofString "__le__") (ts 8), .ref f5⟩,
  ⟨hs 9, .str (Str.ofString "__ge__") (ts 9), .ref f6⟩,
  ⟨hs 10, .str (Str.ofString "__hash__") (ts 10), .none⟩,
  ⟨hs 11, .str (Str.ofString "__static_attributes__") (ts 11), .ref sa⟩]
theorem drop1 (hs : Nat → Int) (ts : Nat → Tok) (sl f1 f2 f3 f4 f5 f6 sa : Addr) : Obj.dropName (Str.ofString "__qualname__") ⟨.type "dict", none, .dict (ns0 hs ts sl f1 f2 f3 f4 f5 f6 sa) 0, #[]⟩ = ⟨.type "dict", none, .dict (ns1 hs ts sl f1 f2 f3 f4 f5 f6 sa) 1, #[]⟩ := by kernel_rfl
theorem put1 (hs : Nat → Int) (ts : Nat → Tok) (sl f1 f2 f3 f4 f5 f6 sa : Addr) (hh : Int) (u : Tok) (v : Value) : Obj.putName (Str.ofString "obj") hh (.str (Str.ofString "obj") u) v ⟨.type "dict", none, .dict (ns1 hs ts sl f1 f2 f3 f4 f5 f6 sa) 1, #[]⟩ = ⟨.type "dict", none, .dict ((ns1 hs ts sl f1 f2 f3 f4 f5 f6 sa).push ⟨hh, .str (Str.ofString "obj") u, v⟩) 2, #[]⟩ := by kernel_rfl
theorem put2 (hs : Nat → Int) (ts : Nat → Tok) (sl f1 f2 f3 f4 f5 f6 sa : Addr) (hh h2 : Int) (u u2 : Tok) (v : Value) : Obj.putName (Str.ofString "__doc__") h2 (.str (Str.ofString "__doc__") u2) .none ⟨.type "dict", none, .dict ((ns1 hs ts sl f1 f2 f3 f4 f5 f6 sa).push ⟨hh, .str (Str.ofString "obj") u, v⟩) 2, #[]⟩ = ⟨.type "dict", none, .dict (((ns1 hs ts sl f1 f2 f3 f4 f5 f6 sa).push ⟨hh, .str (Str.ofString "obj") u, v⟩).push ⟨h2, .str (Str.ofString "__doc__") u2, .none⟩) 3, #[]⟩ := by kernel_rfl
theorem filt (a : Addr) : List.filter (fun x => x != Value.ref a) [Value.ref a, Value.type "object"] = [Value.type "object"] := by simp
theorem newO : typeLookup (.type "object") "__new__" = pure (some (.builtin "object.__new__")) := by kernel_rfl
theorem sl0 (x : Option Value) : ((#[] : Array (Option Value)) ++ Array.replicate (0 + 1 - (#[] : Array (Option Value)).size) none).setIfInBounds 0 x = #[x] := rfl
theorem sl2 (x y : Option Value) : (#[x] ++ Array.replicate (2 + 1 - (#[x] : Array (Option Value)).size) none).setIfInBounds 2 y = #[x, none, y] := rfl
theorem sl3 (x y z : Option Value) : (#[x, none, y] ++ Array.replicate (3 + 1 - (#[x, none, y] : Array (Option Value)).size) none).setIfInBounds 3 z = #[x, none, y, z] := rfl
theorem sl4 (x y z u : Option Value) : (#[x, none, y, z] ++ Array.replicate (4 + 1 - (#[x, none, y, z] : Array (Option Value)).size) none).setIfInBounds 4 u = #[x, none, y, z, u] := rfl
theorem sl5 (x y z u v : Option Value) : (#[x, none, y, z, u] ++ Array.replicate (5 + 1 - (#[x, none, y, z, u] : Array (Option Value)).size) none).setIfInBounds 5 v = #[x, none, y, z, u, v] := rfl
theorem basesE : (if ((some #[Value.type "object"]).getD #[]).toList.isEmpty = true then [Value.type "object"] else ((some #[Value.type "object"]).getD #[]).toList) = [Value.type "object"] := rfl
theorem mapClsE (f : ClassData → ClassData) (cd : ClassData) (c : Value) (d : Option Addr) (sl : Array (Option Value)) : Obj.mapCls f ⟨c, d, .cls cd, sl⟩ = ⟨c, d, .cls (f cd), sl⟩ := rfl
theorem noDelE (hs : Nat → Int) (ts : Nat → Tok) (sl f1 f2 f3 f4 f5 f6 sa : Addr) : ((ns0 hs ts sl f1 f2 f3 f4 f5 f6 sa).any fun x => x.key.isStr (Str.ofString "__del__")) = false := by kernel_rfl
theorem snS : typeLookup (.type "str") (Str.ofString "__set_name__") = pure none := by kernel_rfl
theorem snI : typeLookup (.type "int") (Str.ofString "__set_name__") = pure none := by kernel_rfl
theorem snL : typeLookup (.type "list") (Str.ofString "__set_name__") = pure none := by kernel_rfl
theorem snT : typeLookup (.type "tuple") (Str.ofString "__set_name__") = pure none := by kernel_rfl
theorem snF : typeLookup (.type "function") (Str.ofString "__set_name__") = pure none := by kernel_rfl
theorem snN : typeLookup (.type "NoneType") (Str.ofString "__set_name__") = pure none := by kernel_rfl
theorem snM : typeLookup (.type "member_descriptor") (Str.ofString "__set_name__") = pure none := by kernel_rfl
noncomputable def HookOk (h : Heap) (e : DictEntry) : Prop := laidUnderItsOwnName e.key e.val = false ∧ ∃ T, (∀ g d tk os, (⟨h, g, d, tk, os⟩ : Shared).TypeIs e.val T) ∧ typeLookup (.type T) (Str.ofString "__set_name__") = pure none
theorem new_K (w : World) (A : Around) (h : Heap) (g : Array GenState) (d : Drawn) (tk : Nat) (os : OsState) (E : Value → Shared → Prop) (Q : PySem.Fin → Shared → Prop) (bT nA sl f1 f2 f3 f4 f5 f6 sa : Addr) (nB ep nS : Nat) (hs : Nat → Int) (ts : Nat → Tok) (t t0 : Tok)
   (hh : A.handled = none) (hdp : A.depth ≤ 590) (hu : A.units ≤ 8900) (X : (hd.heap_1 w.params).In h)
   (hb : h.get? bT = some ⟨.type "tuple", none, .seq #[.type "object"] nB, #[]⟩)
   (hn : h.get? nA = some ⟨.type "dict", none, .dict (ns0 hs ts sl f1 f2 f3 f4 f5 f6 sa) ep, #[]⟩) (hnm : (nA == sysModules) = false)
   (hl : h.get? sl = some ⟨.type "list", none, .seq #[.str (Str.ofString "obj") t0] nS, #[]⟩)
   (hf : ∀ f ∈ [f1, f2, f3, f4, f5, f6], ∃ o, h.get? f = some o ∧ o.cls = .type "function") (hsa : ∃ o, h.get? sa = some o ∧ o.cls = .type "tuple")
   (hq : ∀ C ns md h' tk' hs' ts' tm um, Keeps h h' → h'.get? C = some (clsObj C ns bT t (ts 22)) → h'.get? ns = some (nsObj hs' ts' sl f1 f2 f3 f4 f5 f6 sa md 3) → h'.get? md = some (mdObj C tm um) → Q (.done (.ret (.ref C))) ⟨h', g, d, tk', os⟩)
   : wpAny (model PySem.Challenge.pw_pd0110_01 w) A (Builtin.«type.__new__» ⟨[.type "type", .str (Str.ofString "K") t, .ref bT, .ref nA], []⟩) Q E ⟨h, g, d, tk, os⟩ := by
  unfold Builtin.«type.__new__»
  (with_reducible refine wpAny_bind ?_); wp_delta; (with_reducible refine wpAny_pure ?_); (with_reducible refine wpAny_bind ?_); wp_delta; (with_reducible refine wpAny_bind ?_)
  wp_delta; (with_reducible refine wpAny_bind ?_); ((with_reducible apply wpAny_loadPart'); focus (heap_get; done)); (with_reducible refine wpAny_pure ?_)
  refine wpAny_of_eq (a := true) (by kernel_rfl) ?_
  ((with_reducible apply wpAny_ite_false); focus (rfl; done)); (with_reducible refine wpAny_bind ?_); wp_delta; (with_reducible refine wpAny_bind ?_); wp_delta; (with_reducible refine wpAny_bind ?_)
  ((with_reducible apply wpAny_loadPart'); focus (heap_get; done)); (with_reducible refine wpAny_pure ?_)
  refine wpAny_of_eq (a := true) (by kernel_rfl) ?_
  ((with_reducible apply wpAny_ite_false); focus (rfl; done)); (with_reducible refine wpAny_bind ?_); wp_delta; (with_reducible refine wpAny_bind ?_); ((with_reducible apply wpAny_load'); focus (heap_get; done)); (with_reducible refine wpAny_pure ?_)
  ((with_reducible apply wpAny_ite_false); focus (rfl; done)); (with_reducible refine wpAny_bind ?_); wp_delta; wp_delta; wp_delta; wp_delta
  (with_reducible refine wpAny_bind ?_); (with_reducible refine wpAny_bind ?_)
  with_reducible refine wpAny_of_eq isTO ?_
  ((with_reducible apply wpAny_ite_false); focus (rfl; done)); (with_reducible refine wpAny_pure ?_); wp_delta; wp_delta; (with_reducible refine wpAny_pure ?_); (with_reducible refine wpAny_bind ?_)
  wp_delta; wp_delta; wp_delta; wp_delta; (with_reducible refine wpAny_bind ?_); (with_reducible refine wpAny_bind ?_)
  with_reducible refine wpAny_of_eq typeO ?_
  (with_reducible refine wpAny_bind ?_)
  refine wpAny_of_eq (a := true) (by kernel_rfl) ?_
  ((with_reducible apply wpAny_ite_true); focus (rfl; done)); (with_reducible refine wpAny_pure ?_); wp_delta; wp_delta; (with_reducible refine wpAny_pure ?_); ((with_reducible apply wpAny_ite_false); focus (rfl; done))
  (with_reducible refine wpAny_bind ?_)
  refine wpAny_of_eq (a := ()) (by kernel_rfl) ?_
  (with_reducible refine wpAny_bind ?_)
  refine wpAny_of_eq (a := Value.type "object") (by kernel_rfl) ?_
  ((with_reducible apply wpAny_ite_false); focus (simp [*]; done)); (with_reducible refine wpAny_bind ?_); wp_delta; (with_reducible refine wpAny_bind ?_); ((with_reducible apply wpAny_loadPart'); focus (heap_get; done)); (with_reducible refine wpAny_pure ?_)
  (with_reducible refine wpAny_bind ?_); wp_delta; (with_reducible refine wpAny_bind ?_); wp_delta; (with_reducible refine wpAny_bind ?_); ((with_reducible apply wpAny_loadPart'); focus (heap_get; done))
  (with_reducible refine wpAny_pure ?_)
  with_reducible refine wpAny_of_eq iterD ?_
  ((with_reducible apply wpAny_ite_true); focus (rfl; done)); (with_reducible refine wpAny_bind ?_); (with_reducible refine wpAny_pure ?_); (with_reducible refine wpAny_bind ?_)
  with_reducible refine wpAny_holding ?_
  (refine read_K hl (fun h1 k1 => ?_); have hn1 := k1 _ _ hn; have hb1 := k1 _ _ hb; have hl1 := k1 _ _ hl; have D := Mem.start h1)
  (with_reducible refine wpAny_bind ?_); wp_delta; ((with_reducible apply wpAny_ite_false); focus (rfl; done)); wp_delta; wp_delta; (with_reducible refine wpAny_bind ?_)
  refine m_alloc (by assumption) rfl (fun a h' D n' => ?_)
  (with_reducible refine wpAny_pure ?_); wp_delta
  with_reducible refine wpAny_ite_false (by kernel_rfl) ?_
  (with_reducible refine wpAny_bind ?_); wp_delta
  with_reducible refine wpAny_ite_false (by kernel_rfl) ?_
  (with_reducible refine wpAny_pure ?_); wp_delta
  with_reducible refine wpAny_ite_false (by kernel_rfl) ?_
  (with_reducible refine wpAny_bind ?_); wp_delta; (with_reducible refine wpAny_bind ?_)
  first | refine m_loadP (by assumption) 0 rfl ?_ | refine m_loadP (by assumption) 1 rfl ?_ | refine m_loadP (by assumption) 2 rfl ?_ | refine m_loadPO (by assumption) (by assumption) ?_
  wp_delta; (with_reducible refine wpAny_pure ?_); (with_reducible refine wpAny_bind ?_); wp_delta; (with_reducible refine wpAny_bind ?_)
  first | refine m_loadP (by assumption) 0 rfl ?_ | refine m_loadP (by assumption) 1 rfl ?_ | refine m_loadP (by assumption) 2 rfl ?_ | refine m_loadPO (by assumption) (by assumption) ?_
  wp_delta; (with_reducible refine wpAny_pure ?_); (with_reducible refine wpAny_bind ?_); wp_delta; (with_reducible refine wpAny_pure ?_); (with_reducible refine wpAny_bind ?_)
  (with_reducible refine wpAny_pure ?_); (with_reducible refine wpAny_bind ?_); wp_delta; (with_reducible refine wpAny_bind ?_)
  first | refine m_loadP (by assumption) 0 rfl ?_ | refine m_loadP (by assumption) 1 rfl ?_ | refine m_loadP (by assumption) 2 rfl ?_ | refine m_loadPO (by assumption) (by assumption) ?_
  wp_delta; (with_reducible refine wpAny_pure ?_); (with_reducible refine wpAny_bind ?_)
  refine m_alloc (by assumption) rfl (fun a h' D n' => ?_)
  ((with_reducible apply wpAny_ite_true); focus (rfl; done)); (with_reducible refine wpAny_bind ?_); wp_delta; ((with_reducible apply wpAny_ite_false); focus (rfl; done))
  ((first | refine m_updP (by assumption) 0 rfl rfl (fun h' D => ?_) | refine m_updP (by assumption) 1 rfl rfl (fun h' D => ?_) | refine m_updP (by assumption) 2 rfl rfl (fun h' D => ?_)); (try simp only [List.set_cons_zero, List.set_cons_succ, drop1, put1, put2, sl0, sl2, sl3, sl4, sl5, basesE, mapClsE, noDelE, Bool.or_self, Option.elim_some, List.nil_append] at D))
  (with_reducible refine wpAny_bind ?_); wp_delta; ((with_reducible apply wpAny_ite_false); focus (rfl; done))
  ((first | refine m_updP (by assumption) 0 rfl rfl (fun h' D => ?_) | refine m_updP (by assumption) 1 rfl rfl (fun h' D => ?_) | refine m_updP (by assumption) 2 rfl rfl (fun h' D => ?_)); (try simp only [List.set_cons_zero, List.set_cons_succ, drop1, put1, put2, sl0, sl2, sl3, sl4, sl5, basesE, mapClsE, noDelE, Bool.or_self, Option.elim_some, List.nil_append] at D))
  wp_delta; (with_reducible refine wpAny_bind ?_); wp_delta; ((with_reducible apply wpAny_ite_false); focus (rfl; done))
  ((first | refine m_updP (by assumption) 0 rfl rfl (fun h' D => ?_) | refine m_updP (by assumption) 1 rfl rfl (fun h' D => ?_) | refine m_updP (by assumption) 2 rfl rfl (fun h' D => ?_)); (try simp only [List.set_cons_zero, List.set_cons_succ, drop1, put1, put2, sl0, sl2, sl3, sl4, sl5, basesE, mapClsE, noDelE, Bool.or_self, Option.elim_some, List.nil_append] at D))
  (with_reducible refine wpAny_bind ?_); wp_delta; (with_reducible refine wpAny_bind ?_)
  first | refine m_loadP (by assumption) 0 rfl ?_ | refine m_loadP (by assumption) 1 rfl ?_ | refine m_loadP (by assumption) 2 rfl ?_ | refine m_loadPO (by assumption) (by assumption) ?_
  (with_reducible refine wpAny_bind ?_); wp_delta; (with_reducible refine wpAny_pure ?_); ((with_reducible apply wpAny_ite_true); focus (rfl; done)); (with_reducible refine wpAny_bind ?_)
  ((first | refine m_updP (by assumption) 0 rfl rfl (fun h' D => ?_) | refine m_updP (by assumption) 1 rfl rfl (fun h' D => ?_) | refine m_updP (by assumption) 2 rfl rfl (fun h' D => ?_)); (try simp only [List.set_cons_zero, List.set_cons_succ, drop1, put1, put2, sl0, sl2, sl3, sl4, sl5, basesE, mapClsE, noDelE, Bool.or_self, Option.elim_some, List.nil_append] at D))
  (with_reducible refine wpAny_pure ?_); (with_reducible refine wpAny_bind ?_); wp_delta; (with_reducible refine wpAny_bind ?_)
  first | refine m_loadP (by assumption) 0 rfl ?_ | refine m_loadP (by assumption) 1 rfl ?_ | refine m_loadP (by assumption) 2 rfl ?_ | refine m_loadPO (by assumption) (by assumption) ?_
  wp_delta; (with_reducible refine wpAny_pure ?_); (with_reducible refine wpAny_bind ?_); wp_delta; wp_delta; wp_delta
  wp_delta; (with_reducible refine wpAny_bind ?_); (with_reducible refine wpAny_bind ?_); wp_delta; (with_reducible refine wpAny_bind ?_)
  first | refine m_loadP (by assumption) 0 rfl ?_ | refine m_loadP (by assumption) 1 rfl ?_ | refine m_loadP (by assumption) 2 rfl ?_ | refine m_loadPO (by assumption) (by assumption) ?_
  wp_delta; (with_reducible refine wpAny_pure ?_); (with_reducible refine wpAny_pure ?_); wp_delta; wp_delta; (with_reducible refine wpAny_bind ?_)
  (with_reducible refine wpAny_bind ?_); wp_delta; (with_reducible refine wpAny_bind ?_)
  first | refine m_loadP (by assumption) 0 rfl ?_ | refine m_loadP (by assumption) 1 rfl ?_ | refine m_loadP (by assumption) 2 rfl ?_ | refine m_loadPO (by assumption) (by assumption) ?_
  wp_delta; (with_reducible refine wpAny_pure ?_); (with_reducible refine wpAny_pure ?_); wp_delta; wp_delta; (with_reducible refine wpAny_pure ?_)
  (with_reducible refine wpAny_bind ?_); wp_delta; (with_reducible refine wpAny_bind ?_)
  first | refine m_loadP (by assumption) 0 rfl ?_ | refine m_loadP (by assumption) 1 rfl ?_ | refine m_loadP (by assumption) 2 rfl ?_ | refine m_loadPO (by assumption) (by assumption) ?_
  wp_delta; (with_reducible refine wpAny_pure ?_); (with_reducible refine wpAny_bind ?_); wp_delta; (with_reducible refine wpAny_bind ?_)
  first | refine m_loadP (by assumption) 0 rfl ?_ | refine m_loadP (by assumption) 1 rfl ?_ | refine m_loadP (by assumption) 2 rfl ?_ | refine m_loadPO (by assumption) (by assumption) ?_
  wp_delta; (with_reducible refine wpAny_pure ?_); (with_reducible refine wpAny_bind ?_)
  refine wpAny_of_eq (a := none) (by kernel_rfl) ?_
  (with_reducible refine wpAny_bind ?_)
  refine wpAny_of_eq (a := [Value.type "object"]) (by kernel_rfl) ?_
  (with_reducible refine wpAny_bind ?_); (with_reducible refine wpAny_pure ?_); (with_reducible refine wpAny_bind ?_)
  (rw [filt]; refine wpAny_of_eq (a := false) (by kernel_rfl) ?_)
  (with_reducible refine wpAny_bind ?_); wp_delta; (with_reducible refine wpAny_bind ?_)
  first | refine m_load (by assumption) 0 rfl ?_ | refine m_load (by assumption) 1 rfl ?_ | refine m_load (by assumption) 2 rfl ?_ | refine m_loadO (by assumption) (by assumption) ?_
  (with_reducible refine wpAny_bind ?_)
  ((first | refine m_upd (by assumption) 0 rfl rfl (fun h' D => ?_) | refine m_upd (by assumption) 1 rfl rfl (fun h' D => ?_) | refine m_upd (by assumption) 2 rfl rfl (fun h' D => ?_)); (try simp only [List.set_cons_zero, List.set_cons_succ, drop1, put1, put2, sl0, sl2, sl3, sl4, sl5, basesE, mapClsE, noDelE, Bool.or_self, Option.elim_some, List.nil_append] at D))
  wp_delta; (with_reducible refine wpAny_bind ?_)
  first | refine m_loadP (by assumption) 0 rfl ?_ | refine m_loadP (by assumption) 1 rfl ?_ | refine m_loadP (by assumption) 2 rfl ?_ | refine m_loadPO (by assumption) (by assumption) ?_
  wp_delta; (with_reducible refine wpAny_pure ?_); (with_reducible refine wpAny_bind ?_)
  refine wpAny_of_eq (a := some "object.__new__") (by kernel_rfl) ?_
  (with_reducible refine wpAny_bind ?_); wp_delta; ((with_reducible apply wpAny_ite_false); focus (rfl; done))
  ((first | refine m_updP (by assumption) 0 rfl rfl (fun h' D => ?_) | refine m_updP (by assumption) 1 rfl rfl (fun h' D => ?_) | refine m_updP (by assumption) 2 rfl rfl (fun h' D => ?_)); (try simp only [List.set_cons_zero, List.set_cons_succ, drop1, put1, put2, sl0, sl2, sl3, sl4, sl5, basesE, mapClsE, noDelE, Bool.or_self, Option.elim_some, List.nil_append] at D))
  (with_reducible refine wpAny_bind ?_); wp_delta; (with_reducible refine wpAny_bind ?_); wp_delta; (with_reducible refine wpAny_bind ?_)
  first | refine m_loadP (by assumption) 0 rfl ?_ | refine m_loadP (by assumption) 1 rfl ?_ | refine m_loadP (by assumption) 2 rfl ?_ | refine m_loadPO (by assumption) (by assumption) ?_
  (with_reducible refine wpAny_pure ?_); ((with_reducible apply wpAny_ite_false); focus (rfl; done)); (with_reducible refine wpAny_bind ?_)
  unfold typeLookup
  (with_reducible refine wpAny_bind ?_); wp_delta; (with_reducible refine wpAny_bind ?_); wp_delta; (with_reducible refine wpAny_bind ?_)
  first | refine m_load (by assumption) 0 rfl ?_ | refine m_load (by assumption) 1 rfl ?_ | refine m_load (by assumption) 2 rfl ?_ | refine m_loadO (by assumption) (by assumption) ?_
  (with_reducible refine wpAny_pure ?_); (with_reducible refine wpAny_pure ?_); (with_reducible refine wpAny_bind ?_); wp_delta; wp_delta; wp_delta
  wp_delta; (with_reducible refine wpAny_bind ?_); (with_reducible refine wpAny_bind ?_); wp_delta; (with_reducible refine wpAny_bind ?_); wp_delta
  (with_reducible refine wpAny_bind ?_)
  first | refine m_load (by assumption) 0 rfl ?_ | refine m_load (by assumption) 1 rfl ?_ | refine m_load (by assumption) 2 rfl ?_ | refine m_loadO (by assumption) (by assumption) ?_
  (with_reducible refine wpAny_pure ?_); wp_delta; (with_reducible refine wpAny_bind ?_)
  first | refine m_loadP (by assumption) 0 rfl ?_ | refine m_loadP (by assumption) 1 rfl ?_ | refine m_loadP (by assumption) 2 rfl ?_ | refine m_loadPO (by assumption) (by assumption) ?_
  wp_delta; (with_reducible refine wpAny_pure ?_); (with_reducible refine wpAny_pure ?_); wp_delta; wp_delta; (with_reducible refine wpAny_bind ?_)
  (with_reducible refine wpAny_bind ?_)
  refine wpAny_of_eq (a := some (Value.builtin "object.__new__")) (by kernel_rfl) ?_
  (with_reducible refine wpAny_pure ?_); (with_reducible refine wpAny_pure ?_); (with_reducible refine wpAny_pure ?_); wp_delta
  with_reducible refine wpAny_ite_false (by kernel_rfl) ?_
  (with_reducible refine wpAny_pure ?_); (with_reducible refine wpAny_bind ?_); wp_delta; (with_reducible refine wpAny_bind ?_); wp_delta; wp_delta
  wp_delta; wp_delta; (with_reducible refine wpAny_bind ?_); (with_reducible refine wpAny_bind ?_); wp_delta; (with_reducible refine wpAny_bind ?_)
  first | refine m_loadP (by assumption) 0 rfl ?_ | refine m_loadP (by assumption) 1 rfl ?_ | refine m_loadP (by assumption) 2 rfl ?_ | refine m_loadPO (by assumption) (by assumption) ?_
  wp_delta; (with_reducible refine wpAny_pure ?_); ((with_reducible apply wpAny_ite_true); focus (rfl; done)); (with_reducible refine wpAny_bind ?_); (with_reducible first | refine wpAny_letGo ?_ | refine wpAny_mkInt' ?_ | refine wpAny_mkStr' ?_ | refine wpAny_fresh' ?_ | refine wpAny_alloc' ?_ | refine wpAny_attempt ?_ | refine wpAny_throw ?_); (with_reducible refine wpAny_bind ?_)
  wp_delta; wp_delta; ((with_reducible apply wpAny_ite_false); focus (rfl; done)); wp_delta; wp_delta; (with_reducible refine wpAny_bind ?_)
  refine m_alloc (by assumption) rfl (fun a h' D n' => ?_)
  (with_reducible refine wpAny_pure ?_); (with_reducible refine wpAny_bind ?_); wp_delta; (with_reducible refine wpAny_bind ?_)
  first | refine m_loadP (by assumption) 0 rfl ?_ | refine m_loadP (by assumption) 1 rfl ?_ | refine m_loadP (by assumption) 2 rfl ?_ | refine m_loadPO (by assumption) (by assumption) ?_
  ((with_reducible apply wpAny_ite_false); focus (rfl; done)); wp_delta; wp_delta; (with_reducible refine wpAny_bind ?_); wp_delta; (with_reducible refine wpAny_bind ?_)
  with_reducible refine wpAny_askSetting ?_
  (with_reducible refine wpAny_pure ?_); (with_reducible refine wpAny_bind ?_); wp_delta; (with_reducible refine wpAny_bind ?_); (with_reducible first | refine wpAny_letGo ?_ | refine wpAny_mkInt' ?_ | refine wpAny_mkStr' ?_ | refine wpAny_fresh' ?_ | refine wpAny_alloc' ?_ | refine wpAny_attempt ?_ | refine wpAny_throw ?_); (with_reducible refine wpAny_pure ?_)
  (with_reducible refine wpAny_bind ?_)
  first | refine m_loadP (by assumption) 0 rfl ?_ | refine m_loadP (by assumption) 1 rfl ?_ | refine m_loadP (by assumption) 2 rfl ?_ | refine m_loadPO (by assumption) (by assumption) ?_
  ((with_reducible apply wpAny_ite_false); focus (rfl; done))
  ((first | refine m_updP (by assumption) 0 rfl rfl (fun h' D => ?_) | refine m_updP (by assumption) 1 rfl rfl (fun h' D => ?_) | refine m_updP (by assumption) 2 rfl rfl (fun h' D => ?_)); (try simp only [List.set_cons_zero, List.set_cons_succ, drop1, put1, put2, sl0, sl2, sl3, sl4, sl5, basesE, mapClsE, noDelE, Bool.or_self, Option.elim_some, List.nil_append] at D))
  (with_reducible refine wpAny_pure ?_); wp_delta; wp_delta; (with_reducible refine wpAny_pure ?_); (with_reducible refine wpAny_bind ?_); wp_delta
  wp_delta; wp_delta; wp_delta; (with_reducible refine wpAny_bind ?_); (with_reducible refine wpAny_bind ?_)
  refine wpAny_of_eq (a := false) (by kernel_rfl) ?_
  ((with_reducible apply wpAny_ite_false); focus (rfl; done)); (with_reducible refine wpAny_pure ?_); wp_delta; wp_delta; (with_reducible refine wpAny_pure ?_); ((with_reducible apply wpAny_ite_false); focus (rfl; done))
  wp_delta; wp_delta; (with_reducible refine wpAny_bind ?_)
  first | refine m_load (by assumption) 0 rfl ?_ | refine m_load (by assumption) 1 rfl ?_ | refine m_load (by assumption) 2 rfl ?_ | refine m_loadO (by assumption) (by assumption) ?_
  (with_reducible refine wpAny_bind ?_)
  ((first | refine m_upd (by assumption) 0 rfl rfl (fun h' D => ?_) | refine m_upd (by assumption) 1 rfl rfl (fun h' D => ?_) | refine m_upd (by assumption) 2 rfl rfl (fun h' D => ?_)); (try simp only [List.set_cons_zero, List.set_cons_succ, drop1, put1, put2, sl0, sl2, sl3, sl4, sl5, basesE, mapClsE, noDelE, Bool.or_self, Option.elim_some, List.nil_append] at D))
  wp_delta; (with_reducible refine wpAny_bind ?_)
  first | refine m_loadP (by assumption) 0 rfl ?_ | refine m_loadP (by assumption) 1 rfl ?_ | refine m_loadP (by assumption) 2 rfl ?_ | refine m_loadPO (by assumption) (by assumption) ?_
  wp_delta; (with_reducible refine wpAny_pure ?_); (with_reducible refine wpAny_bind ?_)
  refine wpAny_of_eq (a := false) (by kernel_rfl) ?_
  (with_reducible refine wpAny_bind ?_); wp_delta; ((with_reducible apply wpAny_ite_false); focus (rfl; done))
  ((first | refine m_updP (by assumption) 0 rfl rfl (fun h' D => ?_) | refine m_updP (by assumption) 1 rfl rfl (fun h' D => ?_) | refine m_updP (by assumption) 2 rfl rfl (fun h' D => ?_)); (try simp only [List.set_cons_zero, List.set_cons_succ, drop1, put1, put2, sl0, sl2, sl3, sl4, sl5, basesE, mapClsE, noDelE, Bool.or_self, Option.elim_some, List.nil_append] at D))
  ((with_reducible apply wpAny_ite_false); focus (rfl; done)); ((with_reducible apply wpAny_ite_false); focus (rfl; done)); (with_reducible refine wpAny_bind ?_); wp_delta; (with_reducible refine wpAny_bind ?_)
  first | refine m_loadP (by assumption) 0 rfl ?_ | refine m_loadP (by assumption) 1 rfl ?_ | refine m_loadP (by assumption) 2 rfl ?_ | refine m_loadPO (by assumption) (by assumption) ?_
  wp_delta; (with_reducible refine wpAny_pure ?_); ((with_reducible apply wpAny_ite_true); focus (rfl; done)); (with_reducible refine wpAny_bind ?_); wp_delta; (with_reducible refine wpAny_bind ?_)
  wp_delta; (with_reducible refine wpAny_bind ?_)
  with_reducible refine wpAny_askSetting ?_
  (with_reducible refine wpAny_pure ?_); (with_reducible refine wpAny_bind ?_); wp_delta; (with_reducible refine wpAny_bind ?_); (with_reducible first | refine wpAny_letGo ?_ | refine wpAny_mkInt' ?_ | refine wpAny_mkStr' ?_ | refine wpAny_fresh' ?_ | refine wpAny_alloc' ?_ | refine wpAny_attempt ?_ | refine wpAny_throw ?_); (with_reducible refine wpAny_pure ?_)
  (with_reducible refine wpAny_bind ?_)
  first | refine m_loadP (by assumption) 0 rfl ?_ | refine m_loadP (by assumption) 1 rfl ?_ | refine m_loadP (by assumption) 2 rfl ?_ | refine m_loadPO (by assumption) (by assumption) ?_
  ((with_reducible apply wpAny_ite_false); focus (rfl; done))
  ((first | refine m_updP (by assumption) 0 rfl rfl (fun h' D => ?_) | refine m_updP (by assumption) 1 rfl rfl (fun h' D => ?_) | refine m_updP (by assumption) 2 rfl rfl (fun h' D => ?_)); (try simp only [List.set_cons_zero, List.set_cons_succ, drop1, put1, put2, sl0, sl2, sl3, sl4, sl5, basesE, mapClsE, noDelE, Bool.or_self, Option.elim_some, List.nil_append] at D))
  (with_reducible refine wpAny_bind ?_); wp_delta; (with_reducible refine wpAny_bind ?_)
  first | refine m_loadP (by assumption) 0 rfl ?_ | refine m_loadP (by assumption) 1 rfl ?_ | refine m_loadP (by assumption) 2 rfl ?_ | refine m_loadPO (by assumption) (by assumption) ?_
  wp_delta; (with_reducible refine wpAny_pure ?_); ((with_reducible apply wpAny_ite_true); focus (rfl; done)); (with_reducible refine wpAny_bind ?_); wp_delta; (with_reducible refine wpAny_bind ?_)
  first | refine m_loadP (by assumption) 0 rfl ?_ | refine m_loadP (by assumption) 1 rfl ?_ | refine m_loadP (by assumption) 2 rfl ?_ | refine m_loadPO (by assumption) (by assumption) ?_
  wp_delta; (with_reducible refine wpAny_pure ?_); ((with_reducible apply wpAny_ite_false); focus (rfl; done)); (with_reducible refine wpAny_bind ?_); wp_delta; wp_delta
  wp_delta; wp_delta; (with_reducible refine wpAny_bind ?_); (with_reducible refine wpAny_bind ?_); wp_delta; ((with_reducible apply wpAny_ite_true); focus (rfl; done))
  (with_reducible refine wpAny_pure ?_); (with_reducible refine wpAny_pure ?_); wp_delta; wp_delta; (with_reducible refine wpAny_pure ?_); (with_reducible refine wpAny_bind ?_)
  refine Halt.out ?_
  delta Halt
  have hmd := D.at 0 _ _ rfl
  have hC := D.at 1 _ _ rfl
  have hns := D.at 2 _ _ rfl
  have up : Keeps h1 h' := fun b o e => D.old b o e (by simp [away])
  refine wpAny_tryCatch ?_
  refine wpAny_holding ?_
  refine wpAny_bind (wpAny_dictEntries hns rfl ?_)
  refine wpAny_bind ?_
  rw [← Array.forIn_toList]
  refine wpAny_forIn_list _ (fun rest b s' => b = false ∧ s' = ⟨h', g, d, _, os⟩ ∧ ∀ e ∈ rest, ∃ x t, e.key = Value.str x t) _ ?t1 ?f1 _ _ ⟨rfl, rfl, ?k1⟩
  case k1 => simp
  case t1 =>
    rintro e rest b s' ⟨rfl, rfl, hk⟩
    obtain ⟨x, u, hx⟩ := hk e (.head _)
    rw [hx]
    refine wpAny_bind (wpAny_pure ?_)
    exact wpAny_pure ⟨rfl, rfl, fun e he => hk e (.tail _ he)⟩
  case f1 =>
    rintro b s' ⟨rfl, rfl, -⟩
    dsimp only
    refine wpAny_ite_false (by rfl) ?_
    refine wpAny_bind (wpAny_dictEntries hns rfl ?_)
    refine wpAny_bind ?_
    rw [← Array.forIn_toList]
    refine wpAny_forIn_list _ (fun rest _ s' => s' = ⟨h', g, d, _, os⟩ ∧ ∀ e ∈ rest, HookOk h' e) _ ?t2 ?f2 _ _ ⟨rfl, ?k2⟩
    case k2 =>
      have fn : ∀ f ∈ [f1, f2, f3, f4, f5, f6], ∀ g d tk os, (⟨h', g, d, tk, os⟩ : Shared).TypeIs (.ref f) "function" := fun f hm g d tk os => by
        obtain ⟨o, e1, e2⟩ := hf f hm
        exact ⟨o, up _ _ (k1 _ _ e1), e2⟩
      have tup : ∀ g d tk os, (⟨h', g, d, tk, os⟩ : Shared).TypeIs (.ref sa) "tuple" := fun g d tk os => by
        obtain ⟨o, e1, e2⟩ := hsa
        exact ⟨o, up _ _ (k1 _ _ e1), e2⟩
      intro e he
      simp only [Array.toList_push, List.mem_append, List.mem_cons, List.not_mem_nil, or_false] at he
      rcases he with ((rfl | rfl | rfl | rfl | rfl | rfl | rfl | rfl | rfl | rfl | rfl) | rfl) | rfl
      · exact ⟨rfl, "str", fun _ _ _ _ => rfl, snS⟩
      · exact ⟨rfl, "int", fun _ _ _ _ => rfl, snI⟩
      · exact ⟨rfl, "list", fun _ _ _ _ => ⟨_, up _ _ hl1, rfl⟩, snL⟩
      · exact ⟨rfl, "function", fn f1 (by simp), snF⟩
      · exact ⟨rfl, "function", fn f2 (by simp), snF⟩
      · exact ⟨rfl, "function", fn f3 (by simp), snF⟩
      · exact ⟨rfl, "function", fn f4 (by simp), snF⟩
      · exact ⟨rfl, "function", fn f5 (by simp), snF⟩
      · exact ⟨rfl, "function", fn f6 (by simp), snF⟩
      · exact ⟨rfl, "NoneType", fun _ _ _ _ => rfl, snN⟩
      · exact ⟨rfl, "tuple", tup, snT⟩
      · exact ⟨rfl, "member_descriptor", fun _ _ _ _ => ⟨_, hmd, rfl⟩, snM⟩
      · exact ⟨rfl, "NoneType", fun _ _ _ _ => rfl, snN⟩
    case t2 =>
      rintro e rest _ s' ⟨rfl, hk⟩
      obtain ⟨e1, T, hT, hlk⟩ := hk e (.head _)
      refine wpAny_ite_false (by rw [e1]; rfl) ?_
      unfold specialOf
      refine wpAny_bind (wpAny_bind (wpAny_typeOf (hT _ _ _ _) (wpAny_of_eq hlk ?_)))
      exact wpAny_pure ⟨rfl, fun e he => hk e (.tail _ he)⟩
    case f2 =>
      rintro _ s' ⟨rfl, -⟩
      have X' := (X.keeps k1).keeps up
      refine wpAny_bind (sup_call hh (Nat.le_trans hdp (by decide)) (Nat.le_trans hu (by decide)) X' hC fun so h2 tk2 k2 hso => ?_)
      refine wpAny_bind (wpAny_holding (getattr_sup hh hdp hu (X'.keeps k2) (k2 _ _ hC) hso fun bm h3 tk3 k3 hbm => ?_))
      refine wpAny_bind (sub_call hh (Nat.le_trans hdp (by decide)) (Nat.le_trans hu (by decide)) ((X'.keeps k2).keeps k3) (k3 _ _ (k2 _ _ hC)) hbm fun h4 tk4 k4 => ?_)
      refine wpAny_pure ?_
      have kk : Keeps h' h4 := fun b o e => k4 _ _ (k3 _ _ (k2 _ _ e))
      have last : Q (.done (.ret (.ref _))) ⟨h4, g, d, tk4, os⟩ := hq _ _ _ h4 tk4 (fun i => if i = 12 then _ else if i = 13 then _ else hs i) (fun i => if i = 12 then _ else if i = 13 then _ else ts i) _ _ (fun b o e => kk _ _ (up _ _ (k1 _ _ e))) (kk _ _ hC) (kk _ _ hns) (kk _ _ hmd)
      repeat wp_step
      exact last
end Mine
end
section
open PySem PySem.W PySem.W.X PySem.Spec PySem.Calls PyProof.Rows
set_option maxRecDepth 100000
set_option maxHeartbeats 3000000
namespace Mine
open PySem.Builtin
local macro_rules | `(tactic| x_close) => `(tactic| (refine ⟨_, _, _, rfl, (by first | assumption | exact Mem.start _), ?_⟩; kernel_rfl))
theorem obj_run (w : World) (s : Shared) (X : (hd.heap_1 w.params).In s.heap) (C ns md bT sl f1 f2 f3 f4 f5 f6 sa x dx : Addr) (i : Addr) (t1 t2 tm um tn : Tok) (hs : Nat → Int) (ts : Nat → Tok) (ep : Nat)
   (hC : s.heap.get? C = some (clsObj C ns bT t1 t2)) (hns : s.heap.get? ns = some (nsObj hs ts sl f1 f2 f3 f4 f5 f6 sa md ep)) (hmd : s.heap.get? md = some (mdObj C tm um))
   (hx : s.heap.get? x = some ⟨.ref C, some dx, .plain, #[some (.ref i)]⟩) (E : Value → Shared → Prop) :
   wpAny (model PySem.Challenge.pw_pd0110_01 w) ⟨none, 600, none, none, 9000⟩ (runValue (.builtin "proto.getattr_hooked" ⟨[.ref x, .str (Str.ofString "obj") tn], []⟩)) (fun r s' => ∃ h' tk news, s' = { s with heap := h', toks := tk } ∧ Mem s.heap h' [] news ∧ r = .ref i) E s := by
  dsimp only [clsObj, nsObj, mdObj] at hC hns hmd
  x_run
section
variable {w : World} {A : Around} {E : Value → Shared → Prop} {h : Heap} {g : Array GenState} {d : Drawn} {tk : Nat} {os : OsState}
theorem gaO : classOwn (.type "object") (Str.ofString "__getattribute__") = pure (some (.builtin "object.__getattribute__")) := by kernel_rfl
theorem lookGA {C ns bT md sl f1 f2 f3 f4 f5 f6 sa : Addr} {t1 t2 : Tok} {hs : Nat → Int} {ts : Nat → Tok} {ep : Nat} {Q : Option Value → Shared → Prop} (hC : h.get? C = some (clsObj C ns bT t1 t2)) (hns : h.get? ns = some (nsObj hs ts sl f1 f2 f3 f4 f5 f6 sa md ep))
   (hq : Q (some (.builtin "object.__getattribute__")) ⟨h, g, d, tk, os⟩) : wpAny (model PySem.Challenge.pw_pd0110_01 w) A (typeLookup (.ref C) (Str.ofString "__getattribute__")) Q E ⟨h, g, d, tk, os⟩ := by
  unfold typeLookup
  refine wpAny_bind (mro_cls hC ?_)
  repeat
    first
      | (with_reducible refine wpAny_of_eq gaO ?_)
      | wp_step
  exact hq
theorem getattr_obj {C ns md bT sl f1 f2 f3 f4 f5 f6 sa x dx : Addr} {i : Addr} {t1 t2 tm um : Tok} {hs : Nat → Int} {ts : Nat → Tok} {ep : Nat} {ex : Bool} {Q : Value → Shared → Prop}
   (hh : A.handled = none) (hdp : A.depth ≤ 600) (hu : A.units ≤ 9000) (X : (hd.heap_1 w.params).In h)
   (hC : h.get? C = some (clsObj C ns bT t1 t2)) (hns : h.get? ns = some (nsObj hs ts sl f1 f2 f3 f4 f5 f6 sa md ep)) (hmd : h.get? md = some (mdObj C tm um))
   (hx : h.get? x = some ⟨.ref C, some dx, .plain, #[some (.ref i)]⟩)
   (hq : ∀ h' tk', Keeps h h' → Q (.ref i) ⟨h', g, d, tk', os⟩) :
   wpAny (model PySem.Challenge.pw_pd0110_01 w) A (getAttr (.ref x) (Str.ofString "obj") ex) Q E ⟨h, g, d, tk, os⟩ := by
  unfold getAttr getAttrBy
  refine wpAny_bind (wpAny_mkText (wpAny_holding (wpAny_bind (wpAny_typeOf_ref hx (wpAny_bind (lookGA hC hns ?_))))))
  show wpAny _ _ (getAttrEveryday (.ref x) (.str (Str.ofString "obj") tk) true) _ _ _
  unfold getAttrEveryday
  refine wpAny_bind (wpAny_onRaise (wpAny_mono (wpAny_big (obj_run w ⟨h, g, d, _, os⟩ X C ns md bT sl f1 f2 f3 f4 f5 f6 sa x dx i t1 t2 tm um tk hs ts ep hC hns hmd hx fun _ _ => False) hh hdp hu rfl rfl) ?_ fun _ _ z => z.elim))
  rintro r s' ⟨h', tk', news, rfl, D, rfl⟩
  exact wpAny_pure (hq h' tk' (up_of_mem D))
end
end Mine
end
section
open PySem PySem.W PySem.W.X PySem.Spec PySem.Calls PyProof.Rows
set_option maxRecDepth 100000
set_option maxHeartbeats 3000000
namespace Mine
open PySem.Builtin
theorem mroY : mroOf (.type "type") = pure [.type "type", .type "object"] := by rw [mroOf_type]; kernel_rfl
theorem madeY : Bind.madeBy (.type "type") = pure (some "type.__new__") := by kernel_rfl
theorem entY : entryFor table "type.__new__" = some Builtin.«type.__new__» := entryFor_of_tree (by kernel_rfl)
theorem plnY : plainId "type.__new__" = true := by decide +kernel
theorem chkY (a b c : Value) : checkBuiltinCall "type.__new__" ⟨[.type "type", a, b, c], []⟩ = pure () := by kernel_rfl
theorem spI : typeLookup (.type "type") (Str.ofString "__init__") = pure (some (.builtin "type.__init__")) := by kernel_rfl
theorem tyI : typeOf (.builtin "type.__init__") = pure (.type "wrapper_descriptor") := by kernel_rfl
local macro_rules | `(tactic| x_close) => `(tactic| (refine ⟨_, _, rfl, by first | assumption | exact Mem.start _, rfl⟩))
theorem ini_run (w : World) (s : Shared) (C ns bT nA : Addr) (t t1 t2 : Tok) (hC : s.heap.get? C = some (clsObj C ns bT t1 t2)) (E : Value → Shared → Prop) :
   wpAny (model PySem.Challenge.pw_pd0110_01 w) ⟨none, 600, none, none, 9000⟩ (call (.builtin "type.__init__") [.ref C, .str (Str.ofString "K") t, .ref bT, .ref nA]) (fun r s' => ∃ h' tk, s' = { s with heap := h', toks := tk } ∧ Mem s.heap h' [] [] ∧ r = .none) E s := by
  dsimp only [clsObj] at hC
  x_run
section
variable {w : World} {A : Around} {E : Value → Shared → Prop} {h : Heap} {g : Array GenState} {d : Drawn} {tk : Nat} {os : OsState}
theorem ini_call {C ns bT nA : Addr} {t t1 t2 : Tok} {Q : Value → Shared → Prop} (hh : A.handled = none) (hdp : A.depth ≤ 600) (hu : A.units ≤ 9000) (hC : h.get? C = some (clsObj C ns bT t1 t2))
   (hq : ∀ h' tk', Keeps h h' → Q .none ⟨h', g, d, tk', os⟩) :
   wpAny (model PySem.Challenge.pw_pd0110_01 w) A (call (.builtin "type.__init__") [.ref C, .str (Str.ofString "K") t, .ref bT, .ref nA]) Q E ⟨h, g, d, tk, os⟩ :=
  wpAny_big (wpAny_mono (ini_run w ⟨h, g, d, tk, os⟩ C ns bT nA t t1 t2 hC E) (fun r s' ⟨h', tk', e2, D, e1⟩ => by subst e1 e2; exact hq h' tk' (up_of_mem D)) fun _ _ e => e) hh hdp hu rfl rfl
theorem tcall_K {Q : Value → Shared → Prop} {bT nA sl f1 f2 f3 f4 f5 f6 sa : Addr} {nB ep nS : Nat} {hs : Nat → Int} {ts : Nat → Tok} {t t0 : Tok}
   (hh : A.handled = none) (hdp : A.depth ≤ 560) (hu : A.units ≤ 8800) (X : (hd.heap_1 w.params).In h)
   (hb : h.get? bT = some ⟨.type "tuple", none, .seq #[.type "object"] nB, #[]⟩)
   (hn : h.get? nA = some ⟨.type "dict", none, .dict (ns0 hs ts sl f1 f2 f3 f4 f5 f6 sa) ep, #[]⟩) (hnm : (nA == sysModules) = false)
   (hl : h.get? sl = some ⟨.type "list", none, .seq #[.str (Str.ofString "obj") t0] nS, #[]⟩)
   (hf : ∀ f ∈ [f1, f2, f3, f4, f5, f6], ∃ o, h.get? f = some o ∧ o.cls = .type "function") (hsa : ∃ o, h.get? sa = some o ∧ o.cls = .type "tuple")
   (hq : ∀ C ns md h' tk' hs' ts' tm um, Keeps h h' → h'.get? C = some (clsObj C ns bT t (ts 22)) → h'.get? ns = some (nsObj hs' ts' sl f1 f2 f3 f4 f5 f6 sa md 3) → h'.get? md = some (mdObj C tm um) → Q (.ref C) ⟨h', g, d, tk', os⟩) :
   wpAny (model PySem.Challenge.pw_pd0110_01 w) A (call (.type "type") [.str (Str.ofString "K") t, .ref bT, .ref nA]) Q E ⟨h, g, d, tk, os⟩ := by
  refine wpAny_call (codeAny_of_tree ?_)
  show wpAny _ _ (callAny (.type "type") _) _ _ _
  refine wpAny_pure ⟨Code.quiet_builtin _ (by decide +kernel), codeAny_builtin F.entry_type_call ?_⟩
  rw [Around.under_plain (weight_type_call_type "type" [.str (Str.ofString "K") t, .ref bT, .ref nA] []) rfl]
  repeat
    first
      | (with_reducible refine wpAny_of_eq mroY ?_)
      | (with_reducible refine wpAny_of_eq madeY ?_)
      | wp_step
  refine codeAny_of_tree ?_
  show wpAny _ _ (do checkBuiltinCall "type.__new__" ⟨[.type "type", .str (Str.ofString "K") t, .ref bT, .ref nA], []⟩; again (.builtin "type.__new__" ⟨[.type "type", .str (Str.ofString "K") t, .ref bT, .ref nA], []⟩)) _ _ _
  refine wpAny_bind (wpAny_of_eq (chkY _ _ _) (wpAny_pure ⟨plainId_quiet plnY _, codeAny_builtin entY ?_⟩))
  rw [Around.under_plainId plnY _]
  refine new_K w _ h g d tk os _ _ bT nA sl f1 f2 f3 f4 f5 f6 sa nB ep nS hs ts t t0 ?za ?zb ?zc X hb hn hnm hl hf hsa fun C ns md h' tk' hs' ts' tm um k hC hns hmd => ?_
  case za => exact hh
  case zb => exact Nat.le_trans hdp (by decide)
  case zc => show A.units + _ + _ ≤ 8900; exact Nat.le_trans (Nat.add_le_add_right (Nat.add_le_add_right hu _) _) (by decide)
  show wpAny _ _ (do let b ← isInstance (.ref C) (.type "type"); _) _ _ _
  repeat
    first
      | (with_reducible refine wpAny_of_eq sY ?_)
      | (with_reducible refine wpAny_of_eq spI ?_)
      | (with_reducible refine wpAny_of_eq tyI ?_)
      | ((with_reducible show wpAny _ _ (bindSpecial _ _) _ _ _); unfold bindSpecial)
      | ((with_reducible show wpAny _ _ (typeOf (Value.ref _)) _ _ _); refine wpAny_typeOf_ref hC ?_)
      | ((with_reducible show wpAny _ _ (call _ _ _) _ _ _); refine ini_call (t := t) (nA := nA) hh (Nat.le_trans hdp (by decide)) (by show A.units + _ ≤ 9000; exact Nat.le_trans (Nat.add_le_add_right hu _) (by decide)) hC (fun h2 tk2 k2 => ?_))
      | wp_step
  exact hq C ns md h2 tk2 hs' ts' tm um (fun b o e => k2 _ _ (k _ _ e)) (k2 _ _ hC) (k2 _ _ hns) (k2 _ _ hmd)
end
end Mine
end
section
open PySem PySem.W PySem.W.X PySem.Spec PySem.Calls PyProof.Rows
set_option maxRecDepth 100000
set_option maxHeartbeats 8000000
namespace Mine
section
variable {prog : Program} {w : World} {A A₀ : Around} {s : Shared} {K : Frag} {L : Addr} {h₀ base : Heap} {m mg mb : Str → Option Value} {p : Program} {loose : List Str} {mean : ExcName → Option Value}
/-- the entry of a lambda made in a call, without a closure -/
theorem enter_lam {env : Env} {outer : List Env} {R : Result → Shared → Prop} {name qual : Str} {params : Arguments} {body : Expr} {scope : Scope} {pm ctv : Value} {c' : Addr} {f : Addr} {args : Args} {binds : List (Str × Value)}
    (B : Below A₀ base outer h₀) (F : Fr h₀ L s.heap m) (X₀ : K.In h₀) (T : Top p loose mean mg mb h₀) (hA : A.frames = some (env :: outer)) (hf : env.frame = some L) (hke : env.scope.kind = .function)
    (ho : s.heap.get? f = some (kla_obj name qual params body scope [] pm c' ctv)) (hcd : s.heap.CodeRec (.ref c') qual) (hroom : A.depth < recursionLimit)
    (hbind : bindArgs (kla_fn name qual params body scope [] pm (.ref c') ctv) args = pure binds) (hloc : ∀ y ∈ binds, scope.names.lookup y.1 = some .local)
    (h : ∀ L' h₁, Fr s.heap L' h₁ (fun y => binds.reverse.lookup y) → News s.heap L' h₁ [] → Below A base (env :: outer) s.heap → K.In s.heap → Top p loose mean mg mb s.heap →
      wpAny (model prog w) (A.deeper (envX qual scope L' f (.ref c') [])) (eval body (envX qual scope L' f (.ref c') []))
        (fun v s' => R (.ok (.ret v)) s')
        (fun e s' => wpAny (model prog w) (A.deeper (envX qual scope L' f (.ref c') [])) (leaving (envX qual scope L' f (.ref c') []) e) (fun _ s'' => R (.error e) s'') (fun e' s'' => R (.error e') s'') s')
        { s with heap := h₁, toks := s.toks + binds.length })
    (hco : scope.isCoroutine = false) (hgen : scope.isGenerator = false) (hk : scope.kind = .function)
    (hcell : ∀ x ∈ scope.names, x.2 ≠ .cell) : codeAny (model prog w) A (.call (.ref f) args) R s := by
  obtain ⟨FG, BG, st, lv⟩ := groundX (R := R) B F (News.nil (h₀ := h₀) (L := L) (h := s.heap)) hA hf hke
  refine kla_callFunE hroom ho rfl hco hgen rfl hcd ?_
  rw [hbind]
  refine wpAny_pure (wpAny_newFunctionEnv hcell hloc (fun h₁ hns hsb => ⟨((T.nolimit).keeps F.keep).fresh _ hsb, ?_⟩) hk)
  show codeAny _ _ (.expr body (envX qual scope s.heap.objs.size f (.ref c') [])) _ _
  have hk₁ : ∀ b o, s.heap.get? b = some o → h₁.get? b = some o := fun b o e => hsb.extBut b o (Nat.ne_of_lt (Heap.lt_size e)) (Heap.get?_push_of_some _ e)
  exact kla_codeExpr (h s.heap.objs.size h₁ ⟨hns, hk₁, Nat.le_refl _⟩ News.nil BG (X₀.keeps st) (T.keeps st))
end
noncomputable def LamPre (lam lc i j : Addr) (a b : Int) (h : Heap) : Prop := (∃ pm ct, h.get? lam = some (kla_obj (Str.ofString "<lambda>") (Str.ofString "law.<locals>.<lambda>") lamOf.1 lamOf.2.1 lamOf.2.2 [] pm lc ct)) ∧ h.CodeRec (.ref lc) (Str.ofString "law.<locals>.<lambda>") ∧ (∃ ta u, h.IsTuple i #[.int a ta, u]) ∧ (∃ tb u, h.IsTuple j #[.int b tb, u]) ∧ 0 ≤ a ∧ a < 4 ∧ 0 ≤ b ∧ b < 4
theorem codeRec_up {h h' : Heap} {c : Value} {q : Str} (x : h.CodeRec c q) (k : Keeps h h') : h'.CodeRec c q := by obtain ⟨a, o, vs, t, e1, e2, e3, e4⟩ := x; exact ⟨a, o, vs, t, e1, k _ _ e2, e3, e4⟩
theorem isTuple_up {h h' : Heap} {i : Addr} {its : Array Value} (x : h.IsTuple i its) (k : Keeps h h') : h'.IsTuple i its := by obtain ⟨o, e, r⟩ := x; exact ⟨o, k _ _ e, r⟩
theorem LamPre.up {lam lc i j : Addr} {a b : Int} {h h' : Heap} (x : LamPre lam lc i j a b h) (k : Keeps h h') : LamPre lam lc i j a b h' :=
  let ⟨⟨pm, ct, e⟩, c, ⟨ta, u, x1⟩, ⟨tb, v, x2⟩, r⟩ := x; ⟨⟨pm, ct, k _ _ e⟩, codeRec_up c k, ⟨ta, u, isTuple_up x1 k⟩, ⟨tb, v, isTuple_up x2 k⟩, r⟩
theorem lam_ok (lam lc i j : Addr) (a b : Int) : Cl 480 2900 lam [.ref i, .ref j] (LamPre lam lc i j a b) (fun _ r tl => (∃ t, r = .int (a - b) t) ∧ tl = []) := by
  unfold Cl; intros; rename_i hpre hret
  obtain ⟨⟨pm, ct, hfo⟩, hcr, ⟨ta, u, hi⟩, ⟨tb, v, hj⟩, ha, ha4, hb, hb4⟩ := hpre
  obtain ⟨sd, hsd⟩ : ∃ sd, sd = lamOf := ⟨_, rfl⟩
  rw [← hsd] at hfo
  conv at hsd => rhs; whnf
  subst hsd
  dsimp only at hfo
  refine wpAny_call ?_
  k_dflt (refine' enter_lam (binds := [(Str.ofString "one", .ref i), (Str.ofString "other", .ref j)]) ?k1 ?k2 ?k3 ?k5 ?kA ?kF ?kK hfo hcr ?k8 ?k9 ?kB ?_ ?c2 ?c3 ?c4 ?c5; (case kA => exact rfl); (case kF => exact rfl); (case kK => assumption); (case k1 => k_asm); (case k2 => k_asm); (case k3 => k_asm); (case k5 => k_asm); (case k8 => ktr_room); (case k9 => exact rfl); (case kB => exact locs rfl); (case c2 => exact rfl); (case c3 => exact rfl); (case c4 => exact rfl); (case c5 => decide); k_whole; intro L' h' F' N' B' X' T'; (try dsimp only); (try k_lift B'); (try k_fold))
  k_steps
  all_goals exact hret _ [] _ _ ⟨⟨_, rfl⟩, rfl⟩ (Fr.keep (by assumption)) (fun _ h => nomatch h)
end Mine
end
section
open PySem PySem.W PySem.W.X PySem.Spec PySem.Calls PyProof.Rows
set_option maxRecDepth 100000
set_option maxHeartbeats 8000000
namespace Mine
/-- the class, its names and its slot -/
structure KCls where
  C : Addr
  ns : Addr
  md : Addr
  bT : Addr
  sl : Addr
  f1 : Addr
  f2 : Addr
  f3 : Addr
  f4 : Addr
  f5 : Addr
  f6 : Addr
  sa : Addr
  t1 : Tok
  t2 : Tok
  tm : Tok
  um : Tok
  hs : Nat → Int
  ts : Nat → Tok
  ep : Nat
structure KCls.At (c : KCls) (h : Heap) : Prop where
  cls : h.get? c.C = some (clsObj c.C c.ns c.bT c.t1 c.t2)
  names : h.get? c.ns = some (nsObj c.hs c.ts c.sl c.f1 c.f2 c.f3 c.f4 c.f5 c.f6 c.sa c.md c.ep)
  slot : h.get? c.md = some (mdObj c.C c.tm c.um)
theorem KCls.At.up {c : KCls} {h h' : Heap} (x : c.At h) (k : Keeps h h') : c.At h' := ⟨k _ _ x.cls, k _ _ x.names, k _ _ x.slot⟩
/-- an object of it -/
noncomputable def KInst (c : KCls) (h : Heap) (x i : Addr) : Prop := ∃ dx, h.get? x = some ⟨.ref c.C, some dx, .plain, #[some (.ref i)]⟩
theorem KInst.up {c : KCls} {h h' : Heap} {x i : Addr} (y : KInst c h x i) (k : Keeps h h') : KInst c h' x i := by obtain ⟨dx, e⟩ := y; exact ⟨dx, k _ _ e⟩
noncomputable def RankAt (h : Heap) (i : Addr) (a : Int) : Prop := (∃ t u, h.IsTuple i #[.int a t, u]) ∧ 0 ≤ a ∧ a < 4
noncomputable def LamAt (h : Heap) (lam lc : Addr) : Prop := (∃ pm ct, h.get? lam = some (kla_obj (Str.ofString "<lambda>") (Str.ofString "law.<locals>.<lambda>") lamOf.1 lamOf.2.1 lamOf.2.2 [] pm lc ct)) ∧ h.CodeRec (.ref lc) (Str.ofString "law.<locals>.<lambda>")
noncomputable def LtAt (c : KCls) (h : Heap) (lam : Addr) : Prop := ∃ pm ct c2 cell, h.get? c.f2 = some (fnObj (Str.ofString "__lt__") (Str.ofString "cmp_to_key.<locals>.K.__lt__") ltD [(Str.ofString "mycmp", cell)] pm ct c2) ∧ h.CodeRec (.ref c2) (Str.ofString "cmp_to_key.<locals>.K.__lt__") ∧ h.IsCell cell (some (.ref lam))
theorem LamAt.fn {h : Heap} {lam lc : Addr} (x : LamAt h lam lc) : FnAt lam h := by obtain ⟨⟨pm, ct, e⟩, _⟩ := x; exact ⟨_, _, _, _, e⟩
theorem newsNil {h₀ h : Heap} {L : Addr} {m : Str → Option Value} (_F : Fr h₀ L h m) : News h₀ L h [] := fun _ h => nomatch h
noncomputable def Held (p : Prop) : Prop := p
section
variable {w : World} {A : Around} {E : Value → Shared → Prop} {s : Shared} {h₀ : Heap} {L : Addr} {m : Str → Option Value} {news : Led}
theorem getattr_K {c : KCls} {x i : Addr} {ex : Bool} {Q : Value → Shared → Prop} (hh : A.handled = none) (hdp : A.depth ≤ 600) (hu : A.units ≤ 9000) (F : Fr h₀ L s.heap m) (N : News h₀ L s.heap news) (X : (hd.heap_1 w.params).In h₀) (hc : Held (c.At h₀)) (hx : Held (KInst c h₀ x i))
   (hq : ∀ h' tk', Fr h₀ L h' m → News h₀ L h' news → Q (.ref i) { s with heap := h', toks := tk' }) :
   wpAny (model PySem.Challenge.pw_pd0110_01 w) A (getAttr (.ref x) (Str.ofString "obj") ex) Q E s := by
  obtain ⟨h, g, d, tk, os⟩ := s
  have hc' := KCls.At.up hc F.keep
  obtain ⟨dx, hx'⟩ := KInst.up hx F.keep
  exact getattr_obj hh hdp hu (X.keeps F.keep) hc'.cls hc'.names hc'.slot hx' fun h' tk' k => hq h' tk' (F.kept k) (N.grown k)
theorem nameX_FB13 {a : Addr} {cn : Str} {cs : Scope} {ccd : Value} {cl : List (Str × Addr)} {x : Str} {pos : Pos} {v : Value} {Q : Value → Shared → Prop} {M : Model} {c : Addr} (F : Fr h₀ L s.heap m) (hc : cl.lookup x = some c) (hv : h₀.IsCell c (some v)) (h : Q v s)
    (hk : cs.kind = .function := by rfl) (hx : (envX cn cs L a ccd cl).kindOf x = some .free := by rfl) (hb : (x == ("__debug__" : Str)) = false := by decide) (hn : (x == ("__classdict__" : Str)) = false := by decide) :
    wpAny M A (eval (.Name x pos) (envX cn cs L a ccd cl)) Q E s := wpAny_Name (wpAny_loadName_free hk hx hc (hv.keeps fun b o e => F.keep b o e) h hn) hb
theorem FnAt.up13 {q : Addr} {h h' : Heap} (X : FnAt q h) (k : Keeps h h') : FnAt q h' := by obtain ⟨oc, od, fd, sl, e⟩ := X; exact ⟨oc, od, fd, sl, k _ _ e⟩
theorem Fr.keeps13 {h : Heap} (F : Fr h₀ L h m) : Keeps h₀ h := F.keep
end
local macro_rules | `(tactic| walk_at "eval Name") => `(tactic| (k_here; k_dflt (refine' nameX_FB13 ?F ?c ?v ?_ ?a ?b; (case a => rfl); (case b => rfl); (case F => k_asm); (case c => rfl); (case v => assumption); k_whole)))
local macro_rules | `(tactic| walk_at "callWith ref") => `(tactic| (k_here; k_dflt (refine' callWith_F ?k1 ?_; (case k1 => exact FnAt.up13 (by assumption) (Fr.keeps13 (by assumption))); k_whole)))
local macro_rules | `(tactic| walk_at "FnAt") => `(tactic| (k_dflt (exact FnAt.up13 (by assumption) (Fr.keeps13 (by assumption)))))
local macro_rules | `(tactic| walk_at "getAttr ref") => `(tactic| (k_here; (refine getattr_K rfl (by k_units) (by k_units) (by assumption) (by assumption) (by assumption) (by assumption) (by assumption) ?_); intro h' tk' F' N'))
set_option hygiene false in
local macro_rules | `(tactic| walk_at "call ref") => `(tactic| (k_here; (with_reducible show wpAny _ _ (call (Value.ref _) [Value.ref _, Value.ref _]) _ _ _); k_dflt (refine' Cl.use (lam_ok _ _ _ _ _ _) ?B ?F ?X ?N ?T ?hk ?h1 ?h2 ?hp ?_; (case hp => exact LamPre.up (by assumption) (Fr.keeps13 (by assumption))); walk_at "useB"); walk_at "useC"))
theorem lt_ok (c : KCls) (lam lc x y i j : Addr) (a b : Int) : Cl 470 2800 c.f2 [.ref x, .ref y] (fun h => c.At h ∧ LtAt c h lam ∧ LamAt h lam lc ∧ KInst c h x i ∧ KInst c h y j ∧ RankAt h i a ∧ RankAt h j b) (fun _ r tl => r = .bool (decide (a - b < 0)) ∧ tl = []) := by
  unfold Cl; intros; rename_i hpre hret
  obtain ⟨hc, ⟨pm, ct, c2, cell, hfo, hcr, hcell⟩, hlam, hx, hy, hi, hj⟩ := hpre
  obtain ⟨sd, hsd⟩ : ∃ sd, sd = ltD := ⟨_, rfl⟩
  rw [← hsd] at hfo
  conv at hsd => rhs; whnf
  subst hsd
  try dsimp only at hfo
  replace hc : Held (c.At _) := hc
  replace hx : Held (KInst c _ x i) := hx
  replace hy : Held (KInst c _ y j) := hy
  have hfn := hlam.fn
  have hall : LamPre lam lc i j a b _ := And.intro hlam.1 (And.intro hlam.2 (And.intro hi.1 (And.intro hj.1 (And.intro hi.2.1 (And.intro hi.2.2 hj.2)))))
  refine wpAny_call ?_
  k_dflt (refine' enter_CL (binds := [(Str.ofString "self", .ref x), (Str.ofString "other", .ref y)]) ?k1 ?k2 ?k3 ?k5 ?kA ?kF ?kK hfo hcr ?k8 ?k9 ?kB ?_ ?c2 ?c3 ?c4; (case kA => exact rfl); (case kF => exact rfl); (case kK => assumption); (case k1 => k_asm); (case k2 => k_asm); (case k3 => k_asm); (case k5 => k_asm); (case k8 => ktr_room); (case k9 => exact rfl); (case kB => exact locs rfl); (case c2 => exact rfl); (case c3 => exact rfl); (case c4 => exact rfl); k_whole; intro L' h' tk' F' cells' B' X' T')
  have N' := newsNil F'
  clear cells'
  (try dsimp only); (try k_lift B'); (try k_fold)
  k_steps
  all_goals exact hret _ [] _ _ ⟨rfl, rfl⟩ (Fr.keep (by assumption)) (fun _ h => nomatch h)
end Mine
end
section
open PySem PySem.W PySem.W.X PySem.Spec PySem.Calls PyProof.Rows
set_option maxRecDepth 100000
namespace Mine
/-- the sort's questions answered -/
noncomputable def runT {α : Type} (f : Nat → Nat → Bool) : KasT α → α
  | .ret a => a
  | .ask i j k => runT f (k (f i j))
noncomputable def inT {α : Type} (n : Nat) (f : Nat → Nat → Bool) : KasT α → Bool
  | .ret _ => true
  | .ask i j k => decide (i < n) && (decide (j < n) && inT n f (k (f i j)))
theorem wp_runT {α : Type} {n : Nat} {f : Nat → Nat → Bool} {cmp : Nat → Nat → (Bool → Shared → Prop) → Shared → Prop} (I : Shared → Prop)
    (hc : ∀ i j s (C : Bool → Shared → Prop), i < n → j < n → I s → (∀ s', I s' → C (f i j) s') → cmp i j C s) {Q : α → Shared → Prop} :
    ∀ (t : KasT α) (s : Shared), inT n f t = true → I s → (∀ s', I s' → Q (runT f t) s') → t.kasWp cmp Q s
  | .ret a, s, _, hi, hq => hq s hi
  | .ask i j k, s, ht, hi, hq => by
    simp only [inT, Bool.and_eq_true, decide_eq_true_eq] at ht
    exact hc i j s _ ht.1 ht.2.1 hi fun s' hi' => wp_runT I hc (k (f i j)) s' ht.2.2 hi' hq
noncomputable def ltR (rs : List Nat) (i j : Nat) : Bool := Nat.blt (rs.getD i 0) (rs.getD j 0)
noncomputable def stab (rs : List Nat) : List Nat := (List.range 4).flatMap fun r => (List.range rs.length).filter fun i => rs.getD i 0 == r
noncomputable def okR (rs : List Nat) : Bool := inT rs.length (ltR rs) (kas_sort rs.length) && ((runT (ltR rs) (kas_sort rs.length)).toList == stab rs)
theorem ok0 : okR [1, 2, 0, 3] = true := by decide +kernel
theorem ok1 : ∀ a < 4, okR [1, 2, 0, 3, a] = true := by decide +kernel
theorem ok2 : ∀ a < 4, ∀ b < 4, okR [1, 2, 0, 3, a, b] = true := by decide +kernel
theorem ok3 : ∀ a < 4, ∀ b < 4, ∀ c < 4, okR [1, 2, 0, 3, a, b, c] = true := by decide +kernel
theorem ok4a : ∀ b < 4, ∀ c < 4, ∀ d < 4, okR [1, 2, 0, 3, 0, b, c, d] = true := by decide +kernel
theorem ok4b : ∀ b < 4, ∀ c < 4, ∀ d < 4, okR [1, 2, 0, 3, 1, b, c, d] = true := by decide +kernel
theorem ok4c : ∀ b < 4, ∀ c < 4, ∀ d < 4, okR [1, 2, 0, 3, 2, b, c, d] = true := by decide +kernel
theorem ok4d : ∀ b < 4, ∀ c < 4, ∀ d < 4, okR [1, 2, 0, 3, 3, b, c, d] = true := by decide +kernel
theorem ok4 : ∀ a < 4, ∀ b < 4, ∀ c < 4, ∀ d < 4, okR [1, 2, 0, 3, a, b, c, d] = true := fun a ha => by
  have : a = 0 ∨ a = 1 ∨ a = 2 ∨ a = 3 := by omega
  rcases this with rfl | rfl | rfl | rfl
  · exact ok4a
  · exact ok4b
  · exact ok4c
  · exact ok4d
theorem okAll : ∀ rs : List Nat, rs.length ≤ 4 → (∀ r ∈ rs, r < 4) → okR ([1, 2, 0, 3] ++ rs) = true
  | [], _, _ => ok0
  | [a], _, h => ok1 a (h a (by simp))
  | [a, b], _, h => ok2 a (h a (by simp)) b (h b (by simp))
  | [a, b, c], _, h => ok3 a (h a (by simp)) b (h b (by simp)) c (h c (by simp))
  | [a, b, c, d], _, h => ok4 a (h a (by simp)) b (h b (by simp)) c (h c (by simp)) d (h d (by simp))
  | _ :: _ :: _ :: _ :: _ :: _, h, _ => by simp at h
end Mine
end
section
open PySem PySem.W PySem.W.X PySem.Spec PySem.Calls PyProof.Rows
set_option maxRecDepth 100000
set_option maxHeartbeats 3000000
namespace Mine
open PySem.Builtin
noncomputable def InitAt (c : KCls) (h : Heap) : Prop := ∃ pm ct1 c1 r1 r2 r3 r4 r5, ∃ (n10 n16 : Int) (fl : Str) (tc : Nat → Tok), h.get? c.f1 = some (fnObj (Str.ofString "__init__") (Str.ofString "cmp_to_key.<locals>.K.__init__") initD [] pm ct1 c1) ∧
   h.get? c1 = some ⟨.type "code", none, .fields #[.str (Str.ofString "__init__") (tc 0), .str (Str.ofString "cmp_to_key.<locals>.K.__init__") (tc 1), .str fl (tc 2), .int 11 (tc 3), .int 2 (tc 4), .int 0 (tc 5), .int 0 (tc 6), .int 19 (tc 7), r1, .bool true, .int n10 (tc 8), r2, .none, r3, r4, r5, .int n16 (tc 9), .int 11 (tc 10), .str fl (tc 11)], #[]⟩
theorem InitAt.up {c : KCls} {h h' : Heap} (x : InitAt c h) (k : Keeps h h') : InitAt c h' := by obtain ⟨pm, ct1, c1, r1, r2, r3, r4, r5, n10, n16, fl, tc, e1, e2⟩ := x; exact ⟨pm, ct1, c1, r1, r2, r3, r4, r5, n10, n16, fl, tc, k _ _ e1, k _ _ e2⟩
theorem LtAt.up {c : KCls} {h h' : Heap} {lam : Addr} (x : LtAt c h lam) (k : Keeps h h') : LtAt c h' lam := by obtain ⟨pm, ct, c2, cell, e1, e2, e3⟩ := x; exact ⟨pm, ct, c2, cell, k _ _ e1, codeRec_up e2 k, e3.keeps k⟩
theorem LamAt.up {h h' : Heap} {lam lc : Addr} (x : LamAt h lam lc) (k : Keeps h h') : LamAt h' lam lc := by obtain ⟨⟨pm, ct, e⟩, r⟩ := x; exact ⟨⟨pm, ct, k _ _ e⟩, codeRec_up r k⟩
theorem RankAt.up {h h' : Heap} {i : Addr} {a : Int} (x : RankAt h i a) (k : Keeps h h') : RankAt h' i a := by obtain ⟨⟨t, u, e⟩, r⟩ := x; exact ⟨⟨t, u, isTuple_up e k⟩, r⟩
section
variable {w : World} {A : Around} {E : Value → Shared → Prop} {h : Heap} {g : Array GenState} {d : Drawn} {tk : Nat} {os : OsState}
theorem inst_call {c : KCls} {i : Addr} {Q : Value → Shared → Prop} (hh : A.handled = none) (hdp : A.depth ≤ 600) (hu : A.units ≤ 9000) (X : (hd.heap_1 w.params).In h) (hc : c.At h) (hi : InitAt c h)
   (hq : ∀ x h' tk', Keeps h h' → KInst c h' x i → Q (.ref x) ⟨h', g, d, tk', os⟩) :
   wpAny (model PySem.Challenge.pw_pd0110_01 w) A (call (.ref c.C) [.ref i]) Q E ⟨h, g, d, tk, os⟩ := by
  obtain ⟨pm, ct1, c1, r1, r2, r3, r4, r5, n10, n16, fl, tc, e1, e2⟩ := hi
  refine wpAny_big (wpAny_mono (inst_run _ w ⟨h, g, d, tk, os⟩ X c.C c.ns c.md c.f1 c1 c.bT c.sl c.f2 c.f3 c.f4 c.f5 c.f6 c.sa i c.t1 c.t2 c.tm c.um pm ct1 c.hs c.ts c.ep r1 r2 r3 r4 r5 n10 n16 fl tc hc.cls hc.names hc.slot e1 e2 E) ?_ fun _ _ e => e) hh hdp hu rfl rfl
  rintro r s' ⟨x, o, h', tk', news, rfl, rfl, D, hm, o1, ⟨dx, o2⟩, o3, o4⟩
  obtain ⟨oc, od, odt, osl⟩ := o
  dsimp only at o1 o2 o3 o4
  subst o1 o2 o3 o4
  exact hq x h' tk' (up_of_mem D) ⟨dx, at_of_mem D hm⟩
theorem lookLT {c : KCls} {Q : Option Value → Shared → Prop} (hc : c.At h) (hq : Q (some (.ref c.f2)) ⟨h, g, d, tk, os⟩) : wpAny (model PySem.Challenge.pw_pd0110_01 w) A (typeLookup (.ref c.C) (Str.ofString "__lt__")) Q E ⟨h, g, d, tk, os⟩ := by
  have hC := hc.cls
  have hns := hc.names
  unfold typeLookup
  refine wpAny_bind (mro_cls hC ?_)
  repeat wp_step
  exact hq
end
end Mine
end
section
open PySem PySem.W PySem.W.X PySem.Spec PySem.Calls PyProof.Rows
set_option maxRecDepth 100000
set_option maxHeartbeats 3000000
namespace Mine
open PySem.Builtin
section
variable {prog : Program} {w : World} {A : Around} {E : Value → Shared → Prop} {h : Heap} {g : Array GenState} {d : Drawn} {tk : Nat} {os : OsState}
theorem bind_f {M : Model} {s : Shared} {f : Addr} {self : Value} {o : Obj} {Q : Value × List Value → Shared → Prop} (ho : s.heap.get? f = some o) (hc : o.cls = .type "function") (hq : Q (.ref f, [self]) s) : wpAny M A (bindSpecial (.ref f) self) Q E s := by
  unfold bindSpecial
  refine wpAny_bind (wpAny_typeOf_ref ho ?_)
  rw [hc]
  exact (Looks.of_pure (M := M) (h := s.heap) (r := (Value.ref f, [self])) (by kernel_rfl)).here hq
theorem key_lt {c : KCls} {x i lam : Addr} {b : Value} {Q : Bool → Shared → Prop} (hu : A.units < cLine) (hc : c.At h) (hx : KInst c h x i) (hl : LtAt c h lam)
    (hq : wpAny (model PySem.Challenge.pw_pd0110_01 w) A (call (.ref c.f2) [.ref x, b]) (W.BoolBack Q) E ⟨h, g, d, tk, os⟩) :
    wpAny (model PySem.Challenge.pw_pd0110_01 w) A (keyLt' oneType' (.ref x) b) Q E ⟨h, g, d, tk, os⟩ := by
  obtain ⟨dx, hx⟩ := hx
  obtain ⟨pm, ct, c2, cell, hf, hcr, hcell⟩ := hl
  rw [keyLt'_oneType, oneLt'_eq]
  simp only [if_true]
  refine wpAny_bind (wpAny_cRoomFor hu ?_)
  refine wpAny_bind (wpAny_mono (Q := fun r s' => ∃ v, r = some v ∧ W.BoolBack Q v s') (E := E) ?_ (fun r s' hr => ?_) fun _ _ e => e)
  · simp only [callSpecialIfBound?, bindSpecialIfBound?, specialOf]
    refine wpAny_holding (wpAny_bind (wpAny_bind (wpAny_bind (wpAny_typeOf_ref hx (lookLT hc ?_)))))
    refine wpAny_bind (wpAny_askSetting (wpAny_ite ?_))
    have fin : wpAny (model PySem.Challenge.pw_pd0110_01 w) A (call (.ref c.f2) ([.ref x] ++ [b]) >>= fun v => pure (some v)) (fun r s' => ∃ v, r = some v ∧ W.BoolBack Q v s') E ⟨h, g, d, tk, os⟩ := wpAny_bind (wpAny_mono hq (fun v s' h' => wpAny_pure ⟨v, rfl, h'⟩) fun _ _ h' => h')
    split
    · exact wpAny_bind (bind_f hf rfl (wpAny_pure fin))
    · exact wpAny_tryCatch (wpAny_bind (bind_f hf rfl (wpAny_pure fin)))
  · obtain ⟨v, rfl, hv⟩ := hr
    cases v <;> first | exact hv.elim | skip
    exact wpAny_truthy_bool hv
end
noncomputable def ItemsAre (h : Heap) (vs : List Value) (rs : List Nat) : Prop := vs.length = rs.length ∧ ∀ (i : Nat) (v : Value) (r : Nat), vs[i]? = some v → rs[i]? = some r → ∃ it : Addr, v = .ref it ∧ RankAt h it (r : Int)
noncomputable def KeysAre (c : KCls) (h : Heap) (vs ks : List Value) : Prop := ∀ (i : Nat) (k : Value), ks[i]? = some k → ∃ x it : Addr, k = .ref x ∧ vs[i]? = some (.ref it) ∧ KInst c h x it
theorem KeysAre.up {c : KCls} {h h' : Heap} {vs ks : List Value} (y : KeysAre c h vs ks) (k : Keeps h h') : KeysAre c h' vs ks := by
  intro i v e
  obtain ⟨x, it, a, b, d⟩ := y i v e
  exact ⟨x, it, a, b, d.up k⟩
theorem ItemsAre.up {h h' : Heap} {vs : List Value} {rs : List Nat} (y : ItemsAre h vs rs) (k : Keeps h h') : ItemsAre h' vs rs := by
  refine ⟨y.1, fun i v r e f => ?_⟩
  obtain ⟨it, a, b⟩ := y.2 i v r e f
  exact ⟨it, a, b.up k⟩
theorem keeps_upd {h₀ h h' : Heap} {a : Addr} (k : Keeps h₀ h) (s : Heap.SameBut a h h') (ha : h₀.get? a = none) : Keeps h₀ h' := fun b o e => (s.2 b (fun q => by rw [q, ha] at e; cases e)).trans (k b o e)
section
variable {w : World} {A : Around} {E : Value → Shared → Prop} {h : Heap} {g : Array GenState} {d : Drawn} {tk : Nat} {os : OsState}
/-- what the comparison of two instances does -/
noncomputable def CmpOk (w : World) (A : Around) (g : Array GenState) (d : Drawn) (os : OsState) (c : KCls) (h : Heap) : Prop :=
  ∀ (h' : Heap) (tk' : Nat) (x y i j : Addr) (a b : Int) (Q' : Value → Shared → Prop), Keeps h h' → KInst c h' x i → KInst c h' y j → RankAt h' i a → RankAt h' j b →
    (∀ h'' tk'', Keeps h' h'' → Q' (.bool (decide (a - b < 0))) ⟨h'', g, d, tk'', os⟩) → wpAny (model PySem.Challenge.pw_pd0110_01 w) A (call (.ref c.f2) [.ref x, .ref y]) Q' (fun _ _ => False) ⟨h', g, d, tk', os⟩
theorem kq_tail {a kS : Addr} {e1 e : Nat} {keys : Array Value} {h₀ : Heap} {st : SortSt} {P : PySem.Fin → Shared → Prop} (k0 : Keeps h₀ h) (hka : kS ≠ a) (hk : h.get? kS = some (seqObj "list" keys e)) (ha : h.get? a = some (seqObj "list" #[] e1)) (h0k : h₀.get? kS = none) (h0a : h₀.get? a = none)
    (hz : keys.size ≤ 100) (hz2 : ((arrOf st).map (·.2)).size ≤ 100) (hfl : failedOf st = none)
    (hq : ∀ h' c, Keeps h₀ h' → h'.get? a = some (seqObj "list" ((arrOf st).map (·.2)) c) → P (.done (.ret .none)) ⟨h', g, d, tk, os⟩) :
    wpAny (model PySem.Challenge.pw_pd0110_01 w) A (ksk_tail a false e1 (.ref kS) st) P E ⟨h, g, d, tk, os⟩ := by
  have s1 := Heap.SameBut.update h kS (Obj.mapSeq fun _ => (#[] : Array Value))
  have na1 : (h.update kS (Obj.mapSeq fun _ => (#[] : Array Value))).get? a = some (seqObj "list" #[] e1) := (s1.2 a hka.symm).trans ha
  have s2 := Heap.SameBut.update (h.update kS (Obj.mapSeq fun _ => (#[] : Array Value))) a (Obj.mapSeq fun _ => (arrOf st).map (·.2))
  obtain ⟨c2, hc2⟩ : ∃ c2, ((h.update kS (Obj.mapSeq fun _ => (#[] : Array Value))).update a (Obj.mapSeq fun _ => (arrOf st).map (·.2))).get? a = some (seqObj "list" ((arrOf st).map (·.2)) c2) := ⟨_, get?_update_seq na1 fun _ => (arrOf st).map (·.2)⟩
  unfold ksk_tail
  try dsimp only
  refine wpAny_bind (listUpdate_at hk rfl ?_ (by rw [sizeLine_eq]; omega) (Nat.zero_le _))
  refine wpAny_bind (wpAny_letGo ?_)
  refine wpAny_bind (seqEpoch_at na1 rfl ?_)
  refine wpAny_bind (listUpdate_at na1 rfl ?_ (Nat.zero_le _) (Nat.le_trans hz2 (by rw [sizeLine_eq]; omega)))
  rw [hfl]
  simp only [bne_self_eq_false, Bool.false_eq_true, if_false]
  exact wpAny_pure (hq _ c2 (keeps_upd (keeps_upd k0 s1 h0k) s2 h0a) hc2)
theorem kq_end {c : KCls} {a kS lam : Addr} {e1 e : Nat} {keys : Array Value} {vs : List Value} {rs : List Nat} {h₀ : Heap} {P : PySem.Fin → Shared → Prop} (hu : A.units < cLine)
    (k0 : Keeps h₀ h) (hka : kS ≠ a) (hk : h.get? kS = some (seqObj "list" keys e)) (ha : h.get? a = some (seqObj "list" #[] e1)) (h0k : h₀.get? kS = none) (h0a : h₀.get? a = none)
    (hc : c.At h₀) (hl : LtAt c h₀ lam) (hcmp : CmpOk w A g d os c h₀) (hi : ItemsAre h₀ vs rs) (hks : KeysAre c h vs keys.toList) (hkz : keys.size = vs.length) (h2 : 2 ≤ vs.length) (h64 : vs.length < 64) (hr : okR rs = true)
    (hq : ∀ h' tk' cc, Keeps h₀ h' → h'.get? a = some (seqObj "list" (List.toArray ((stab rs).map fun i => vs.getD i Value.none)) cc) → P (.done (.ret .none)) ⟨h', g, d, tk', os⟩) :
    wpAny (model PySem.Challenge.pw_pd0110_01 w) A (ksk_end a false vs.toArray e1 (.ref kS) keys) P E ⟨h, g, d, tk, os⟩ := by
  have hzs : (keys.zip vs.toArray).size = vs.length := by rw [Array.size_zip, hkz, List.size_toArray, Nat.min_self]
  have hlen := hi.1
  unfold ksk_end
  try dsimp only
  simp only [Bool.false_eq_true, if_false]
  have hn2 : ¬ vs.toArray.size < 2 := by rw [List.size_toArray]; omega
  rw [if_neg hn2, if_neg hn2]
  have ek : keys = keys.toList.toArray := (Array.toArray_toList).symm
  rw [show keyKind' keys = keyKind' keys.toList.toArray by rw [← ek]]
  refine wpAny_bind (kas_kind (T := .ref c.C) (by rw [Array.length_toList, hkz]; exact h2) (fun v hv => ?_) (by rfl) (by simp) ?_)
  · obtain ⟨i, hiv⟩ := List.getElem?_of_mem hv
    obtain ⟨x, it, rfl, _, ⟨dx, hx⟩⟩ := hks i v hiv
    intro A' Q' E' s' kk q
    exact wpAny_typeOf_ref (kk _ _ hx) q
  have est : SortSt.mk' oneType' (keys.zip vs.toArray) #[] 7 none = kas_st oneType' (keys.zip vs.toArray) (List.toArray (List.range vs.length)) := by
    have e := kas_range (keys.zip vs.toArray)
    rw [hzs] at e
    show SortSt.mk' oneType' (keys.zip vs.toArray) #[] 7 none = SortSt.mk' oneType' ((List.toArray (List.range vs.length)).map (kas_item (keys.zip vs.toArray))) #[] 7 none
    rw [e]
  simp only [okR, Bool.and_eq_true, beq_iff_eq] at hr
  rw [← hlen] at hr
  have item : ∀ i, i < vs.length → ∃ x it, ∃ r, (kas_item (keys.zip vs.toArray) i) = (.ref x, .ref it) ∧ vs[i]? = some (.ref it) ∧ KInst c h x it ∧ rs[i]? = some r ∧ RankAt h₀ it r := by
    intro i hil
    have hki : i < keys.toList.length := by rw [Array.length_toList, hkz]; exact hil
    obtain ⟨x, it, e1, e2, e3⟩ := hks i _ (List.getElem?_eq_getElem hki)
    have hri : i < rs.length := by rw [← hlen]; exact hil
    obtain ⟨it', q1, q2⟩ := hi.2 i _ _ e2 (List.getElem?_eq_getElem hri)
    cases q1
    refine ⟨x, it, rs[i], ?_, e2, e3, List.getElem?_eq_getElem hri, q2⟩
    have hiz : i < (keys.zip vs.toArray).size := by rw [hzs]; exact hil
    have e4 : keys[i]'(by rw [hkz]; exact hil) = .ref x := by rw [← e1]; simp
    have e5 : vs.toArray[i]'(by rw [List.size_toArray]; exact hil) = .ref it := by
      have := (List.getElem?_eq_some_iff.mp e2).2
      simpa using this
    show (keys.zip vs.toArray).getD i _ = _
    rw [Array.getD, dif_pos hiz]
    show (keys.zip vs.toArray)[i] = _
    rw [Array.getElem_zip, e4, e5]
  have run := kas_runs (prog := PySem.Challenge.pw_pd0110_01) (w := w) (A := A) (E := E) (κ := oneType') (it := keys.zip vs.toArray) (n := vs.length) (s := ⟨h, g, d, tk, os⟩)
    (G := fun p s' => p.toList = stab rs ∧ ∃ h' tk', s' = ⟨h', g, d, tk', os⟩ ∧ Keeps h h')
    (Q := fun _ st' s' => ∃ p : Array Nat, p.toList = stab rs ∧ p.size = vs.length ∧ arrOf st' = p.map (kas_item (keys.zip vs.toArray)) ∧ failedOf st' = none ∧ ∃ h' tk', s' = ⟨h', g, d, tk', os⟩ ∧ Keeps h h')
    h2 h64 (fun p' st' s' a1 a2 a3 a4 => ⟨p', a4.1, a1, a2, a3, a4.2⟩)
    (wp_runT (n := vs.length) (f := ltR rs) (fun s' => ∃ h' tk', s' = ⟨h', g, d, tk', os⟩ ∧ Keeps h h') (fun i j s' C hil hjl hI hC => ?_) _ _ hr.1 ⟨h, tk, rfl, fun _ _ e => e⟩ fun s' hI => ⟨hr.2, hI⟩)
  · rw [← est] at run
    refine wpAny_bind (wpAny_mono run ?_ fun _ _ e => e)
    rintro ⟨⟨⟩, st'⟩ s' ⟨p, hp, hpz, har, hf, h', tk', rfl, kk⟩
    dsimp only
    have hout : (arrOf st').map (·.2) = List.toArray ((stab rs).map fun i => vs.getD i Value.none) := by
      apply Array.toList_inj.mp
      rw [har, Array.map_map, Array.toList_map, ← hp]
      refine List.map_congr_left fun i him => ?_
      show (kas_item (keys.zip vs.toArray) i).2 = _
      have hil : i < vs.length := by
        rw [hp] at him
        simp only [stab, List.mem_flatMap, List.mem_filter, List.mem_range] at him
        obtain ⟨_, _, x, _⟩ := him
        rw [hlen]; exact x
      obtain ⟨x, it, r, q1, q2, _⟩ := item i hil
      rw [q1, List.getD_eq_getElem?_getD, q2]
      rfl
    refine kq_tail (k0.trans kk) hka (kk _ _ hk) (kk _ _ ha) h0k h0a (by omega) ?_ hf fun h3 c3 k3 o3 => hq h3 _ c3 k3 ?_
    · rw [Array.size_map, har, Array.size_map, hpz]; omega
    · rw [o3, hout]
  · obtain ⟨h', tk', rfl, kk⟩ := hI
    obtain ⟨x, it, a', q1, q2, q3, q4, q5⟩ := item i hil
    obtain ⟨y, jt, b', p1, p2, p3, p4, p5⟩ := item j hjl
    unfold kas_cmp
    rw [q1, p1]
    refine key_lt hu (hc.up (k0.trans kk)) (q3.up kk) (hl.up (k0.trans kk)) ?_
    refine hcmp h' tk' x y it jt a' b' _ (k0.trans kk) (q3.up kk) (p3.up kk) (q5.up (k0.trans kk)) (p5.up (k0.trans kk)) fun h'' tk'' k2 => ?_
    have e : decide ((a' : Int) - b' < 0) = ltR rs i j := by
      simp only [ltR, List.getD_eq_getElem?_getD, q4, p4, Option.getD_some]
      rw [Bool.eq_iff_iff, decide_eq_true_eq, Nat.blt_eq]
      omega
    rw [e]
    exact hC _ ⟨h'', tk'', rfl, kk.trans k2⟩
end
end Mine
end
section
open PySem PySem.W PySem.W.X PySem.Spec PySem.Calls PyProof.Rows
set_option maxRecDepth 100000
set_option maxHeartbeats 3000000
namespace Mine
open PySem.Builtin
section
variable {w : World} {A : Around} {E : Value → Shared → Prop} {h : Heap} {g : Array GenState} {d : Drawn} {tk : Nat} {os : OsState}
theorem kq_rest {c : KCls} {a kS lam : Addr} {e1 : Nat} {vs : List Value} {rs : List Nat} {h₀ : Heap} {P : PySem.Fin → Shared → Prop} (hu : A.units < cLine) (hh : A.handled = none) (hdp : A.depth ≤ 600) (hun : A.units ≤ 9000) (X : (hd.heap_1 w.params).In h₀)
    (k0 : Keeps h₀ h) (hka : kS ≠ a) (hk : h.get? kS = some (seqObj "list" #[] 0)) (ha : h.get? a = some (seqObj "list" #[] e1)) (h0k : h₀.get? kS = none) (h0a : h₀.get? a = none)
    (hc : c.At h₀) (hin : InitAt c h₀) (hl : LtAt c h₀ lam) (hcmp : CmpOk w A g d os c h₀) (hi : ItemsAre h₀ vs rs) (h2 : 2 ≤ vs.length) (h64 : vs.length < 64) (hr : okR rs = true)
    (hq : ∀ h' tk' cc, Keeps h₀ h' → h'.get? a = some (seqObj "list" (List.toArray ((stab rs).map fun i => vs.getD i Value.none)) cc) → P (.done (.ret .none)) ⟨h', g, d, tk', os⟩) :
    wpAny (model PySem.Challenge.pw_pd0110_01 w) A (ksk_rest a (.ref c.C) false vs.toArray e1 (.ref kS)) P E ⟨h, g, d, tk, os⟩ := by
  unfold ksk_rest
  refine wpAny_bind (wpAny_rule ?_)
  first
    | rw [List.forIn_toArray]
    | (rw [← Array.forIn_toList]; simp only [List.toList_toArray])
    | rw [← Array.forIn_toList]
  refine wpAny_bind (ksk_fold (fun i s' => ∃ h' tk' kA e, s' = ⟨h', g, d, tk', os⟩ ∧ Keeps h₀ h' ∧ h'.get? kS = some (seqObj "list" kA e) ∧ h'.get? a = some (seqObj "list" #[] e1) ∧ KeysAre c h' vs kA.toList ∧ kA.size = i) vs 0 _
    ⟨h, tk, #[], 0, rfl, k0, hk, ha, fun i k e => by simp at e, rfl⟩ ?step ?done)
  case step =>
    rintro j x s' hx ⟨h', tk', kA, e, rfl, kk, nk, na, hks, hz⟩
    simp only [Nat.zero_add] at hz ⊢
    have hj : j < vs.length := (List.getElem?_eq_some_iff.mp hx).1
    obtain ⟨it, rfl, _⟩ := hi.2 j x _ hx (List.getElem?_eq_getElem (show j < rs.length by rw [← hi.1]; exact hj))
    refine wpAny_bind (wpAny_attempt ?_)
    refine inst_call hh hdp hun (X.keeps kk) (hc.up kk) (hin.up kk) fun y h2 tk2 k2 hy => ?_
    try dsimp only
    have nk2 := k2 _ _ nk
    have na2 := k2 _ _ na
    have s1 := Heap.SameBut.update h2 kS (Obj.mapSeq (·.push (.ref y)))
    obtain ⟨c2, hc2⟩ : ∃ c2, (h2.update kS (Obj.mapSeq (·.push (.ref y)))).get? kS = some (seqObj "list" (kA.push (.ref y)) c2) := ⟨_, get?_update_seq nk2 (·.push (.ref y))⟩
    refine wpAny_bind (listUpdate_at nk2 rfl ?_ (by rw [sizeLine_eq]; omega) (Nat.le_trans (Nat.le_of_eq (Array.size_push ..)) (by rw [sizeLine_eq]; omega)))
    refine wpAny_pure ⟨rfl, _, _, kA.push (.ref y), c2, rfl, keeps_upd (kk.trans k2) s1 h0k, hc2, (s1.2 a hka.symm).trans na2, ?_, by rw [Array.size_push, hz]⟩
    have hkin : ∀ z it', KInst c h2 z it' → KInst c (h2.update kS (Obj.mapSeq (·.push (.ref y)))) z it' := by
      rintro z it' ⟨dx, hz'⟩
      refine ⟨dx, (s1.2 z fun q => ?_).trans hz'⟩
      rw [q, nk2] at hz'
      simp [seqObj] at hz'
    intro i k hik
    rw [Array.toList_push] at hik
    by_cases hlt : i < kA.toList.length
    · rw [List.getElem?_append_left hlt] at hik
      obtain ⟨z, it', q1, q2, q3⟩ := hks i k hik
      exact ⟨z, it', q1, q2, hkin _ _ (q3.up k2)⟩
    · rw [List.getElem?_append_right (Nat.le_of_not_lt hlt)] at hik
      have hlen : kA.toList.length = j := by rw [Array.length_toList, hz]
      obtain ⟨q, q'⟩ := List.getElem?_eq_some_iff.mp hik
      simp only [List.length_cons, List.length_nil] at q
      have hij : i = j := by omega
      subst hij
      rw [hlen, Nat.sub_self] at hik
      simp only [List.getElem?_cons_zero, Option.some.injEq] at hik
      subst hik
      exact ⟨y, it, rfl, hx, hkin _ _ hy⟩
  case done =>
    rintro s' ⟨h', tk', kA, e, rfl, kk, nk, na, hks, hz⟩
    rw [Nat.zero_add] at hz
    try dsimp only
    refine wpAny_bind (listItems_at nk rfl ?_)
    exact kq_end hu kk hka nk na h0k h0a hc hl hcmp hi hks hz h2 h64 hr hq
theorem kq_sort {c : KCls} {a lam : Addr} {n : Nat} {vs : List Value} {rs : List Nat} {h₀ : Heap} {P : PySem.Fin → Shared → Prop} (hu : A.units < cLine) (hh : A.handled = none) (hdp : A.depth ≤ 600) (hun : A.units ≤ 9000) (X : (hd.heap_1 w.params).In h₀)
    (k0 : Keeps h₀ h) (ho : h.get? a = some (seqObj "list" vs.toArray n)) (h0a : h₀.get? a = none) (hsz : h₀.objs.size ≤ h.objs.size)
    (hc : c.At h₀) (hin : InitAt c h₀) (hl : LtAt c h₀ lam) (hcmp : CmpOk w A g d os c h₀) (hi : ItemsAre h₀ vs rs) (h2 : 2 ≤ vs.length) (h64 : vs.length < 64) (hr : okR rs = true)
    (hq : ∀ h' tk' cc, Keeps h₀ h' → h'.get? a = some (seqObj "list" (List.toArray ((stab rs).map fun i => vs.getD i Value.none)) cc) → P (.done (.ret .none)) ⟨h', g, d, tk', os⟩) :
    wpAny (model PySem.Challenge.pw_pd0110_01 w) A (ksk_tree a (.ref c.C) false) P E ⟨h, g, d, tk, os⟩ := by
  have ha : a < h.objs.size := Heap.lt_size ho
  have s1 := Heap.SameBut.update h a (Obj.mapSeq fun _ => (#[] : Array Value))
  obtain ⟨e1, ho1⟩ : ∃ e1, (h.update a (Obj.mapSeq fun _ => (#[] : Array Value))).get? a = some (seqObj "list" #[] e1) := ⟨_, get?_update_seq ho fun _ => #[]⟩
  have hkS : ((h.update a (Obj.mapSeq fun _ => (#[] : Array Value))).push (seqObj "tuple" vs.toArray 0)).objs.size = h.objs.size + 1 := by rw [size_push', Heap.size_update]
  unfold ksk_tree
  refine wpAny_bind (listItems_at ho rfl ?_)
  refine wpAny_bind (listUpdate_at ho rfl ?_ (by rw [List.size_toArray, sizeLine_eq]; omega) (Nat.zero_le _))
  refine wpAny_bind (seqEpoch_at ho1 rfl ?_)
  refine wpAny_bind (wpAny_newTuple ?_ (by show vs.length ≤ _; rw [sizeLine_eq]; omega))
  refine wpAny_bind (wpAny_newList ?_ (Nat.zero_le _))
  refine wpAny_holding ?_
  refine kq_rest (h := ((h.update a (Obj.mapSeq fun _ => (#[] : Array Value))).push (seqObj "tuple" vs.toArray 0)).push (seqObj "list" #[] 0)) (kS := ((h.update a (Obj.mapSeq fun _ => (#[] : Array Value))).push (seqObj "tuple" vs.toArray 0)).objs.size)
    hu hh hdp hun X (fun b o e => Heap.get?_push_of_some _ (Heap.get?_push_of_some _ (keeps_upd k0 s1 h0a b o e))) (by rw [hkS]; exact Nat.ne_of_gt (Nat.lt_succ_of_lt ha))
    (Heap.get?_push_size _ rfl) (Heap.get?_push_of_some _ (Heap.get?_push_of_some _ ho1)) (Heap.get?_none_of_le (by rw [hkS]; omega)) h0a hc hin hl hcmp hi h2 h64 hr hq
theorem kq_sorted {c : KCls} {l lam : Addr} {vs : List Value} {rs : List Nat} {Q : Value → Shared → Prop} (hu : A.in1.in1.units < cLine) (hh : A.in1.in1.handled = none) (hdp : A.in1.in1.depth ≤ 600) (hun : A.in1.in1.units ≤ 9000) (X : (hd.heap_1 w.params).In h)
    (hls : h.IsList l vs.toArray) (hc : c.At h) (hin : InitAt c h) (hl : LtAt c h lam) (hcmp : CmpOk w A.in1.in1 g d os c h) (hi : ItemsAre h vs rs) (h2 : 2 ≤ vs.length) (h64 : vs.length < 64) (hr : okR rs = true)
    (hq : ∀ D h' tk' cc, Keeps h h' → h.get? D = none → h'.get? D = some (seqObj "list" (List.toArray ((stab rs).map fun i => vs.getD i Value.none)) cc) → Q (.ref D) ⟨h', g, d, tk', os⟩) :
    wpAny (model PySem.Challenge.pw_pd0110_01 w) A (call (.builtin "sorted") [.ref l] [(Str.ofString "key", .ref c.C)]) Q E ⟨h, g, d, tk, os⟩ := by
  refine call_function_entry_kw kind_sorted plain_sorted entry_sorted (ksk_s1 _ _) ?_
  unfold Builtin.«sorted»
  refine wpAny_bind (m := checkCount "sorted" 1 1 _) (wpAny_pure ?_)
  refine wpAny_bind (collect_list hls ?_ (by rw [sizeLine_eq]; omega))
  refine wpAny_bind (wpAny_newList ?_ (by rw [sizeLine_eq]; omega))
  have hsz : ((h.push (seqObj "list" #[] 0)).update h.objs.size (Obj.mapSeq (· ++ vs.toArray))).objs.size = h.objs.size + 1 := by
    rw [Heap.size_update, size_push']
  have hoL : (((h.push (seqObj "list" #[] 0)).update h.objs.size (Obj.mapSeq (· ++ vs.toArray))).push (seqObj "list" vs.toArray 0)).get? (h.objs.size + 1) = some (seqObj "list" vs.toArray 0) := by
    rw [← hsz]; exact Heap.get?_push_size _ rfl
  have keep : Keeps h (((h.push (seqObj "list" #[] 0)).update h.objs.size (Obj.mapSeq (· ++ vs.toArray))).push (seqObj "list" vs.toArray 0)) := fun b o q => by
    have hlt : b < h.objs.size := Heap.lt_size q
    rw [Heap.get?_push_ne _ _ _ (by rw [hsz]; exact Nat.ne_of_lt (Nat.lt_succ_of_lt hlt)), Heap.get?_update_ne _ _ _ _ (Nat.ne_of_lt hlt), Heap.get?_push_ne _ _ _ (Nat.ne_of_lt hlt)]
    exact q
  show wpAny _ _ _ _ _ (⟨((h.push (seqObj "list" #[] 0)).update h.objs.size (Obj.mapSeq (· ++ vs.toArray))).push (seqObj "list" vs.toArray 0), g, d, tk, os⟩ : Shared)
  rw [hsz]
  refine wpAny_bind (wpAny_holding (wpAny_call_entry_kw slot_list_sort ⟨_, hoL, rfl⟩ entry_list_sort ?body (ksk_l1 _ _)))
  case body =>
    have ht' := ksk_t1 c.C (h.objs.size + 1)
    show wpAny (model PySem.Challenge.pw_pd0110_01 w) A.in1.in1 (Builtin.«list.sort» ⟨[.ref (h.objs.size + 1)], _⟩) _ _ _
    rw [ht']
    refine kq_sort hu hh hdp hun X keep hoL (Heap.get?_none_of_le (Nat.le_succ _)) (by rw [size_push', hsz]; omega) hc hin hl hcmp hi h2 h64 hr fun h' tk' cc kk o => ⟨_, rfl, ?_⟩
    exact wpAny_pure ⟨_, rfl, hq _ h' tk' cc kk (Heap.get?_none_of_le (Nat.le_succ _)) o⟩
end
end Mine
end
section
open PySem PySem.W PySem.W.X PySem.Spec PySem.Calls PyProof.Rows
set_option maxRecDepth 100000
set_option maxHeartbeats 3000000
namespace Mine
/-- the entries of a namespace, by name and value -/
inductive Ents : List DictEntry → List (Str × Value) → Prop
  | nil : Ents [] []
  | cons {es l} (i : Int) (n : Str) (t : Tok) (v : Value) : Ents es l → Ents (⟨i, .str n t, v⟩ :: es) ((n, v) :: l)
theorem Ents.snoc {es : List DictEntry} {l : List (Str × Value)} (i : Int) (n : Str) (t : Tok) (v : Value) (h : Ents es l) : Ents (es ++ [⟨i, .str n t, v⟩]) (l ++ [(n, v)]) := by
  induction h with
  | nil => exact .cons i n t v .nil
  | cons i' n' t' v' _ ih => exact .cons i' n' t' v' ih
theorem Ents.noRef {es : List DictEntry} {l : List (Str × Value)} (h : Ents es l) : ∀ e ∈ es, e.refKey = false := by
  induction h with
  | nil => intro e he; cases he
  | cons i n t v _ ih =>
    intro e he
    rcases List.mem_cons.mp he with rfl | he
    · rfl
    · exact ih e he
theorem Ents.noName {es : List DictEntry} {l : List (Str × Value)} {x : Str} (h : Ents es l) : (∀ p ∈ l, (p.1 == x) = false) → ∀ e ∈ es, e.key.isStr x = false := by
  induction h with
  | nil => intro _ e he; cases he
  | cons i n t v _ ih =>
    intro hl e he
    rcases List.mem_cons.mp he with rfl | he
    · exact hl _ (.head _)
    · exact ih (fun p hp => hl p (.tail _ hp)) e he
noncomputable def DictAt (h : Heap) (a : Addr) (l : List (Str × Value)) : Prop := ∃ es ep, h.get? a = some ⟨.type "dict", none, .dict es ep, #[]⟩ ∧ Ents es.toList l
theorem DictAt.up {h h' : Heap} {a : Addr} {l : List (Str × Value)} (x : DictAt h a l) (k : ∀ o, h.get? a = some o → h'.get? a = some o) : DictAt h' a l := by obtain ⟨es, ep, e, r⟩ := x; exact ⟨es, ep, k _ e, r⟩
section
variable {M : Model} {A : Around} {E : Value → Shared → Prop} {s : Shared}
theorem nsSet_push {a : Addr} {l : List (Str × Value)} {name : Str} {v : Value} {Q : Unit → Shared → Prop} (hn : DictAt s.heap a l) (hl : ∀ p ∈ l, (p.1 == name) = false)
    (hQ : ∀ h' tk, DictAt h' a (l ++ [(name, v)]) → Heap.SameBut a s.heap h' → Q () { s with heap := h', toks := tk }) : wpAny M A (nsSet a name v) Q E s := by
  intro Γ p _
  obtain ⟨es, ep, ho, hes⟩ := hn
  simp only [nsSet, strHash, Sem.wp_bind', Sem.wp_cmd_ask, Sem.wp_pure', Sem.wp_cmd_mkText]
  rw [Sem.wp_loadPart_of M Γ (fun e _ s' => E e s') p { s with toks := s.toks + 1 } (o := ⟨.type "dict", none, .dict es ep, #[]⟩) _ ho]
  have hany : es.any (·.refKey) = false := by
    rw [Array.any_eq_false']; intro e he
    rw [hes.noRef e (Array.mem_toList_iff.mpr he)]; simp
  simp only [aRefKeyMayBeTheName_eq, aRefKeyMayBeTheNameByArray, hany, Bool.and_false, Bool.false_eq_true, if_false, Sem.wp_cmd_updatePart]
  have hi : es.findIdx? (·.key.isStr name) = none := by
    rw [Array.findIdx?_eq_none_iff]
    intro e he
    exact hes.noName hl e (Array.mem_toList_iff.mpr he)
  refine ⟨by rw [ho]; rfl, hQ _ _ ⟨_, ep + 1, Heap.get?_update_self _ ho (by simp only [Obj.putName_eq, Obj.putNameByArray, hi]; rfl) |>.trans (by simp only [Obj.putName_eq, Obj.putNameByArray, hi]; rfl), ?_⟩ (Heap.SameBut.update ..)⟩
  rw [Array.toList_push]
  exact hes.snoc _ _ _ _
theorem nsSet_head {a : Addr} {l : List (Str × Value)} {name : Str} {v u : Value} {Q : Unit → Shared → Prop} (hn : DictAt s.heap a ((name, u) :: l))
    (hQ : ∀ h' tk, DictAt h' a ((name, v) :: l) → Heap.SameBut a s.heap h' → Q () { s with heap := h', toks := tk }) : wpAny M A (nsSet a name v) Q E s := by
  intro Γ p _
  obtain ⟨es, ep, ho, hes⟩ := hn
  simp only [nsSet, strHash, Sem.wp_bind', Sem.wp_cmd_ask, Sem.wp_pure', Sem.wp_cmd_mkText]
  rw [Sem.wp_loadPart_of M Γ (fun e _ s' => E e s') p { s with toks := s.toks + 1 } (o := ⟨.type "dict", none, .dict es ep, #[]⟩) _ ho]
  have hany : es.any (·.refKey) = false := by
    rw [Array.any_eq_false']; intro e he
    rw [hes.noRef e (Array.mem_toList_iff.mpr he)]; simp
  simp only [aRefKeyMayBeTheName_eq, aRefKeyMayBeTheNameByArray, hany, Bool.and_false, Bool.false_eq_true, if_false, Sem.wp_cmd_updatePart]
  generalize hq : es.toList = el at hes
  cases hes with
  | @cons es' _ i _ t _ h =>
    have he : es = List.toArray (⟨i, .str name t, u⟩ :: es') := by rw [← hq, Array.toArray_toList]
    subst he
    have hi : (List.toArray (⟨i, .str name t, u⟩ :: es')).findIdx? (fun e : DictEntry => e.key.isStr name) = some 0 := by
      rw [List.findIdx?_toArray, List.findIdx?_cons, if_pos (by show (name == name) = true; exact beq_self_eq_true name)]
    refine ⟨by rw [ho]; rfl, hQ _ _ ⟨_, ep, Heap.get?_update_self _ ho (by simp only [Obj.putName_eq, Obj.putNameByArray, hi]; rfl) |>.trans (by simp only [Obj.putName_eq, Obj.putNameByArray, hi]; rfl), ?_⟩ (Heap.SameBut.update ..)⟩
    simpa using Ents.cons i name t v h
end
end Mine
end
section
open PySem PySem.W PySem.W.X PySem.Spec PySem.Calls PyProof.Rows
set_option maxRecDepth 100000
set_option maxHeartbeats 3000000
namespace Mine
noncomputable def CodeIs (name qual file : Str) (fl ac po kw flags : Nat) (inF : Bool) (text : Nat) (P : Addr) (o : Obj) : Prop := ∃ (a0 a1 a2 a3 : Tok) (r1 r3 r4 r5 : Value) (n16 : Nat),
  o = ⟨.type "code", none, .fields #[.str name a0, .str qual a1, .str file a2, rawInt fl, rawInt ac, rawInt po, rawInt kw, rawInt flags, r1, .bool inF, rawInt text, .ref P, .none, r3, r4, r5, rawInt n16, rawInt fl, .str file a3], #[]⟩
section
variable {M : Model} {A : Around} {E : Value → Shared → Prop} {s : Shared}
theorem newCode_ex {ctx : CodeContext} {name qual : Str} {fl argc posonly kwonly flags : Nat} {free : List Str} {isFunction : Bool} {locals : Option (List Str × List Str)} {template : Option FuncData} {Q : Value → Shared → Prop}
    (hQ : ∀ c P h' tk o, Keeps s.heap h' → s.heap.objs.size ≤ c → s.heap.objs.size ≤ P → c ≠ P → c < h'.objs.size → h'.get? c = some o → CodeIs name qual ctx.file fl argc posonly kwonly flags (isFunction || ctx.inFunction) ctx.text P o → h'.get? P = some (tabObj #[]) →
      Q (.ref c) { s with heap := h', toks := tk }) :
    wpAny M A (newCode ctx name qual fl argc posonly kwonly flags free isFunction none locals template) Q E s := by
  unfold newCode
  refine wpAny_bind (wpAny_mkText (wpAny_bind (wpAny_mkText (wpAny_bind (wpAny_mkText (wpAny_bind (wpAny_mkStrs fun fs =>
    wpAny_bind (wpAny_newObjAsIs_type (wpAny_bind (wpAny_alloc ?_))))))))))
  generalize hH : (s.heap.push { cls := .type "tuple", dict := none, data := .seq fs.toArray }) = H
  have hz : H.objs.size = s.heap.objs.size + 1 := by rw [← hH, Heap.size_push]
  have hk : ∀ b o, s.heap.get? b = some o → H.get? b = some o := fun b o e => hH ▸ Heap.get?_push_of_some _ e
  have hPl : (H.push { cls := .none, data := .fields #[] }).get? H.objs.size = some { cls := .none, data := .fields #[] } := Heap.get?_push_size _ rfl
  cases locals with
  | none =>
    cases template with
    | none =>
      refine wpAny_bind (wpAny_pure (wpAny_bind (wpAny_pure (wpAny_bind (wpAny_pure (wpAny_bind (wpAny_fresh (wpAny_bind (wpAny_mkText (wpAny_newObj_type ?_ (by size_fits)))))))))))
      exact hQ _ H.objs.size _ _ _ (fun b o e => Heap.get?_push_of_some _ (Heap.get?_push_of_some _ (hk b o e))) (by rw [Heap.size_push, hz]; omega) (by rw [hz]; omega) (by rw [Heap.size_push]; exact Nat.succ_ne_self _) (by simp only [Heap.size_push]; omega)
        (Heap.get?_push_size _ rfl) ⟨_, _, _, _, _, _, _, _, _, rfl⟩ (Heap.get?_push_of_some _ hPl)
    | some fd =>
      refine wpAny_bind (wpAny_pure (wpAny_bind (wpAny_pure (wpAny_bind (wpAny_bind (wpAny_alloc (wpAny_pure (wpAny_bind (wpAny_fresh (wpAny_bind (wpAny_mkText (wpAny_newObj_type ?_ (by size_fits)))))))))))))
      exact hQ _ H.objs.size _ _ _ (fun b o e => Heap.get?_push_of_some _ (Heap.get?_push_of_some _ (Heap.get?_push_of_some _ (hk b o e)))) (by simp only [Heap.size_push, hz]; omega) (by rw [hz]; omega) (by simp only [Heap.size_push]; exact Nat.ne_of_gt (by omega)) (by simp only [Heap.size_push]; omega)
        (Heap.get?_push_size _ rfl) ⟨_, _, _, _, _, _, _, _, _, rfl⟩ (Heap.get?_push_of_some _ (Heap.get?_push_of_some _ hPl))
  | some l =>
    cases template with
    | none =>
      refine wpAny_bind (wpAny_mkStrs fun a => wpAny_bind (wpAny_newObjAsIs_type (wpAny_bind (wpAny_mkStrs fun b => wpAny_bind (wpAny_newObjAsIs_type
        (wpAny_bind (wpAny_pure (wpAny_bind (wpAny_fresh (wpAny_bind (wpAny_mkText (wpAny_newObj_type ?_ (by size_fits)))))))))))))
      exact hQ _ H.objs.size _ _ _ (fun b o e => Heap.get?_push_of_some _ (Heap.get?_push_of_some _ (Heap.get?_push_of_some _ (Heap.get?_push_of_some _ (hk b o e)))))
        (by simp only [Heap.size_push, hz]; omega) (by rw [hz]; omega) (by simp only [Heap.size_push]; exact Nat.ne_of_gt (by omega)) (by simp only [Heap.size_push]; omega)
        (Heap.get?_push_size _ rfl) ⟨_, _, _, _, _, _, _, _, _, rfl⟩ (Heap.get?_push_of_some _ (Heap.get?_push_of_some _ (Heap.get?_push_of_some _ hPl)))
    | some fd =>
      refine wpAny_bind (wpAny_mkStrs fun a => wpAny_bind (wpAny_newObjAsIs_type (wpAny_bind (wpAny_mkStrs fun b => wpAny_bind (wpAny_newObjAsIs_type
        (wpAny_bind (wpAny_bind (wpAny_alloc (wpAny_pure (wpAny_bind (wpAny_fresh (wpAny_bind (wpAny_mkText (wpAny_newObj_type ?_ (by size_fits)))))))))))))))
      exact hQ _ H.objs.size _ _ _ (fun b o e => Heap.get?_push_of_some _ (Heap.get?_push_of_some _ (Heap.get?_push_of_some _ (Heap.get?_push_of_some _ (Heap.get?_push_of_some _ (hk b o e))))))
        (by simp only [Heap.size_push, hz]; omega) (by rw [hz]; omega) (by simp only [Heap.size_push]; exact Nat.ne_of_gt (by omega)) (by simp only [Heap.size_push]; omega)
        (Heap.get?_push_size _ rfl) ⟨_, _, _, _, _, _, _, _, _, rfl⟩ (Heap.get?_push_of_some _ (Heap.get?_push_of_some _ (Heap.get?_push_of_some _ (Heap.get?_push_of_some _ hPl))))
/-- what the code object of the block holds, as far as codes within it ask -/
noncomputable def Blk (h : Heap) (c P : Addr) (file : Str) (flags : Nat) (inF : Bool) (text : Nat) : Prop := ∃ (vs : Array Value) (tf tg tt : Tok), h.get? c = some ⟨.type "code", none, .fields vs, #[]⟩ ∧ vs.getD 11 .none = .ref P ∧ vs.getD 18 .none = .str file tf ∧ vs.getD 7 .none = .int flags tg ∧ vs.getD 9 .none = .bool inF ∧ vs.getD 10 .none = .int text tt ∧ c ≠ P
theorem Blk.up {h h' : Heap} {c P : Addr} {file : Str} {flags : Nat} {inF : Bool} {text : Nat} (x : Blk h c P file flags inF text) (k : ∀ o, h.get? c = some o → h'.get? c = some o) : Blk h' c P file flags inF text := by obtain ⟨vs, tf, tg, tt, e, r⟩ := x; exact ⟨vs, tf, tg, tt, k _ e, r⟩
theorem Blk.of {h : Heap} {c P : Addr} {name qual file : Str} {fl ac po kw flags text : Nat} {inF : Bool} {o : Obj} (e : h.get? c = some o) (x : CodeIs name qual file fl ac po kw flags inF text P o) (hne : c ≠ P) : Blk h c P file flags inF text := by
  obtain ⟨a0, a1, a2, a3, r1, r3, r4, r5, n16, rfl⟩ := x
  exact ⟨_, a3, 0, 0, e, rfl, rfl, rfl, rfl, rfl, hne⟩
theorem codeAt_ex {env : Env} {c P : Addr} {ps : Array Value} {pos : Pos} {make : CodeContext → Sem Value} {file : Str} {flags text : Nat} {inF : Bool} {Q : Value → Shared → Prop} {R : Addr → Obj → Prop}
    (hc : env.code = .ref c) (B : Blk s.heap c P file flags inF text) (hP : s.heap.get? P = some (tabObj ps)) (htr : TriplesOk ps.toList) (hnf : codeAmong pos ps.toList = none)
    (hm : ∀ Q' : Value → Shared → Prop, (∀ c' P' h' tk o, Keeps s.heap h' → s.heap.objs.size ≤ c' → s.heap.objs.size ≤ P' → c' ≠ P' → c' < h'.objs.size → h'.get? c' = some o → R P' o → h'.get? P' = some (tabObj #[]) → Q' (.ref c') { s with heap := h', toks := tk }) →
       wpAny M A (make { file, future := flags &&& (coFutureAnnotations ||| coFutureBarry), inFunction := inF || env.scope.kind == .function, text }) Q' E s)
    (hQ : ∀ c' P' h' tk o, Heap.ExtBut P s.heap h' → s.heap.objs.size ≤ c' → s.heap.objs.size ≤ P' → c' ≠ P' → c' < h'.objs.size → h'.get? c' = some o → R P' o → h'.get? P' = some (tabObj #[]) → h'.get? P = some (tabObj (ps ++ #[rawInt pos.line, rawInt pos.col, .ref c'])) → Q (.ref c') { s with heap := h', toks := tk }) :
    wpAny M A (codeAt env pos make) Q E s := by
  obtain ⟨vs, tf, tg, tt, ho, h11, h2, h7, h9, h10, hne⟩ := id B
  unfold codeAt
  rw [hc, if_neg (show ¬ ((Value.ref c == Value.none) = true) from Bool.false_ne_true)]
  refine wpAny_bind (wpAny_fieldsOf ho rfl ?_)
  rw [h11]
  refine wpAny_bind (wpAny_fieldsOf hP rfl ?_)
  rw [hnf, h2, h7, h9, h10]
  refine wpAny_bind (hm _ fun c' P' h' tk o hk hc' hP' hcP' hlt ho' hR hp' => ?_)
  have hop' := hk _ _ hP
  refine wpAny_bind (wpAny_updateFieldsOfTheText hop' rfl ?_)
  have hnew : (Obj.mapFields (fun vs => if (codeAmong pos vs.toList).isSome = true then vs else vs ++ #[rawInt pos.line, rawInt pos.col, .ref c']) (tabObj ps)) =
      tabObj (ps ++ #[rawInt pos.line, rawInt pos.col, .ref c']) := by
    simp only [Obj.mapFields, hnf]; rfl
  have hget := Heap.get?_update_self (h := h') (fun o => Obj.mapFields (fun vs => if (codeAmong pos vs.toList).isSome = true then vs else
    vs ++ #[rawInt pos.line, rawInt pos.col, .ref c']) o) hop' (by rw [hnew]; rfl)
  rw [hnew] at hget
  refine wpAny_bind (wpAny_fieldsOf hget rfl ?_)
  have hl : (ps ++ #[rawInt pos.line, rawInt pos.col, Value.ref c']).toList = ps.toList ++ [rawInt pos.line, rawInt pos.col, .ref c'] := by simp
  rw [hl, codeAmong_snoc _ htr hnf]
  have hcP : c' ≠ P := Nat.ne_of_gt (Nat.lt_of_lt_of_le (Heap.lt_size hP) hc')
  have hPP : P' ≠ P := Nat.ne_of_gt (Nat.lt_of_lt_of_le (Heap.lt_size hP) hP')
  refine wpAny_pure (hQ c' P' _ _ o (fun b o' hb e => ((Heap.SameBut.update ..).extBut b o' hb (hk b o' e))) hc' hP' hcP' (by rw [Heap.size_after_update]; exact hlt) ((Heap.SameBut.update ..).extBut _ _ hcP ho') hR ((Heap.SameBut.update ..).extBut _ _ hPP hp') hget)
end
end Mine
end
section
open PySem PySem.W PySem.W.X PySem.Spec PySem.Calls PyProof.Rows
set_option maxRecDepth 100000
set_option maxHeartbeats 3000000
namespace Mine
/-- everything is kept but the table P and the namespace nA -/
noncomputable def Step (P nA : Addr) (h h' : Heap) : Prop := ∀ b o, b ≠ P → b ≠ nA → h.get? b = some o → h'.get? b = some o
theorem Step.refl {P nA : Addr} {h : Heap} : Step P nA h h := fun _ _ _ _ e => e
theorem Step.trans {P nA : Addr} {a b c : Heap} (x : Step P nA a b) (y : Step P nA b c) : Step P nA a c := fun p o h1 h2 e => y p o h1 h2 (x p o h1 h2 e)
theorem Step.keeps {P nA : Addr} {h h' : Heap} (k : Keeps h h') : Step P nA h h' := fun b o _ _ e => k b o e
section
variable {M : Model} {A : Around} {E : Value → Shared → Prop} {s : Shared} {name qual file : Str} {params : Arguments} {body : List Stmt} {scope : Scope} {env : Env} {c P : Addr} {ps : Array Value} {pos : Pos} {firstLine : Nat} {mg : Str → Option Value} {clos : List (Str × Addr)} {flags text : Nat} {inF : Bool}
theorem makeFn_ex {Q : Value → Shared → Prop} (hcl : closureFor scope env = pure clos) (hge0 : env.globals = mainGlobals) (hg : s.heap.Ns mainGlobals mg) (hcode : env.code = .ref c) (B : Blk s.heap c P file flags inF text) (hP : s.heap.get? P = some (tabObj ps)) (ht : TriplesOk ps.toList)
    (hnf : codeAmong pos ps.toList = none) (hgP : mainGlobals ≠ P) (hb : s.heap.BuiltinsAt mg P) (hdoc : docOf body = none)
    (h : ∀ f c' ctv h' tk o P', Heap.ExtBut P s.heap h' → s.heap.objs.size ≤ c' → c' < f → h'.get? c' = some o →
      CodeIs name qual file firstLine (params.posonlyargs.length + params.args.length) params.posonlyargs.length params.kwonlyargs.length (functionFlags params.vararg.isSome params.kwarg.isSome scope { file, future := flags &&& (coFutureAnnotations ||| coFutureBarry), inFunction := inF || env.scope.kind == .function, text }) true text P' o →
      h'.get? P = some (tabObj (ps ++ #[rawInt pos.line, rawInt pos.col, .ref c'])) → h'.get? f = some (fnMade name qual params body scope clos .none ((mg "__name__").getD .none) c' ctv) → Q (.ref f) { s with heap := h', toks := tk }) :
    wpAny M A (makeFunction name qual params (.stmts body) scope env [] [] [] pos firstLine) Q E s := by
  rw [makeFunction_eq]
  simp only [List.zip_nil_right, List.filterMap_nil, List.isEmpty_nil, if_true, pure_bind]
  obtain ⟨bm, ob, hbm, hne0, _, hneP, hbo, hcls, hdict, hdata⟩ := hb
  unfold makeTail
  rw [hcl, hge0]
  refine wpAny_bind (wpAny_pure ?_)
  cases clos with
  | nil =>
    simp only [List.isEmpty_nil, if_true]
    refine wpAny_bind (wpAny_pure ?_)
    unfold functionCode
    refine wpAny_bind (codeAt_ex (R := fun P' o => CodeIs name qual file firstLine (params.posonlyargs.length + params.args.length) params.posonlyargs.length params.kwonlyargs.length (functionFlags params.vararg.isSome params.kwarg.isSome scope { file, future := flags &&& (coFutureAnnotations ||| coFutureBarry), inFunction := inF || env.scope.kind == .function, text }) true text P' o)
      hcode (B.up fun o e => (fun (b : Addr) (o : Obj) (e : s.heap.get? b = some o) => e) _ _ e) ((fun (b : Addr) (o : Obj) (e : s.heap.get? b = some o) => e) _ _ hP) ht hnf (fun Q' hq => newCode_ex fun c₁ P₁ h₁ tk₁ o₁ k1 k2 k3 k4 k5 k6 k7 k8 => hq c₁ P₁ h₁ tk₁ o₁ k1 k2 k3 k4 k5 k6 k7 k8) fun c' P' h' tk o hx hge hgeP hcP' hlt ho hR hp' hp => ?_)
    have hg' := Heap.Ns.extBut (Heap.Ns.keeps hg (fun (b : Addr) (o : Obj) (e : s.heap.get? b = some o) => e)) hx hgP
    refine wpAny_bind (wpAny_builtinsFor hg' hbm hne0 (hx _ _ hneP ((fun (b : Addr) (o : Obj) (e : s.heap.get? b = some o) => e) _ _ hbo)) hcls hdict hdata ?_)
    refine wpAny_bind (wpAny_nsGet hg' ?_)
    rw [hdoc]
    refine wpAny_bind (wpAny_pure (wpAny_newObj_type ?_ (by size_fits)))
    exact h h'.objs.size c' _ _ _ o P' (fun b o' hb e => Heap.get?_push_of_some _ (hx b o' hb ((fun (b : Addr) (o : Obj) (e : s.heap.get? b = some o) => e) b o' e))) (Nat.le_trans (Nat.le_refl _) hge) hlt (Heap.get?_push_of_some _ ho) hR (Heap.get?_push_of_some _ hp) (Heap.get?_push_size _ rfl)
  | cons q r =>
    simp only [List.isEmpty_cons, Bool.false_eq_true, if_false]
    refine wpAny_bind (wpAny_newTextTuple ?_)
    generalize ho0 : (Obj.mk (.type "tuple") none _ #[]) = oT
    unfold functionCode
    refine wpAny_bind (codeAt_ex (R := fun P' o => CodeIs name qual file firstLine (params.posonlyargs.length + params.args.length) params.posonlyargs.length params.kwonlyargs.length (functionFlags params.vararg.isSome params.kwarg.isSome scope { file, future := flags &&& (coFutureAnnotations ||| coFutureBarry), inFunction := inF || env.scope.kind == .function, text }) true text P' o)
      hcode (B.up fun o e => (fun (b : Addr) (o : Obj) (e : s.heap.get? b = some o) => Heap.get?_push_of_some oT e) _ _ e) ((fun (b : Addr) (o : Obj) (e : s.heap.get? b = some o) => Heap.get?_push_of_some oT e) _ _ hP) ht hnf (fun Q' hq => newCode_ex fun c₁ P₁ h₁ tk₁ o₁ k1 k2 k3 k4 k5 k6 k7 k8 => hq c₁ P₁ h₁ tk₁ o₁ k1 k2 k3 k4 k5 k6 k7 k8) fun c' P' h' tk o hx hge hgeP hcP' hlt ho hR hp' hp => ?_)
    have hg' := Heap.Ns.extBut (Heap.Ns.keeps hg (fun (b : Addr) (o : Obj) (e : s.heap.get? b = some o) => Heap.get?_push_of_some oT e)) hx hgP
    refine wpAny_bind (wpAny_builtinsFor hg' hbm hne0 (hx _ _ hneP ((fun (b : Addr) (o : Obj) (e : s.heap.get? b = some o) => Heap.get?_push_of_some oT e) _ _ hbo)) hcls hdict hdata ?_)
    refine wpAny_bind (wpAny_nsGet hg' ?_)
    rw [hdoc]
    refine wpAny_bind (wpAny_pure (wpAny_newObj_type ?_ (by size_fits)))
    exact h h'.objs.size c' _ _ _ o P' (fun b o' hb e => Heap.get?_push_of_some _ (hx b o' hb ((fun (b : Addr) (o : Obj) (e : s.heap.get? b = some o) => Heap.get?_push_of_some oT e) b o' e))) (Nat.le_trans (by rw [Heap.size_push]; omega) hge) hlt (Heap.get?_push_of_some _ ho) hR (Heap.get?_push_of_some _ hp) (Heap.get?_push_size _ rfl)
theorem localSet_push {nA : Addr} {l : List (Str × Value)} {v : Value} {Q : Unit → Shared → Prop} (hloc : env.locals = nA) (hn : DictAt s.heap nA l) (hl : ∀ p ∈ l, (p.1 == name) = false)
    (hQ : ∀ h' tk, DictAt h' nA (l ++ [(name, v)]) → Heap.SameBut nA s.heap h' → Q () { s with heap := h', toks := tk }) : wpAny M A (localSet env name v) Q E s := by
  obtain ⟨es, ep, ho, hes⟩ := id hn
  unfold localSet
  rw [hloc]
  refine wpAny_bind (wpAny_load ho ?_)
  rw [if_pos (show ((⟨Value.type "dict", none, Data.dict es ep, #[]⟩ : Obj).cls == Value.type "dict") = true from rfl)]
  exact nsSet_push hn hl hQ
theorem localSet_head {nA : Addr} {l : List (Str × Value)} {v u : Value} {Q : Unit → Shared → Prop} (hloc : env.locals = nA) (hn : DictAt s.heap nA ((name, u) :: l))
    (hQ : ∀ h' tk, DictAt h' nA ((name, v) :: l) → Heap.SameBut nA s.heap h' → Q () { s with heap := h', toks := tk }) : wpAny M A (localSet env name v) Q E s := by
  obtain ⟨es, ep, ho, hes⟩ := id hn
  unfold localSet
  rw [hloc]
  refine wpAny_bind (wpAny_load ho ?_)
  rw [if_pos (show ((⟨Value.type "dict", none, Data.dict es ep, #[]⟩ : Obj).cls == Value.type "dict") = true from rfl)]
  exact nsSet_head hn hQ
theorem def_cls {nA : Addr} {l : List (Str × Value)} {Q : Flow → Shared → Prop} (hd0 : params.defaults = []) (hk0 : params.kw_defaults = []) (ha : annTrees params none env = [])
    (hcl : closureFor scope env = pure clos) (hge0 : env.globals = mainGlobals) (hloc : env.locals = nA) (hst : ∀ v, storeName env name v = localSet env name v) (hqu : qualnameIn env name name = qual) (hcode : env.code = .ref c) (B : Blk s.heap c P file flags inF text)
    (hP : s.heap.get? P = some (tabObj ps)) (ht : TriplesOk ps.toList) (hnf : codeAmong pos ps.toList = none) (hgP : mainGlobals ≠ P) (hg : s.heap.Ns mainGlobals mg) (hb : s.heap.BuiltinsAt mg P) (hdoc : docOf body = none)
    (hn : DictAt s.heap nA l) (hl : ∀ p ∈ l, (p.1 == name) = false) (hnP : nA ≠ P)
    (h : ∀ f c' ctv h' tk o P', Step P nA s.heap h' → h'.get? c' = some o →
      CodeIs name qual file pos.line (params.posonlyargs.length + params.args.length) params.posonlyargs.length params.kwonlyargs.length (functionFlags params.vararg.isSome params.kwarg.isSome scope { file, future := flags &&& (coFutureAnnotations ||| coFutureBarry), inFunction := inF || env.scope.kind == .function, text }) true text P' o →
      h'.get? P = some (tabObj (ps ++ #[rawInt pos.line, rawInt pos.col, .ref c'])) → h'.get? f = some (fnMade name qual params body scope clos .none ((mg "__name__").getD .none) c' ctv) → DictAt h' nA (l ++ [(name, .ref f)]) → c' ≠ P → c' ≠ nA → f ≠ P → f ≠ nA → Q .next { s with heap := h', toks := tk }) :
    wpAny M A (exec (.FunctionDef name params body [] none [] scope none name pos) env) Q E s := by
  refine nestDef_K hd0 hk0 ha ?_
  rw [hqu]
  refine makeFn_ex hcl hge0 hg hcode B hP ht hnf hgP hb hdoc fun f c' ctv h' tk o P' hx hge hlt ho hR hp hf => ?_
  rw [hst]
  have hn1 : nA < s.heap.objs.size := let ⟨_, _, e, _⟩ := hn; Heap.lt_size e
  have hP1 : P < s.heap.objs.size := Heap.lt_size hP
  have c1 : c' ≠ nA := Nat.ne_of_gt (Nat.lt_of_lt_of_le hn1 hge)
  have c2 : f ≠ nA := Nat.ne_of_gt (Nat.lt_of_lt_of_le hn1 (Nat.le_trans hge (Nat.le_of_lt hlt)))
  have c3 : c' ≠ P := Nat.ne_of_gt (Nat.lt_of_lt_of_le hP1 hge)
  have c4 : f ≠ P := Nat.ne_of_gt (Nat.lt_of_lt_of_le hP1 (Nat.le_trans hge (Nat.le_of_lt hlt)))
  refine localSet_push hloc (hn.up fun o e => hx _ _ hnP e) hl fun h2 tk2 hn2 hs2 => ?_
  exact h f c' ctv h2 tk2 o P' (fun b o' n1 n2 e => (hs2.2 b n2).trans (hx b o' n1 e)) ((hs2.2 _ c1).trans ho) hR ((hs2.2 _ hnP.symm).trans hp) ((hs2.2 _ c2).trans hf) hn2 c3 c1 c4 c2
end
end Mine
end
section
open PySem PySem.W PySem.W.X PySem.Spec PySem.Calls PyProof.Rows
set_option maxRecDepth 100000
set_option maxHeartbeats 3000000
namespace Mine
noncomputable def clsScope : Scope := match (defNamed mainBody (Str.ofString "cmp_to_key")).2.1 with
  | .ClassDef _ _ _ _ _ _ sc _ _ _ _ :: _ => sc
  | _ => ⟨.class, [], false, false, []⟩
noncomputable abbrev clsEnv (nA fr c cell : Addr) (sc : Scope) : Env := { scope := sc, locals := nA, globals := mainGlobals, qual := Str.ofString "cmp_to_key.<locals>.K" ++ ".", code := .ref c, frame := some fr, builtins := builtinsNs, cells := [(Str.ofString "mycmp", cell)] }
section
variable {M : Model} {A : Around} {E : Value → Shared → Prop} {h : Heap} {g : Array GenState} {d : Drawn} {tk : Nat} {os : OsState} {mg : Str → Option Value}
theorem store_push {M : Model} {s : Shared} {env : Env} {name : Str} {nA : Addr} {l : List (Str × Value)} {v : Value} {Q : Unit → Shared → Prop} (hloc : env.locals = nA) (hn : DictAt s.heap nA l) (hst : storeName env name v = localSet env name v) (hl : (l.all fun p => !(p.1 == name)) = true)
    (hQ : ∀ h' tk, DictAt h' nA (l ++ [(name, v)]) → Heap.SameBut nA s.heap h' → Q () { s with heap := h', toks := tk }) : wpAny M A (storeName env name v) Q E s := by
  rw [hst]
  refine localSet_push hloc hn (fun p hp => ?_) hQ
  simpa using List.all_eq_true.mp hl p hp
theorem store_head {M : Model} {s : Shared} {env : Env} {name : Str} {nA : Addr} {l : List (Str × Value)} {v u : Value} {Q : Unit → Shared → Prop} (hloc : env.locals = nA) (hn : DictAt s.heap nA ((name, u) :: l)) (hst : storeName env name v = localSet env name v)
    (hQ : ∀ h' tk, DictAt h' nA ((name, v) :: l) → Heap.SameBut nA s.heap h' → Q () { s with heap := h', toks := tk }) : wpAny M A (storeName env name v) Q E s := by
  rw [hst]
  exact localSet_head hloc hn hQ
theorem allNe {l : List (Str × Value)} {name : Str} (hl : (l.all fun p => !(p.1 == name)) = true) : ∀ p ∈ l, (p.1 == name) = false := fun p hp => by simpa using List.all_eq_true.mp hl p hp
theorem Step.of {P nA : Addr} {h h' : Heap} (x : Heap.SameBut nA h h') : Step P nA h h' := fun b o _ n e => (x.2 b n).trans e
theorem ns_step {P nA : Addr} {h h' : Heap} {m : Str → Option Value} (x : h.Ns mainGlobals m) (k : Step P nA h h') (h1 : mainGlobals ≠ P) (h2 : mainGlobals ≠ nA) : h'.Ns mainGlobals m := let ⟨o, es, ep, e, r⟩ := x; ⟨o, es, ep, k _ _ h1 h2 e, r⟩
theorem bat_step {P nA : Addr} {h h' : Heap} {mg : Str → Option Value} {l : List (Str × Value)} (x : h.BuiltinsAt mg P) (k : Step P nA h h') (hn : DictAt h nA l) : h'.BuiltinsAt mg P := by
  obtain ⟨bm, o, b1, b2, b3, b4, b5, b6, b7, b8⟩ := x
  refine ⟨bm, o, b1, b2, b3, b4, k _ _ b4 (fun q => ?_) b5, b6, b7, b8⟩
  obtain ⟨es, ep, e, _⟩ := hn
  rw [q, e] at b5
  cases b5
  simp at b6
theorem blk_step {P nA c : Addr} {h h' : Heap} {file : Str} {fl text : Nat} {inF : Bool} (x : Blk h c P file fl inF text) (k : Step P nA h h') (h2 : c ≠ nA) : Blk h' c P file fl inF text := by
  have hne : c ≠ P := let ⟨_, _, _, _, _, _, _, _, _, _, hne⟩ := x; hne
  exact x.up fun o e => k _ _ hne h2 e
local macro_rules | `(tactic| walk_at "goY4") => `(tactic| first
  | (with_reducible show wpAny _ _ (storeName _ _ _) _ _ _)
  | (with_reducible show wpAny _ _ (execs _ _) _ _ _)
  | (wp_step; walk_at "goY4"))
theorem body_K {nA fr c cell P : Addr} {file : Str} {text : Nat} {u q n7 : Value} {Q : Flow → Shared → Prop} (B : Blk h c P file 0 true text) (hP : h.get? P = some (tabObj #[])) (hgP : mainGlobals ≠ P) (hg : h.Ns mainGlobals mg) (hb : h.BuiltinsAt mg P) (hnP : nA ≠ P) (hgA : mainGlobals ≠ nA) (hcA : c ≠ nA)
    (hn : DictAt h nA [(Str.ofString "__module__", u), (Str.ofString "__qualname__", q), (Str.ofString "__firstlineno__", n7)])
    (hq : ∀ sl f1 f2 f3 f4 f5 f6 tm h' tk', Step P nA h h' → DictAt h' nA [(Str.ofString "__module__", .str (Str.ofString "cpy313.functools") tm), (Str.ofString "__qualname__", q), (Str.ofString "__firstlineno__", n7), (Str.ofString "__slots__", .ref sl), (Str.ofString "__init__", .ref f1), (Str.ofString "__lt__", .ref f2), (Str.ofString "__gt__", .ref f3), (Str.ofString "__eq__", .ref f4), (Str.ofString "__le__", .ref f5), (Str.ofString "__ge__", .ref f6), (Str.ofString "__hash__", Value.none)] →
      (∃ t0 nS, h'.get? sl = some ⟨.type "list", none, .seq #[.str (Str.ofString "obj") t0] nS, #[]⟩) →
      (∃ pm ct c1 o P1, h'.get? f1 = some (fnObj (Str.ofString "__init__") (Str.ofString "cmp_to_key.<locals>.K.__init__") initD [] pm ct c1) ∧ h'.get? c1 = some o ∧ CodeIs (Str.ofString "__init__") (Str.ofString "cmp_to_key.<locals>.K.__init__") file 11 2 0 0 19 true text P1 o) →
      (∃ pm ct c2, h'.get? f2 = some (fnObj (Str.ofString "__lt__") (Str.ofString "cmp_to_key.<locals>.K.__lt__") ltD [(Str.ofString "mycmp", cell)] pm ct c2) ∧ h'.CodeRec (.ref c2) (Str.ofString "cmp_to_key.<locals>.K.__lt__")) →
      (∀ f ∈ [f1, f2, f3, f4, f5, f6], ∃ o, h'.get? f = some o ∧ o.cls = .type "function") → Q .next ⟨h', g, d, tk', os⟩) :
    wpAny M A (execs clsBody (clsEnv nA fr c cell clsScope)) Q E ⟨h, g, d, tk, os⟩ := by
  obtain ⟨sd, hsd⟩ : ∃ sd, sd = clsBody := ⟨_, rfl⟩
  rw [← hsd]
  conv at hsd => rhs; whnf
  subst hsd
  obtain ⟨sc, hsc⟩ : ∃ sc, sc = clsScope := ⟨_, rfl⟩
  rw [← hsc]
  conv at hsc => rhs; whnf
  rw [hsc]
  refine wpAny_execs_cons ?_
  walk_at "goY4"
  refine store_head rfl hn rfl fun h1 tk1 hn1 s1 => ?_
  walk_at "goY4"
  refine wpAny_execs_cons ?_
  walk_at "goY4"
  refine store_push (nA := nA) rfl (hn1.up fun o e => Heap.get?_push_of_some _ e) rfl rfl fun h2 tk2 hn2 s2 => ?_
  simp only [List.cons_append, List.nil_append] at hn2
  walk_at "goY4"
  have S2 : Step P nA h h2 := (Step.of s1).trans ((Step.keeps fun b o e => Heap.get?_push_of_some _ e).trans (Step.of s2))
  have p2 : h2.get? P = some (tabObj #[]) := (s2.2 _ hnP.symm).trans (Heap.get?_push_of_some _ ((s1.2 _ hnP.symm).trans hP))
  have m0 : nA < h1.objs.size := let ⟨_, _, e, _⟩ := hn1; Heap.lt_size e
  have m2 : h1.objs.size ≠ nA := Nat.ne_of_gt m0
  have m1 : h1.objs.size ≠ P := Nat.ne_of_gt (Heap.lt_size ((s1.2 _ hnP.symm).trans hP))
  obtain ⟨t0, hsl⟩ : ∃ t0, h2.get? h1.objs.size = some ⟨.type "list", none, .seq #[.str (Str.ofString "obj") t0] 0, #[]⟩ := ⟨_, (s2.2 _ m2).trans (Heap.get?_push_size _ rfl)⟩
  refine wpAny_execs_cons ?_
  refine def_cls (c := c) (P := P) (nA := nA) (mg := mg) (file := file) (flags := 0) (inF := true) (text := text) rfl rfl rfl rfl rfl rfl (fun _ => rfl) rfl rfl (blk_step B S2 hcA) p2 trivial rfl hgP (ns_step hg S2 hgP hgA) (bat_step hb S2 hn) rfl hn2 (allNe rfl) hnP fun f1 c1 ct1 h3 tk3 o1 P1 st3 ho1 hC1 p3 hf1 hn3 n1_1 n1_2 n1_3 n1_4 => ?_
  show wpAny _ _ (execs _ _) _ _ _
  simp only [List.cons_append, List.nil_append] at hn3
  have S3 : Step P nA h h3 := S2.trans st3
  refine wpAny_execs_cons ?_
  refine def_cls (c := c) (P := P) (nA := nA) (mg := mg) (file := file) (flags := 0) (inF := true) (text := text) rfl rfl rfl rfl rfl rfl (fun _ => rfl) rfl rfl (blk_step B S3 hcA) p3 (by simp [TriplesOk, rawInt]) (by simp [codeAmong, rawInt]) hgP (ns_step hg S3 hgP hgA) (bat_step hb S3 hn) rfl hn3 (allNe rfl) hnP fun f2 c2 ct2 h4 tk4 o2 P2 st4 ho2 hC2 p4 hf2 hn4 n2_1 n2_2 n2_3 n2_4 => ?_
  show wpAny _ _ (execs _ _) _ _ _
  simp only [List.cons_append, List.nil_append] at hn4
  have S4 : Step P nA h h4 := S3.trans st4
  refine wpAny_execs_cons ?_
  refine def_cls (c := c) (P := P) (nA := nA) (mg := mg) (file := file) (flags := 0) (inF := true) (text := text) rfl rfl rfl rfl rfl rfl (fun _ => rfl) rfl rfl (blk_step B S4 hcA) p4 (by simp [TriplesOk, rawInt]) (by simp [codeAmong, rawInt]) hgP (ns_step hg S4 hgP hgA) (bat_step hb S4 hn) rfl hn4 (allNe rfl) hnP fun f3 c3 ct3 h5 tk5 o3 P3 st5 ho3 hC3 p5 hf3 hn5 n3_1 n3_2 n3_3 n3_4 => ?_
  show wpAny _ _ (execs _ _) _ _ _
  simp only [List.cons_append, List.nil_append] at hn5
  have S5 : Step P nA h h5 := S4.trans st5
  refine wpAny_execs_cons ?_
  refine def_cls (c := c) (P := P) (nA := nA) (mg := mg) (file := file) (flags := 0) (inF := true) (text := text) rfl rfl rfl rfl rfl rfl (fun _ => rfl) rfl rfl (blk_step B S5 hcA) p5 (by simp [TriplesOk, rawInt]) (by simp [codeAmong, rawInt]) hgP (ns_step hg S5 hgP hgA) (bat_step hb S5 hn) rfl hn5 (allNe rfl) hnP fun f4 c4 ct4 h6 tk6 o4 P4 st6 ho4 hC4 p6 hf4 hn6 n4_1 n4_2 n4_3 n4_4 => ?_
  show wpAny _ _ (execs _ _) _ _ _
  simp only [List.cons_append, List.nil_append] at hn6
  have S6 : Step P nA h h6 := S5.trans st6
  refine wpAny_execs_cons ?_
  refine def_cls (c := c) (P := P) (nA := nA) (mg := mg) (file := file) (flags := 0) (inF := true) (text := text) rfl rfl rfl rfl rfl rfl (fun _ => rfl) rfl rfl (blk_step B S6 hcA) p6 (by simp [TriplesOk, rawInt]) (by simp [codeAmong, rawInt]) hgP (ns_step hg S6 hgP hgA) (bat_step hb S6 hn) rfl hn6 (allNe rfl) hnP fun f5 c5 ct5 h7 tk7 o5 P5 st7 ho5 hC5 p7 hf5 hn7 n5_1 n5_2 n5_3 n5_4 => ?_
  show wpAny _ _ (execs _ _) _ _ _
  simp only [List.cons_append, List.nil_append] at hn7
  have S7 : Step P nA h h7 := S6.trans st7
  refine wpAny_execs_cons ?_
  refine def_cls (c := c) (P := P) (nA := nA) (mg := mg) (file := file) (flags := 0) (inF := true) (text := text) rfl rfl rfl rfl rfl rfl (fun _ => rfl) rfl rfl (blk_step B S7 hcA) p7 (by simp [TriplesOk, rawInt]) (by simp [codeAmong, rawInt]) hgP (ns_step hg S7 hgP hgA) (bat_step hb S7 hn) rfl hn7 (allNe rfl) hnP fun f6 c6 ct6 h8 tk8 o6 P6 st8 ho6 hC6 p8 hf6 hn8 n6_1 n6_2 n6_3 n6_4 => ?_
  show wpAny _ _ (execs _ _) _ _ _
  simp only [List.cons_append, List.nil_append] at hn8
  have S8 : Step P nA h h8 := S7.trans st8
  refine wpAny_execs_cons ?_
  walk_at "goY4"
  refine store_push (nA := nA) rfl hn8 rfl rfl fun h9 tk9 hn9 s9 => ?_
  simp only [List.cons_append, List.nil_append] at hn9
  have st9 : Step P nA h8 h9 := Step.of s9
  walk_at "goY4"
  refine wpAny_execs_nil ?_
  have ksl : h9.get? h1.objs.size = some ⟨.type "list", none, .seq #[.str (Str.ofString "obj") t0] 0, #[]⟩ := st9 _ _ m1 m2 (st8 _ _ m1 m2 (st7 _ _ m1 m2 (st6 _ _ m1 m2 (st5 _ _ m1 m2 (st4 _ _ m1 m2 (st3 _ _ m1 m2 hsl))))))
  have kf1 := (st9 _ _ n1_3 n1_4 (st8 _ _ n1_3 n1_4 (st7 _ _ n1_3 n1_4 (st6 _ _ n1_3 n1_4 (st5 _ _ n1_3 n1_4 (st4 _ _ n1_3 n1_4 hf1))))))
  have kf2 := (st9 _ _ n2_3 n2_4 (st8 _ _ n2_3 n2_4 (st7 _ _ n2_3 n2_4 (st6 _ _ n2_3 n2_4 (st5 _ _ n2_3 n2_4 hf2)))))
  have kf3 := (st9 _ _ n3_3 n3_4 (st8 _ _ n3_3 n3_4 (st7 _ _ n3_3 n3_4 (st6 _ _ n3_3 n3_4 hf3))))
  have kf4 := (st9 _ _ n4_3 n4_4 (st8 _ _ n4_3 n4_4 (st7 _ _ n4_3 n4_4 hf4)))
  have kf5 := (st9 _ _ n5_3 n5_4 (st8 _ _ n5_3 n5_4 hf5))
  have kf6 := (st9 _ _ n6_3 n6_4 hf6)
  have kc1 := (st9 _ _ n1_1 n1_2 (st8 _ _ n1_1 n1_2 (st7 _ _ n1_1 n1_2 (st6 _ _ n1_1 n1_2 (st5 _ _ n1_1 n1_2 (st4 _ _ n1_1 n1_2 ho1))))))
  have kc2 := (st9 _ _ n2_1 n2_2 (st8 _ _ n2_1 n2_2 (st7 _ _ n2_1 n2_2 (st6 _ _ n2_1 n2_2 (st5 _ _ n2_1 n2_2 ho2)))))
  obtain ⟨a0, a1, a2, a3, r1, r3, r4, r5, n16, eo2⟩ := hC2
  refine hq h1.objs.size f1 f2 f3 f4 f5 f6 _ h9 _ (S8.trans st9) hn9 ⟨_, _, ksl⟩ ⟨_, _, c1, o1, P1, kf1, kc1, hC1⟩ ⟨_, _, c2, kf2, c2, o2, _, a1, rfl, kc2, by rw [eo2], rfl⟩ ?_
  intro f hf
  simp only [List.mem_cons, List.not_mem_nil, or_false] at hf
  rcases hf with rfl | rfl | rfl | rfl | rfl | rfl
  · exact ⟨_, kf1, rfl⟩
  · exact ⟨_, kf2, rfl⟩
  · exact ⟨_, kf3, rfl⟩
  · exact ⟨_, kf4, rfl⟩
  · exact ⟨_, kf5, rfl⟩
  · exact ⟨_, kf6, rfl⟩
end
end Mine
end
section
open PySem PySem.W PySem.W.X PySem.Spec PySem.Calls PyProof.Rows
set_option maxRecDepth 100000
set_option maxHeartbeats 3000000
namespace Mine
open PySem.Builtin
section
local macro_rules | `(tactic| x_close) => `(tactic| (refine ⟨_, _, _, _, rfl, (by assumption), rfl, ?_⟩; kernel_rfl))
theorem pga_run (w : World) (s : Shared) (tn : Tok) (E : Value → Shared → Prop) :
   wpAny (model PySem.Challenge.pw_pd0110_01 w) ⟨none, 600, none, none, 9000⟩ (call (.builtin "type.__getattribute__") [.type "type", .str (Str.ofString "__prepare__") tn]) (fun r s' => ∃ a o h' tk, s' = { s with heap := h', toks := tk } ∧ Mem s.heap h' [] [(a, o)] ∧ r = .ref a ∧ o = ⟨.type "builtin_function_or_method", none, .fields #[.builtin "type.__prepare__", .type "type"], #[]⟩) E s := by
  x_run
end
theorem lkGA : typeLookup (.type "type") (Str.ofString "__getattribute__") = pure (some (.builtin "type.__getattribute__")) := by kernel_rfl
theorem tyY : typeOf (.type "type") = pure (.type "type") := by kernel_rfl
theorem tyG : typeOf (.builtin "type.__getattribute__") = pure (.type "wrapper_descriptor") := by kernel_rfl
theorem up_of_mem' {h h' : Heap} {news : Led} (D : Mem h h' [] news) : Keeps h h' := fun b o e => D.old b o e (by simp [away])
theorem entP : entryFor table "type.__prepare__" = some Builtin.«type.__prepare__» := entryFor_of_tree (by kernel_rfl)
theorem plnP : plainId "type.__prepare__" = true := by decide +kernel
theorem chkB (a b : Value) : checkBoundCall "type.__prepare__" ⟨[.type "type", a, b], []⟩ = pure () := by kernel_rfl
section
variable {w : World} {A : Around} {E : Value → Shared → Prop} {h : Heap} {g : Array GenState} {d : Drawn} {tk : Nat} {os : OsState}
theorem prepA {Q : Option Value → Shared → Prop} (hh : A.handled = none) (hdp : A.depth ≤ 600) (hu : A.units ≤ 9000)
   (hq : ∀ a h' tk', Keeps h h' → h'.get? a = some ⟨.type "builtin_function_or_method", none, .fields #[.builtin "type.__prepare__", .type "type"], #[]⟩ → Q (some (.ref a)) ⟨h', g, d, tk', os⟩) :
   wpAny (model PySem.Challenge.pw_pd0110_01 w) A (getAttr? (.type "type") (Str.ofString "__prepare__")) Q E ⟨h, g, d, tk, os⟩ := by
  unfold getAttr? getAttrBy? getAttrBy
  refine wpAny_bind (wpAny_mkText ?_)
  refine wpAny_bind (wpAny_attempt ?_)
  refine wpAny_holding (wpAny_bind (wpAny_of_eq tyY (wpAny_bind (wpAny_of_eq lkGA ?_))))
  dsimp only
  rw [if_neg (by decide)]
  unfold getAttrByItsOwn callGetattribute
  repeat wp_step
  unfold bindSpecial
  refine wpAny_bind (wpAny_of_eq tyG ?_)
  repeat
    first
      | ((with_reducible show wpAny _ _ (call _ _ _) _ _ _); refine Halt.out ?_)
      | wp_step
  delta Halt
  refine wpAny_big (wpAny_mono (pga_run w ⟨h, g, d, _, os⟩ _ fun _ _ => False) ?_ fun _ _ z => z.elim) hh hdp hu rfl rfl
  rintro r s' ⟨a, o, h', tk', rfl, D, rfl, rfl⟩
  exact wpAny_pure (wpAny_pure (hq a h' tk' (up_of_mem' D) (D.at 0 _ _ rfl)))
theorem prepC {a bT : Addr} {nB : Nat} {t : Tok} {Q : Value → Shared → Prop} (hh : A.handled = none) (hdp : A.depth ≤ 600) (hu : A.units ≤ 9000)
   (ha : h.get? a = some ⟨.type "builtin_function_or_method", none, .fields #[.builtin "type.__prepare__", .type "type"], #[]⟩)
   (hq : Q (.ref h.objs.size) ⟨h.push ⟨.type "dict", none, .dict #[] 0, #[]⟩, g, d, tk, os⟩) :
   wpAny (model PySem.Challenge.pw_pd0110_01 w) A (call (.ref a) [.str (Str.ofString "K") t, .ref bT]) Q E ⟨h, g, d, tk, os⟩ := by
  refine wpAny_call (codeAny_of_tree ?_)
  show wpAny _ _ (callAny (.ref a) _) _ _ _
  refine wpAny_bind (wpAny_load ha ?_)
  dsimp only
  rw [if_pos (by decide)]
  show wpAny _ _ (do checkBoundCall "type.__prepare__" ⟨[.type "type", .str (Str.ofString "K") t, .ref bT], []⟩; again (.builtin "type.__prepare__" ⟨[.type "type", .str (Str.ofString "K") t, .ref bT], []⟩)) _ _ _
  refine wpAny_bind (wpAny_of_eq (chkB _ _) ?_)
  refine wpAny_pure ⟨plainId_quiet plnP _, codeAny_builtin entP ?_⟩
  rw [Around.under_plainId plnP _]
  unfold Builtin.«type.__prepare__»
  repeat wp_step
  exact hq
end
end Mine
end
section
open PySem PySem.W PySem.W.X PySem.Spec PySem.Calls PyProof.Rows
set_option maxRecDepth 100000
set_option maxHeartbeats 3000000
namespace Mine
open PySem.Builtin
noncomputable def clsStmt : Stmt := match (defNamed mainBody (Str.ofString "cmp_to_key")).2.1 with
  | s :: _ => s
  | _ => .Pass ⟨0, 0, 0, 0⟩
theorem isTY : isType (.type "type") = pure true := by kernel_rfl
theorem gtD : typeLookup (.type "dict") (Str.ofString "__getitem__") = pure (some (.builtin "dict.__getitem__")) := by kernel_rfl
theorem get_none {M : Model} {A : Around} {s : Shared} {E : Value → Shared → Prop} {nA : Addr} {name : Str} {Q : Option Value → Shared → Prop} (hn : s.heap.get? nA = some ⟨.type "dict", none, .dict #[] 0, #[]⟩) (h : Q none s) : wpAny M A (nsGet nA name) Q E s := by
  unfold nsGet
  refine wpAny_bind (wpAny_loadPart hn ?_)
  exact wpAny_pure h
theorem load_name {M : Model} {A : Around} {s : Shared} {E : Value → Shared → Prop} {nA : Addr} {env : Env} {mg : Str → Option Value} {vn : Value} {Q : Value → Shared → Prop} (h1 : env.scope.kind = .class) (h2 : env.kindOf "__name__" = none) (hloc : env.locals = nA) (hge : env.globals = mainGlobals) (hg : s.heap.Ns mainGlobals mg) (hv : mg "__name__" = some vn)
    (hn : s.heap.get? nA = some ⟨.type "dict", none, .dict #[] 0, #[]⟩) (h : Q vn s) : wpAny M A (loadName env "__name__") Q E s := by
  unfold loadName
  simp only [Env.blockKind, h1, h2, ScopeKind.isAnnotationScope, Bool.false_and, Bool.false_eq_true, if_false]
  rw [if_neg (by decide +kernel)]
  unfold localGet loadGlobal
  rw [hloc, hge]
  refine wpAny_bind (wpAny_bind (wpAny_load hn ?_))
  rw [if_pos (show ((⟨Value.type "dict", none, Data.dict #[] 0, #[]⟩ : Obj).cls == Value.type "dict") = true from rfl)]
  refine get_none hn ?_
  refine wpAny_bind (wpAny_nsGet hg ?_)
  rw [hv]
  exact wpAny_pure h
theorem Ents.inv {es : List DictEntry} {n : Str} {v : Value} {l : List (Str × Value)} : Ents es ((n, v) :: l) → ∃ i t es', es = ⟨i, .str n t, v⟩ :: es' ∧ Ents es' l
  | .cons i _ t _ h => ⟨i, t, _, rfl, h⟩
theorem ents12 {h : Heap} {nA sl f1 f2 f3 f4 f5 f6 sa : Addr} {tm tq tn : Tok} (x : DictAt h nA [(Str.ofString "__module__", .str (Str.ofString "cpy313.functools") tm), (Str.ofString "__qualname__", .str (Str.ofString "cmp_to_key.<locals>.K") tq), (Str.ofString "__firstlineno__", .int 7 tn), (Str.ofString "__slots__", .ref sl), (Str.ofString "__init__", .ref f1), (Str.ofString "__lt__", .ref f2), (Str.ofString "__gt__", .ref f3), (Str.ofString "__eq__", .ref f4), (Str.ofString "__le__", .ref f5), (Str.ofString "__ge__", .ref f6), (Str.ofString "__hash__", Value.none), (Str.ofString "__static_attributes__", .ref sa)]) :
    ∃ hs ts ep, ts 22 = tq ∧ h.get? nA = some ⟨.type "dict", none, .dict (ns0 hs ts sl f1 f2 f3 f4 f5 f6 sa) ep, #[]⟩ := by
  obtain ⟨es, ep, e, he⟩ := x
  obtain ⟨el⟩ := es
  dsimp only at he
  obtain ⟨i0, t0, e1, rfl, g1⟩ := he.inv
  obtain ⟨i1, t1, e2, rfl, g2⟩ := g1.inv
  obtain ⟨i2, t2, e3, rfl, g3⟩ := g2.inv
  obtain ⟨i3, t3, e4, rfl, g4⟩ := g3.inv
  obtain ⟨i4, t4, e5, rfl, g5⟩ := g4.inv
  obtain ⟨i5, t5, e6, rfl, g6⟩ := g5.inv
  obtain ⟨i6, t6, e7, rfl, g7⟩ := g6.inv
  obtain ⟨i7, t7, e8, rfl, g8⟩ := g7.inv
  obtain ⟨i8, t8, e9, rfl, g9⟩ := g8.inv
  obtain ⟨i9, t9, e10, rfl, g10⟩ := g9.inv
  obtain ⟨i10, t10, e11, rfl, g11⟩ := g10.inv
  obtain ⟨i11, t11, e12, rfl, g12⟩ := g11.inv
  cases g12
  exact ⟨fun n => [i0, i1, i2, i3, i4, i5, i6, i7, i8, i9, i10, i11].getD n 0, fun n => if n = 20 then tm else if n = 22 then tq else if n = 21 then tn else [t0, t1, t2, t3, t4, t5, t6, t7, t8, t9, t10, t11].getD n 0, ep, rfl, e⟩
section
variable {w : World} {A : Around} {E : Value → Shared → Prop} {h : Heap} {g : Array GenState} {d : Drawn} {tk : Nat} {os : OsState}
theorem build_K {h₀ : Heap} {p : Program} {lo : List Str} {mean : ExcName → Option Value} {mg mb : Str → Option Value} {env : Env} {c0 cell lam : Addr} {file : Str} {fl text : Nat} {pos : Pos} {vn : Value} {body : List Stmt} {sc : Scope} {Q : Value → Shared → Prop}
   (hh : A.handled = none) (hdp : A.depth ≤ 540) (hu : A.units ≤ 8700) (k0 : Keeps h₀ h) (X : (hd.heap_1 w.params).In h₀) (T : Top p lo mean mg mb h₀) (hge : env.globals = mainGlobals) (hbe : env.builtins = builtinsNs) (hke : (env.scope.kind == .function) = true) (hce : env.code = .ref c0)
   (B : Blk h c0 23 file 3 true text) (hP : h.get? 23 = some (tabObj #[])) (h0P : h₀.get? 23 = none) (hcl : closureFor sc env = pure [(Str.ofString "mycmp", cell)]) (hbody : body = clsBody) (hsc : sc = clsScope) (hcell : h.IsCell cell (some (.ref lam))) (hname : mg "__name__" = some vn)
   (hq : ∀ (cK : KCls) (h' : Heap) (tk' : Nat), (∀ b o, b ≠ 23 → h.get? b = some o → h'.get? b = some o) → (∃ c, h'.get? 23 = some (tabObj (#[] ++ #[rawInt pos.line, rawInt pos.col, .ref c]))) → cK.At h' → InitAt cK h' → LtAt cK h' lam → Q (.ref cK.C) ⟨h', g, d, tk', os⟩) :
   wpAny (model PySem.Challenge.pw_pd0110_01 w) A (buildClass (Str.ofString "K") (Str.ofString "cmp_to_key.<locals>.K") [.type "object"] [] body sc [Str.ofString "obj"] 7 env pos none) Q E ⟨h, g, d, tk, os⟩ := by
  unfold buildClass
  refine wpAny_bind (wpAny_newTuple ?_ (by simp [sizeLine_eq]))
  refine wpAny_bind ?_
  rw [List.forIn_cons]
  refine wpAny_bind (wpAny_bind (wpAny_of_eq isTO ?_))
  rw [if_pos rfl]
  dsimp only
  rw [if_neg (by decide)]
  refine wpAny_pure ?_
  dsimp only
  rw [List.forIn_nil]
  refine wpAny_pure ?_
  dsimp only
  dsimp only [List.lookup, List.nil_append, List.filter]
  refine wpAny_bind (wpAny_of_eq typeO ?_)
  refine wpAny_bind (wpAny_of_eq isTY ?_)
  rw [if_pos rfl]
  refine wpAny_bind ?_
  rw [List.forIn_cons]
  refine wpAny_bind (wpAny_bind (wpAny_of_eq typeO (wpAny_bind (wpAny_of_eq sY ?_))))
  rw [if_pos rfl]
  refine wpAny_pure ?_
  dsimp only
  rw [List.forIn_nil]
  refine wpAny_pure ?_
  refine wpAny_bind (wpAny_mkText ?_)
  rw [if_neg (by decide)]
  refine wpAny_bind (wpAny_pure ?_)
  refine wpAny_holding ?_
  refine wpAny_bind (prepA hh (Nat.le_trans hdp (by decide)) (Nat.le_trans hu (by decide)) fun a h1 tk1 k1 ha => ?_)
  dsimp only
  refine wpAny_bind (prepC (nB := 0) hh (Nat.le_trans hdp (by decide)) (Nat.le_trans hu (by decide)) ha ?_)
  dsimp only
  have kk1 : Keeps h h1 := fun b o e => k1 _ _ (Heap.get?_push_of_some _ e)
  have hz : mainGlobals < h1.objs.size := let ⟨_, _, _, e, _⟩ := T.g; Heap.lt_size (kk1 _ _ (k0 _ _ e))
  have hbT : h1.get? h.objs.size = some ⟨.type "tuple", none, .seq #[.type "object"] 0, #[]⟩ := k1 _ _ (Heap.get?_push_size _ rfl)
  have k2 : Keeps h1 (h1.push ⟨.type "dict", none, .dict #[] 0, #[]⟩) := fun b o e => Heap.get?_push_of_some _ e
  have hn2 : (h1.push ⟨.type "dict", none, .dict #[] 0, #[]⟩).get? h1.objs.size = some ⟨.type "dict", none, .dict #[] 0, #[]⟩ := Heap.get?_push_size _ rfl
  have hn0 : h1.get? h1.objs.size = none := Heap.get?_none_of_le (Nat.le_refl _)
  generalize h1.push ⟨.type "dict", none, .dict #[] 0, #[]⟩ = h2 at k2 hn2 ⊢
  generalize h1.objs.size = nA at hz hn2 hn0 ⊢
  have hnm : (nA == sysModules) = false := by
    rw [beq_eq_false_iff_ne]
    exact Nat.ne_of_gt (Nat.lt_trans (by decide) hz)
  have hgA : mainGlobals ≠ nA := Nat.ne_of_lt hz
  refine wpAny_bind ?_
  unfold notTheModulesDict
  rw [if_neg (by rw [hnm]; decide)]
  refine wpAny_pure ?_
  refine wpAny_bind ?_
  unfold specialOf
  refine wpAny_bind (wpAny_typeOf_ref hn2 (wpAny_of_eq gtD ?_))
  rw [if_neg (by decide)]
  refine wpAny_holding ?_
  subst hsc
  rw [if_neg (by decide +kernel)]
  refine wpAny_bind (wpAny_pure ?_)
  rw [if_neg (by decide +kernel)]
  refine wpAny_bind (wpAny_pure ?_)
  unfold classCode
  refine wpAny_bind (codeAt_ex (R := fun P' o => CodeIs (Str.ofString "K") (Str.ofString "cmp_to_key.<locals>.K") file 7 0 0 0 0 true text P' o) hce (B.up fun o e => k2 _ _ (kk1 _ _ e)) (k2 _ _ (kk1 _ _ hP)) trivial rfl (fun Q' hq => newCode_ex fun c₁ P₁ h₁ tk₁ o₁ z1 z2 z3 z4 z5 z6 z7 z8 => hq c₁ P₁ h₁ tk₁ o₁ z1 z2 z3 z4 z5 z6 z7 z8) fun c P' h3 tk3 oc hx hge3 hgeP hcP' hlt ho hR hp' hp => ?_)
  rw [hge, hbe]
  have hP23 : nA ≠ 23 := fun q => by rw [q, kk1 _ _ hP] at hn0; cases hn0
  have hg3 : h3.Ns mainGlobals mg := (((T.g.keeps k0).keeps kk1).keeps k2).extBut hx (fun q => by rw [← q] at h0P; obtain ⟨_, _, _, e, _⟩ := T.g; rw [e] at h0P; cases h0P)
  obtain ⟨bm, ob, b1, b2, b3, b4, b5, b6⟩ := T.bmain
  have hb23 : bm ≠ 23 := fun q => by rw [q, h0P] at b3; cases b3
  have hb3 : h3.get? bm = some ob := hx _ _ hb23 (k2 _ _ (kk1 _ _ (k0 _ _ b3)))
  refine wpAny_bind (wpAny_builtinsFor hg3 b1 b2 hb3 b4 b5 b6 ?_)
  refine wpAny_bind ?_
  unfold newBodyFrame
  refine wpAny_bind (wpAny_nsGet hg3 (wpAny_alloc ?_))
  refine wpAny_bind (wpAny_of_eq hcl ?_)
  refine wpAny_holding ?_
  try dsimp only
  generalize hfo : (Obj.mk (.type "frame") _ _ _) = fo
  have k4 : Keeps h3 (h3.push fo) := fun b o e => Heap.get?_push_of_some _ e
  generalize h3.push fo = h4 at k4 ⊢
  have nl4 : h4.NoLimit := ((((T.nolimit.keeps k0).keeps kk1).keeps k2).extBut hx (by decide)).keeps k4
  have hn4 := k4 _ _ (hx _ _ hP23 hn2)
  have hg4 := hg3.keeps k4
  refine wpAny_bind (wpAny_enterFrame nl4 (Nat.lt_of_le_of_lt hdp (by decide)) ?_)
  refine wpAny_bind (wpAny_onRaise ?_)
  refine wpAny_bind (load_name (nA := nA) rfl rfl rfl rfl hg4 hname hn4 ?_)
  refine wpAny_bind (store_push (nA := nA) rfl ⟨#[], 0, hn4, .nil⟩ rfl rfl fun h5 tk5 hn5 s5 => ?_)
  refine wpAny_bind (wpAny_mkText ?_)
  refine wpAny_bind (store_push (nA := nA) rfl hn5 rfl rfl fun h6 tk6 hn6 s6 => ?_)
  refine wpAny_bind (wpAny_mkInt ?_)
  refine wpAny_bind (store_push (nA := nA) rfl hn6 rfl rfl fun h7 tk7 hn7 s7 => ?_)
  refine wpAny_pure ?_
  simp only [List.cons_append, List.nil_append] at hn7
  dsimp only
  subst hbody
  have S7 : Step P' nA h4 h7 := (Step.of s5).trans ((Step.of s6).trans (Step.of s7))
  have hne : c ≠ P' := hcP'
  have cA : c ≠ nA := fun q => by
    have e := hx _ _ hP23 hn2
    rw [← q, ho] at e
    obtain ⟨_, _, _, _, _, _, _, _, _, rfl⟩ := hR
    simp at e
  have bk7 : Blk h7 c P' file 0 true text := blk_step (Blk.of (k4 _ _ ho) hR hne) S7 cA
  have hgP' : mainGlobals ≠ P' := fun q => by
    obtain ⟨_, _, _, e, _⟩ := T.g
    exact absurd (Heap.lt_size (k2 _ _ (kk1 _ _ (k0 _ _ e)))) (Nat.not_lt.mpr (q ▸ hgeP))
  have hnP' : nA ≠ P' := fun q => absurd (Heap.lt_size hn2) (Nat.not_lt.mpr (q ▸ hgeP))
  refine wpAny_bind (wpAny_run (codeAny_body rfl rfl (body_K (nA := nA) (fr := h3.objs.size) (c := c) (cell := cell) (P := P') (file := file) (text := text) (mg := mg) bk7 ?p7 hgP' (ns_step hg4 S7 hgP' hgA) ?bat hnP' hgA ?cA hn7 fun sl f1 f2 f3 f4 f5 f6 tm h8 tk8 S8 hn8 hsl hf1 hf2 hfs => ?_)))
  case p7 => exact (s7.2 _ hnP'.symm).trans ((s6.2 _ hnP'.symm).trans ((s5.2 _ hnP'.symm).trans (k4 _ _ hp')))
  case bat => exact bat_step (nA := nA) (l := []) ⟨bm, ob, b1, b2, (fun q => by obtain ⟨_, _, _, e, f, _⟩ := T.g; rw [q, e] at b3; cases b3; rw [f] at b6; cases b6), (fun q => absurd (Heap.lt_size (k2 _ _ (kk1 _ _ (k0 _ _ b3)))) (Nat.not_lt.mpr (q ▸ hgeP))), k4 _ _ hb3, b4, b5, b6⟩ S7 ⟨#[], 0, hn4, .nil⟩
  case cA => exact cA
  show wpAny _ _ _ _ _ _
  refine wpAny_bind (wpAny_onRaise ?_)
  refine wpAny_bind (wpAny_mkStrs fun vs => wpAny_bind (wpAny_newTextTuple ?_))
  refine wpAny_bind (store_push (nA := nA) rfl (hn8.up fun o e => Heap.get?_push_of_some _ e) rfl rfl fun h9 tk9 hn9 s9 => ?_)
  refine wpAny_pure ?_
  simp only [List.cons_append, List.nil_append] at hn9
  dsimp only
  rw [if_neg (by decide)]
  have big : ∀ b o, b ≠ 23 → b ≠ P' → b ≠ nA → h2.get? b = some o → h9.get? b = some o := fun b o n1 n2 n3 e => (s9.2 b n3).trans (Heap.get?_push_of_some _ (S8 b o n2 n3 (S7 b o n2 n3 (k4 _ _ (hx b o n1 e)))))
  have big1 : ∀ b o, b ≠ 23 → h1.get? b = some o → h9.get? b = some o := fun b o n1 e => big b o n1 (fun q => absurd (Heap.lt_size (k2 _ _ e)) (Nat.not_lt.mpr (q ▸ hgeP))) (fun q => by rw [q, hn0] at e; cases e) (k2 _ _ e)
  have old : ∀ b o, b ≠ 23 → h.get? b = some o → h9.get? b = some o := fun b o n1 e => big1 b o n1 (kk1 _ _ e)
  have K9 : Keeps h₀ h9 := fun b o e => old b o (fun q => by rw [q, h0P] at e; cases e) (k0 b o e)
  have hb9 := big1 _ _ (fun q => by have := Heap.lt_size hP; rw [q] at this; exact absurd this (Nat.lt_irrefl _)) hbT
  obtain ⟨hs, ts, ep, hq22, hn12⟩ := ents12 hn9
  obtain ⟨t0, nS, hsl⟩ := hsl
  obtain ⟨pm1, ct1, c1, o1, P1, g1, g2, g3⟩ := hf1
  obtain ⟨pm2, ct2, c2, g4, g5⟩ := hf2
  have n23 : 23 ≠ P' := fun q => absurd (Heap.lt_size (k2 _ _ (kk1 _ _ hP))) (Nat.not_lt.mpr (q ▸ hgeP))
  have up9 : ∀ b o, b ≠ nA → h8.get? b = some o → h9.get? b = some o := fun b o n e => (s9.2 b n).trans (Heap.get?_push_of_some _ e)
  have nd : ∀ b o, h8.get? b = some o → o.cls ≠ .type "dict" → b ≠ nA := fun b o e hc q => by
    obtain ⟨es', ep', e', _⟩ := hn8
    rw [q, e'] at e
    cases e
    exact hc rfl
  have m8 : nA < h8.objs.size := let ⟨_, _, e', _⟩ := hn8; Heap.lt_size e'
  refine wpAny_bind (tcall_K (nB := 0) (ep := ep) (nS := nS) (hs := hs) (ts := ts) (t0 := t0) hh (Nat.le_trans hdp (by decide)) (Nat.le_trans hu (by decide)) (X.keeps K9) hb9 hn12 hnm ?sl ?fs ?sa fun C ns md h10 tk10 hs' ts' tm' um' k10 hC hns hmd => ?_)
  case sl => exact up9 _ _ (nd _ _ hsl (by simp)) hsl
  case fs =>
    intro f hf
    obtain ⟨o, e, r⟩ := hfs f hf
    exact ⟨o, up9 _ _ (nd _ _ e (by rw [r]; simp)) e, r⟩
  case sa => exact ⟨_, (s9.2 _ (Nat.ne_of_gt m8)).trans (Heap.get?_push_size _ rfl), rfl⟩
  refine wpAny_pure ?_
  refine hq ⟨C, ns, md, h.objs.size, sl, f1, f2, f3, f4, f5, f6, _, _, _, tm', um', hs', ts', 3⟩ h10 tk10 (fun b o n e => k10 _ _ (old b o n e)) ?tab ⟨hC, hns, hmd⟩ ?ini ?lt
  case tab => exact ⟨c, k10 _ _ (up9 _ _ hP23.symm (S8 _ _ n23 hP23.symm (S7 _ _ n23 hP23.symm (k4 _ _ hp))))⟩
  case ini =>
    obtain ⟨a0, a1, a2, a3, r1, r3, r4, r5, n16, rfl⟩ := g3
    exact ⟨pm1, ct1, c1, r1, .ref P1, r3, r4, r5, _, _, file, fun n => if n = 0 then a0 else if n = 1 then a1 else if n = 2 then a2 else if n = 11 then a3 else 0, k10 _ _ (up9 _ _ (nd _ _ g1 (by simp)) g1), k10 _ _ (up9 _ _ (nd _ _ g2 (by simp)) g2)⟩
  case lt =>
    obtain ⟨cc, oc2, vs2, tt2, q1, q2, q3, q4⟩ := g5
    obtain ⟨oc, e, r⟩ := hcell
    refine ⟨pm2, ct2, c2, cell, k10 _ _ (up9 _ _ (nd _ _ g4 (by simp)) g4), ⟨cc, oc2, vs2, tt2, q1, k10 _ _ (up9 _ _ ?x q2), q3, q4⟩, ⟨oc, k10 _ _ (old _ _ (fun q => ?y) e), r⟩⟩
    case x =>
      intro q
      obtain ⟨es', ep', e', _⟩ := hn8
      rw [q, e'] at q2
      cases q2
      cases q3
    case y =>
      rw [q, hP] at e
      cases e
      simp [tabObj] at r
end
end Mine
end
section
open PySem PySem.W PySem.W.X PySem.Spec PySem.Calls PyProof.Rows
set_option maxRecDepth 100000
set_option maxHeartbeats 3000000
namespace Mine
open PySem.Builtin
theorem bcB : bootBuiltins (Str.ofString "__build_class__") = some (.builtin "__build_class__") := by kernel_rfl
noncomputable abbrev cmpScope : Scope := (defNamed mainBody (Str.ofString "cmp_to_key")).2.2
section
variable {w : World} {A : Around} {E : Value → Shared → Prop} {h : Heap} {g : Array GenState} {d : Drawn} {tk : Nat} {os : OsState}
theorem stmt_K {h₀ : Heap} {p : Program} {lo : List Str} {mean : ExcName → Option Value} {mg mb : Str → Option Value} {L a c0 cell lam : Addr} {file : Str} {text : Nat} {vn : Value} {Q : Flow → Shared → Prop}
   (hh : A.handled = none) (hdp : A.depth ≤ 540) (hu : A.units ≤ 8700) (k0 : Keeps h₀ h) (X : (hd.heap_1 w.params).In h₀) (T : Top p lo mean mg mb h₀)
   (B : Blk h c0 23 file 3 true text) (hP : h.get? 23 = some (tabObj #[])) (h0P : h₀.get? 23 = none) (hcell : h.IsCell cell (some (.ref lam))) (hname : mg "__name__" = some vn)
   (hobj : ∀ Q' : Value → Shared → Prop, Q' (.type "object") ⟨h, g, d, tk, os⟩ → ∀ pos, wpAny (model PySem.Challenge.pw_pd0110_01 w) A (eval (.Name (Str.ofString "object") pos) (envX (Str.ofString "cmp_to_key") cmpScope L a (.ref c0) [(Str.ofString "mycmp", cell)])) Q' E ⟨h, g, d, tk, os⟩)
   (hq : ∀ (cK : KCls) (h' : Heap) (tk' : Nat), (∀ b o, b ≠ 23 → h.get? b = some o → h'.get? b = some o) → (∃ x y c, h'.get? 23 = some (tabObj #[x, y, .ref c])) → cK.At h' → InitAt cK h' → LtAt cK h' lam →
     wpAny (model PySem.Challenge.pw_pd0110_01 w) A (storeName (envX (Str.ofString "cmp_to_key") cmpScope L a (.ref c0) [(Str.ofString "mycmp", cell)]) (Str.ofString "K") (.ref cK.C)) (fun _ s' => Q .next s') E ⟨h', g, d, tk', os⟩) :
   wpAny (model PySem.Challenge.pw_pd0110_01 w) A (exec clsStmt (envX (Str.ofString "cmp_to_key") cmpScope L a (.ref c0) [(Str.ofString "mycmp", cell)])) Q E ⟨h, g, d, tk, os⟩ := by
  obtain ⟨sd, hsd⟩ : ∃ sd, sd = clsStmt := ⟨_, rfl⟩
  rw [← hsd]
  conv at hsd => rhs; whnf
  subst hsd
  rw [arm_exec_ClassDef]
  refine wpAny_bind (wpAny_pure ?_)
  refine wpAny_bind (wpAny_standAt ?_)
  refine wpAny_bind ?_
  unfold buildClassGuard
  refine wpAny_bind (wpAny_nsGet ((T.b).keeps k0) ?_)
  rw [T.builtins _ (by decide), bcB]
  refine wpAny_pure ?_
  refine wpAny_bind (wpAny_holding ?_)
  refine wpAny_bind ?_
  unfold evalArgs
  refine wpAny_bind (Calls.spliced_cons (hobj _ (Calls.spliced_nil ?_) _))
  refine wpAny_bind (wpAny_pure ?_)
  refine wpAny_holding ?_
  refine wpAny_bind (wpAny_pure (wpAny_bind (wpAny_pure (wpAny_pure ?_))))
  refine wpAny_bind (wpAny_standAt ?_)
  refine wpAny_holding ?_
  refine build_K (fl := 0) (cell := cell) (lam := lam) hh hdp hu k0 X T rfl rfl rfl rfl B hP h0P rfl rfl rfl hcell hname fun cK h' tk' kk ht hA hI hL => ?_
  refine wpAny_bind (wpAny_pure ?_)
  refine wpAny_bind (wpAny_standAt ?_)
  refine wpAny_bind (wpAny_bindName ?_)
  obtain ⟨c, hc⟩ := ht
  exact wpAny_mono (hq cK h' tk' kk ⟨_, _, c, hc⟩ hA hI hL) (fun _ _ q => wpAny_pure q) fun _ _ e => e
end
end Mine
end
section
open PySem PySem.W PySem.W.X PySem.Spec PySem.Calls PyProof.Rows
set_option maxRecDepth 100000
set_option maxHeartbeats 8000000
namespace Mine
section
variable {prog : Program} {w : World} {A A₀ : Around} {s : Shared} {K : Frag} {L : Addr} {h₀ base : Heap} {m mg mb : Str → Option Value} {p : Program} {loose : List Str} {mean : ExcName → Option Value}
/-- the entry of a def that changes one object of the caller's ledger (its table of codes) -/
theorem enter_T {env : Env} {outer : List Env} {R : Result → Shared → Prop} {name qual : Str} {params : Arguments} {body : List Stmt} {scope : Scope} {dV kV doc pm cdv ct oc : Value} {an od : Option Addr} {osl : Array (Option Value)} {f P : Addr} {oP : Obj} {args : Args} {binds : List (Str × Value)}
    (mF cF : Str → Option Value)
    (B : Below A₀ base outer h₀) (F : Fr h₀ L s.heap m) (X₀ : K.In h₀) (T : Top p loose mean mg mb h₀) (N : News h₀ L s.heap [(P, oP)]) (hA : A.frames = some (env :: outer)) (hf : env.frame = some L) (hke : env.scope.kind = .function)
    (ho : K.lookup f = some ⟨oc, od, .func (fnOf name qual params body scope dV kV doc pm an cdv ct), osl⟩) (hcd : codeIn K cdv qual = true) (hroom : A.depth < recursionLimit)
    (hbind : BindsTo s (fnOf name qual params body scope dV kV doc pm an cdv ct) args binds)
    (hkind : ∀ n, ∀ x ∈ binds, scope.names.lookup x.1 = some .local ∨ (scope.names.lookup x.1 = some .cell ∧ ((cellsFrom n scope.names []).lookup x.1).isSome = true))
    (hnd : ((cellsFrom 0 scope.names []).map (·.1)).Nodup)
    (hmF : bindL (scope.names.lookup ·) binds (fun _ => none) = mF) (hcF : bindC (scope.names.lookup ·) binds (fun _ => none) = cF)
    (h : ∀ g L' h₁ tk cells, Fr g L' h₁ mF → News g L' h₁ (cells ++ [(P, oP)]) → (∀ q ∈ cells, s.heap.get? q.1 = none) →
      CellsAre cF (cellsFrom (L' + 1) scope.names []) cells → Below A base (env :: outer) g → K.In g → Top p loose mean mg mb g → Keeps s.heap h₁ → g.get? P = none → Keeps h₀ g → (∀ b o, b ≠ P → s.heap.get? b = some o → g.get? b = some o) → P < L' →
      wpAny (model prog w) (A.deeper (envOfC qual scope L' f cdv)) (execs body (envOfC qual scope L' f cdv))
        (fun fl s' => R (.ok (.ret (match fl with | .ret v => v | _ => .none))) s')
        (fun e s' => wpAny (model prog w) (A.deeper (envOfC qual scope L' f cdv)) (leaving (envOfC qual scope L' f cdv) e) (fun _ s'' => R (.error e) s'') (fun e' s'' => R (.error e') s'') s')
        { s with heap := h₁, toks := tk })
    (hco : scope.isCoroutine = false) (hgen : scope.isGenerator = false) (hk : scope.kind = .function) : codeAny (model prog w) A (.call (.ref f) args) R s := by
  obtain ⟨FG, BG, st, lv⟩ := groundX (R := R) B F N hA hf hke
  refine codeAny_call_function hroom ((X₀.keeps F.keep) _ _ ho) rfl hco hgen rfl (codeRec_of (X₀.keeps F.keep) hcd) (hbind _ _ _ _ ?_)
  refine wpAny_newFunctionEnv_cells hk (hkind _) fun env' he s' x => ?_
  subst he
  refine ⟨(T.nolimit.keeps F.keep).keeps x.toInCall.keep, codeAny_func ?_⟩
  obtain ⟨h₁, tk, rfl, _⟩ := x.done
  have hk₁ := x.toInCall.keep
  obtain ⟨cells, NC, Y⟩ := PyProof.Rows.Cl.news (h₀ := s.heap) (Nat.le_refl _) fun n c hm => ⟨x.cell n c (lookup_of_mem_nodup (cellsFrom_names scope.names 0 (s.heap.objs.size + 1) [] [] rfl ▸ hnd) hm), x.above n c hm⟩
  have e1 : bindL (envOfC qual scope s.heap.objs.size f cdv).kindOf binds (fun _ => none) = mF := hmF
  have e2 : bindC (envOfC qual scope s.heap.objs.size f cdv).kindOf binds (fun _ => none) = cF := hcF
  have hns : h₁.Ns s.heap.objs.size (bindL (envOfC qual scope s.heap.objs.size f cdv).kindOf binds fun _ => none) := x.toInCall.ns
  have Y2 : CellsAre (bindC (envOfC qual scope s.heap.objs.size f cdv).kindOf binds fun _ => none) (cellsFrom (s.heap.objs.size + 1) scope.names []) cells := Y
  rw [e1] at hns
  rw [e2] at Y2
  refine h _ s.heap.objs.size h₁ tk cells ⟨hns, fun b o e => hk₁ b o (of_hideAll _ e), Nat.le_of_eq (hideAll_size _ _)⟩ (fun p hp => ?_) (fun q hq => (NC q hq).2.2) Y2 BG (X₀.keeps st) (T.keeps st) hk₁ (hideAll_none _ (List.mem_map_of_mem (.head _))) st (fun b o hb e => hideAll_get _ e (by simpa using hb)) (Heap.lt_size (N _ (.head _)).1)
  rcases List.mem_append.mp hp with hp | hp
  · refine ⟨(NC p hp).1, (NC p hp).2.1, ?_⟩
    cases q : (hideAll s.heap ([(P, oP)].map (·.1))).get? p.1 with
    | none => rfl
    | some o => have := of_hideAll _ q; rw [(NC p hp).2.2] at this; cases this
  · exact ⟨hk₁ _ _ (N p hp).1, Nat.ne_of_lt (Heap.lt_size (N p hp).1), hideAll_none _ (List.mem_map_of_mem hp)⟩
end
end Mine
end
section
open PySem PySem.W PySem.W.X PySem.Spec PySem.Calls PyProof.Rows
set_option maxRecDepth 100000
set_option maxHeartbeats 8000000
namespace Mine
noncomputable def blkIn (K : Frag) (c P : Addr) : Bool := match K.lookup c with
  | some ⟨.type "code", none, .fields vs, sl⟩ => (sl.size == 0) && ((match vs.getD 11 .none with | .ref P' => P' == P | _ => false) &&
      ((match vs.getD 18 .none with | .str _ _ => true | _ => false) && ((match vs.getD 7 .none with | .int n _ => n == 3 | _ => false) &&
      ((match vs.getD 9 .none with | .bool b => b | _ => false) && ((match vs.getD 10 .none with | .int n _ => decide (0 ≤ n) | _ => false) && c != P)))))
  | _ => false
theorem blk_of_K {K : Frag} {h : Heap} {c P : Addr} (X : K.In h) (e : blkIn K c P = true) : ∃ file text, Blk h c P file 3 true text := by
  unfold blkIn at e
  split at e
  · rename_i vs sl hk
    simp only [Bool.and_eq_true] at e
    obtain ⟨e0, e1, e2, e3, e4, e5, e6⟩ := e
    have := Array.eq_empty_of_size_eq_zero (beq_iff_eq.mp e0)
    subst this
    have hne : c ≠ P := fun q => by rw [q] at e6; simp at e6
    split at e1
    · rename_i P' h11
      have hP : P' = P := beq_iff_eq.mp e1
      subst hP
      split at e2
      · rename_i f tf h18
        split at e3
        · rename_i fl tg h7
          have h3 := beq_iff_eq.mp e3
          subst h3
          split at e4
          · rename_i b h9
            subst e4
            split at e5
            · rename_i n tt h10
              have hn := of_decide_eq_true e5
              refine ⟨f, n.toNat, vs, tf, tg, tt, X _ _ hk, h11, h18, h7, h9, ?_, hne⟩
              rw [Int.toNat_of_nonneg hn]; exact h10
            · cases e5
          · cases e4
        · cases e3
      · cases e2
    · cases e1
  · cases e
noncomputable def namedIn (K : Frag) (x : Str) : Bool := match nsIn K mainGlobals x with | some (some _) => true | _ => false
theorem named_of_K {K : Frag} {h : Heap} {x : Str} {mg : Str → Option Value} (X : K.In h) (g : h.Ns mainGlobals mg) (e : namedIn K x = true) : ∃ vn, mg x = some vn := by
  unfold namedIn at e
  split at e
  · rename_i v hv
    exact ⟨v, mg_of X g hv⟩
  · cases e
theorem blkK {P : Params} {h : Heap} (X : (hd.heap_1 P).In h) : ∃ file text, Blk h 27 23 file 3 true text := blk_of_K X (by kernel_rfl)
theorem nameK {P : Params} {h : Heap} {mg : Str → Option Value} (X : (hd.heap_1 P).In h) (g : h.Ns mainGlobals mg) : ∃ vn, mg (Str.ofString "__name__") = some vn := named_of_K X g (by kernel_rfl)
noncomputable def KAll (c : KCls) (h : Heap) (lam : Addr) : Prop := c.At h ∧ InitAt c h ∧ LtAt c h lam
theorem off_ns {h : Heap} {L b : Addr} {m : Str → Option Value} {o : Obj} (n : h.Ns L m) (e : h.get? b = some o) (hd : ∀ es ep, o.data ≠ .dict es ep) : b ≠ L := by
  rintro rfl
  obtain ⟨o', es, ep, e', d, _⟩ := n
  rw [e] at e'
  cases e'
  exact hd _ _ d
theorem KAll.but {c : KCls} {h h' : Heap} {lam L : Addr} (x : KAll c h lam) (n : h.Ns L fun _ => none) (s : Heap.SameBut L h h') : KAll c h' lam := by
  obtain ⟨⟨a1, a2, a3⟩, ⟨pm, ct1, c1, r1, r2, r3, r4, r5, n10, n16, fl, tc, e1, e2⟩, ⟨pm2, ct, c2, cell, e3, ⟨cc, oc, vs, t, q1, q2, q3, q4⟩, ⟨ol, q5, q6⟩⟩⟩ := x
  have up : ∀ b o, h.get? b = some o → (∀ es ep, o.data ≠ .dict es ep) → h'.get? b = some o := fun b o e hd => (s.2 b (off_ns n e hd)).trans e
  refine ⟨⟨up _ _ a1 (fun _ _ q => nomatch q), ?_, up _ _ a3 (fun _ _ q => nomatch q)⟩, ⟨pm, ct1, c1, r1, r2, r3, r4, r5, n10, n16, fl, tc, up _ _ e1 (fun _ _ q => nomatch q), up _ _ e2 (fun _ _ q => nomatch q)⟩, ⟨pm2, ct, c2, cell, up _ _ e3 (fun _ _ q => nomatch q), ⟨cc, oc, vs, t, q1, up _ _ q2 (fun _ _ q => by rw [q3] at q; nomatch q), q3, q4⟩, ⟨ol, up _ _ q5 (fun _ _ q => by rw [q6] at q; nomatch q), q6⟩⟩⟩
  refine (s.2 c.ns fun q => ?_).trans a2
  obtain ⟨o', es, ep, e', d, _, f⟩ := n
  rw [← q, a2] at e'
  cases e'
  cases d
  exact absurd (f (Str.ofString "__module__")) (by with_unfolding_all exact fun q => nomatch q)
local macro_rules | `(tactic| walk_at "exec ClassDef") => `(tactic| (refine Stop.out ?_))
theorem cmp_ok {w : World} {p : Program} {lo : List Str} {mean : ExcName → Option Value} {mg mb : Str → Option Value} {gd : Option (List Code)} {cn : Str} {cs : Scope} {a : Addr} {ccd : Value} {cl : List (Str × Addr)} {outer : List Env} {A₀ : Around} {base h₀ : Heap} {L : Addr} {m : Str → Option Value} {s : Shared} {Q E : Value → Shared → Prop} (lam : Addr)
    (B : Below A₀ base outer h₀) (F : Fr h₀ L s.heap m) (X : (hd.heap_1 w.params).In h₀) (T : Top p lo mean mg mb h₀) (hk : cs.kind = .function) (N : News h₀ L s.heap [(23, tabObj #[])]) 
    (hq : ∀ (cK : KCls) (h' : Heap) (tk' : Nat), (∀ b o, b ≠ 23 → s.heap.get? b = some o → h'.get? b = some o) → (∃ x y c, h'.get? 23 = some (tabObj #[x, y, .ref c])) → cK.At h' → InitAt cK h' → LtAt cK h' lam → Q (.ref cK.C) { s with heap := h', toks := tk' }) :
    wpAny (model PySem.Challenge.pw_pd0110_01 w) (ktrTop 450 2600 gd cn cs L a ccd cl outer) (call (.ref 28) [.ref lam]) Q E s := by
  refine wpAny_call ?_
  k_dflt (refine' enter_T (P := 23) (binds := [(Str.ofString "mycmp", .ref lam)]) (fun z => none) (fun z => if z = Str.ofString "mycmp" then some (.ref lam) else none) ?k1 ?k2 ?k3 ?k5 ?kN ?kA ?kF ?kK ?k6 ?k7 ?k8 ?k9 ?kB ?nd ?hmF ?hcF ?_ ?c2 ?c3 ?c4; (case kA => exact rfl); (case kF => exact rfl); (case kK => assumption); (case k1 => k_asm); (case k2 => k_asm); (case k3 => k_asm); (case k5 => k_asm); (case kN => assumption); (case k6 => k_is); (case k7 => k_is); (case k8 => ktr_room); (case k9 => exact BindsTo.of_eq rfl); (case kB => intro n x hx; rw [List.mem_singleton.mp hx]; exact .inr ⟨rfl, rfl⟩); (case nd => decide); (case hmF => funext z; rfl); (case hcF => funext z; rfl);  (case c2 => exact rfl); (case c3 => exact rfl); (case c4 => exact rfl); k_whole; intro g L' h' tk' cells F' N' hce Y' B' X' T' kk gP kh0 kg hPL; (try dsimp only); (try k_lift B'); (try k_fold))
  k_steps
  all_goals delta Stop
  obtain ⟨file, text, hB⟩ := blkK X'
  obtain ⟨vn, hvn⟩ := nameK X' T'.g
  have Y2 : CellsAre _ [(Str.ofString "mycmp", L' + 1)] cells := Y'
  obtain ⟨o, rfl, hod⟩ := CellsAre.one Y2
  dsimp only [List.cons_append, List.nil_append] at N'
  refine stmt_K (a := 28) (L := L') (c0 := 27) (cell := L' + 1) (lam := lam) rfl (by k_units) (by k_units) F'.keep X' T' (hB.up fun o e => F'.keep _ o e) (N' _ (.tail _ (.head _))).1 gP ⟨o, (N' _ (.head _)).1, hod⟩ hvn ?hobj ?hq
  case hobj =>
    intro Q' hQ pos
    k_steps
    exact hQ
  case hq =>
    rintro cK h2 tk2 kk2 ⟨x, y, c, ht2⟩ hA hI hL
    have n23 : L' ≠ 23 := (N' _ (.tail _ (.head _))).2.1.symm
    have F2 : Fr g L' h2 _ := ⟨F'.ns.at' fun o e => kk2 _ o n23 e, fun b o e => kk2 _ o (fun q => by rw [q, gP] at e; cases e) (F'.keep b o e), F'.above⟩
    refine wpAny_storeName_local rfl F2.ns (fun h3 hn3 hs3 => ?_) rfl
    have F3 := F2.set hn3 hs3
    have hAll := KAll.but ⟨hA, hI, hL⟩ F2.ns hs3
    have k23 : h3.get? 23 = some (tabObj #[x, y, .ref c]) := (hs3.2 _ n23.symm).trans ht2
    have N3 : News g L' h3 [] := fun _ h => nomatch h
    have kb : ∀ b o, b ≠ 23 → s.heap.get? b = some o → h3.get? b = some o := fun b o hb e => F3.keep b o (kg b o hb e)
    clear F2 F' N' Y' Y2
    k_steps
    exact hq cK h3 _ kb ⟨x, y, c, k23⟩ hAll.1 hAll.2.1 hAll.2.2
end Mine
end
section
open PySem PySem.W PySem.W.X PySem.Spec PySem.Calls PyProof.Rows PyProof.Rows.LCg
set_option maxRecDepth 100000
namespace Mine
section
variable {prog : Program} {w : World} {A : Around} {E : Value → Shared → Prop} {s : Shared} {env : Env} {h₀ : Heap} {L : Addr} {m : Str → Option Value}
/-- a list comprehension over a list that its iterable gives, its element anything, by an invariant over what has been made and the ledger -/
theorem comp_any2 {elt iter : Expr} {a : Str} {pa : Pos} {scope : Scope} {cl : List (Str × Addr)} {pos : Pos} {Q : Value → Shared → Prop} (J : List Value → Addr → Nat → List Value → Led → Prop)
    (hclos : closureFor scope env = pure cl) (hcell : ∀ y ∈ scope.names, y.2 ≠ .cell) (hkind : scope.kind = .function)
    (hnames : ∀ y ∈ scope.names, y.2 = .local → scope.names.lookup y.1 = some .local) (ha : scope.names.lookup a = some .local) (hh : A.handled = none)
    (hJz : ∀ items ax i acc nw, J items ax i acc nw → items.length ≤ sizeLine) (hJl : ∀ items ax i acc nw h, J items ax i acc nw → Fr h₀ L h m → News h₀ L h nw → h.IsList ax items.toArray) (hJn : ∀ items ax i acc nw, J items ax i acc nw → acc.length = i)
    (hiter : ∀ K : Value → Shared → Prop, (∀ items ax h₁ tk₁ news, Fr h₀ L h₁ m → News h₀ L h₁ news → J items ax 0 [] news → K (.ref ax) { s with heap := h₁, toks := tk₁ }) → wpAny (model prog w) A (eval iter env) K E s)
    (turn : ∀ items ax i v acc nw, items[i]? = some v → J items ax i acc nw → ∀ I oI C oC D m₂ h tk (E' : Value → Shared → Prop), NsObj oC m₂ → m₂ a = some v → (∀ r ∈ nw, r.1 ≠ I ∧ r.1 ≠ C ∧ r.1 ≠ D) → I ≠ C → I ≠ D → C ≠ D → Fr h₀ L h m → News h₀ L h ((I, oI) :: (C, oC) :: (D, lst acc) :: nw) →
      wpAny (model prog w) A (eval elt (compEnvC scope cl C env)) (fun r s' => ∃ nw' h' tk', s' = { s with heap := h', toks := tk' } ∧ Fr h₀ L h' m ∧ News h₀ L h' ((I, oI) :: (C, oC) :: (D, lst acc) :: nw') ∧ (∀ r ∈ nw', r.1 ≠ I ∧ r.1 ≠ C ∧ r.1 ≠ D) ∧ J items ax (i + 1) (acc ++ [r]) nw') E' { s with heap := h, toks := tk })
    (done : ∀ items ax D h tk acc nw, J items ax items.length acc nw → Fr h₀ L h m → News h₀ L h ((D, lst acc) :: nw) → (∀ r ∈ nw, r.1 ≠ D) → Q (.ref D) { s with heap := h, toks := tk })
    (hs : ∀ x, foldedSetIterable iter env x = pure x := by intro _; rfl) :
    wpAny (model prog w) A (eval (.ListComp elt [⟨.Name a pa, iter, [], 0⟩] scope pos) env) Q E s := by
  rw [eval_ListComp]
  refine wpAny_comprehension_free (use := none) rfl hs hclos hkind hnames (hiter _ fun items ax h₁ tk₁ news F N hj => ?_)
  replace turn := turn items ax
  replace done := done items ax
  replace hJl := hJl items ax
  replace hJn := hJn items ax
  have hsz := hJz items ax _ _ _ hj
  generalize J items ax = J at turn done hJl hJn hj
  obtain ⟨s₀, hs₀⟩ : ∃ s₀ : Shared, s₀ = { s with heap := h₁, toks := tk₁ } := ⟨_, rfl⟩
  replace F : Fr h₀ L s₀.heap m := by rw [hs₀]; exact F
  replace N : News h₀ L s₀.heap news := by rw [hs₀]; exact N
  replace turn : ∀ i v acc nw, items[i]? = some v → J i acc nw → ∀ I oI C oC D m₂ h tk (E' : Value → Shared → Prop), NsObj oC m₂ → m₂ a = some v → (∀ r ∈ nw, r.1 ≠ I ∧ r.1 ≠ C ∧ r.1 ≠ D) → I ≠ C → I ≠ D → C ≠ D → Fr h₀ L h m → News h₀ L h ((I, oI) :: (C, oC) :: (D, lst acc) :: nw) →
      wpAny (model prog w) A (eval elt (compEnvC scope cl C env)) (fun r s' => ∃ nw' h' tk', s' = { s₀ with heap := h', toks := tk' } ∧ Fr h₀ L h' m ∧ News h₀ L h' ((I, oI) :: (C, oC) :: (D, lst acc) :: nw') ∧ (∀ r ∈ nw', r.1 ≠ I ∧ r.1 ≠ C ∧ r.1 ≠ D) ∧ J (i + 1) (acc ++ [r]) nw') E' { s₀ with heap := h, toks := tk } := by rw [hs₀]; exact turn
  replace done : ∀ D h tk acc nw, J items.length acc nw → Fr h₀ L h m → News h₀ L h ((D, lst acc) :: nw) → (∀ r ∈ nw, r.1 ≠ D) → Q (.ref D) { s₀ with heap := h, toks := tk } := by rw [hs₀]; exact done
  rw [← hs₀]
  clear hs₀ hiter
  rename Shared => s
  have hl1 : s.heap.IsList ax items.toArray := hJl _ _ _ _ hj F N
  refine wpAny_pyIter_list hl1 ?_
  generalize hH1 : s.heap.push { cls := .type "list_iterator", data := .fields #[.ref ax, .int 0 0] } = H1
  have z1 : H1.objs.size = s.heap.objs.size + 1 := by rw [← hH1, Heap.size_push]
  have k1 : Keeps s.heap H1 := fun b o e => hH1 ▸ Heap.get?_push_of_some _ e
  refine wpAny_newObj_type (wpAny_newFunctionEnv hcell (by intro y hy; simp at hy) (fun h₁ hns₁ hsb₁ => ?_) hkind)
  dsimp only at hns₁ hsb₁ ⊢
  generalize hH2 : H1.push { cls := .type "list", dict := none, data := .seq ([] : List Value).toArray } = H2 at hns₁ hsb₁ ⊢
  have z2 : H2.objs.size = s.heap.objs.size + 2 := by rw [← hH2, Heap.size_push, z1]
  have k2 : Keeps H1 H2 := fun b o e => hH2 ▸ Heap.get?_push_of_some _ e
  have k3 : Keeps H2 h₁ := fun b o e => hsb₁.extBut b o (Nat.ne_of_lt (Heap.lt_size e)) (Heap.get?_push_of_some _ e)
  generalize hI : s.heap.objs.size = I at *
  generalize hD : H1.objs.size = D at *
  generalize hC : H2.objs.size = C at *
  have hold : ∀ b o, s.heap.get? b = some o → b < I := fun b o e => hI ▸ Heap.lt_size e
  have fr0 : ∀ b, I ≤ b → h₀.get? b = none := fun b hb => by
    cases e : h₀.get? b with
    | none => rfl
    | some o => exact absurd (hold b o (F.keep b o e)) (Nat.not_lt.mpr hb)
  have hLI : L < I := hI ▸ F.ns.lt
  have itI : h₁.IsListIter I ax 0 := ⟨_, k3 _ _ (k2 _ _ (hH1 ▸ hI ▸ Heap.get?_push_size _ rfl)), rfl, rfl⟩
  have acD : h₁.get? D = some (lst []) := k3 _ _ (hH2 ▸ hD ▸ Heap.get?_push_size _ rfl)
  have F₁ : Fr h₀ L h₁ m := F.kept (k1.trans (k2.trans k3))
  have hID : I < D := by rw [z1]; exact Nat.lt_succ_self I
  have hIC : I < C := by rw [z2]; exact Nat.lt_succ_of_lt (Nat.lt_succ_self I)
  have hDC : D < C := by rw [z2, z1]; exact Nat.lt_succ_self (I + 1)
  have hLD : L < D := Nat.lt_trans hLI hID
  have hLC : L < C := Nat.lt_trans hLI hIC
  have hND : ∀ r ∈ news, r.1 < I := fun r hr => hold _ _ (N r hr).1
  have loop : ∀ s₃ : Shared, s₃ = { s with heap := h₁, toks := s.toks + ([] : List (Str × Value)).length } →
      codeAny (model prog w) A (.compLoop (.ListComp elt [⟨.Name a pa, iter, [], 0⟩] scope pos) 0 (.ref I) (.ref D) (compEnvC scope cl C env))
        (compPost (model prog w) A E none Q (.ref D) C) s₃ := by
    rintro s₃ rfl
    refine kcp_loop
      (fun k s' => ∃ h' tk i m' acc nw, s' = { s with heap := h', toks := tk } ∧ i ≤ items.length ∧ k = items.length + 1 - i ∧ h'.IsListIter I ax i ∧ Fr h₀ L h' m ∧ h'.Ns C m' ∧ J i acc nw ∧ (∀ r ∈ nw, r.1 ≠ I ∧ r.1 ≠ C ∧ r.1 ≠ D) ∧ News h₀ L h' ((D, lst acc) :: nw)) ?_ (items.length + 1)
      ⟨h₁, _, 0, _, [], news, rfl, Nat.zero_le _, rfl, itI, F₁, hns₁, hj, fun r hr => ⟨Nat.ne_of_lt (hND r hr), Nat.ne_of_lt (Nat.lt_trans (hND r hr) hIC), Nat.ne_of_lt (Nat.lt_trans (hND r hr) hID)⟩, fun r hr => ?_⟩
    · rintro k s' ⟨h', tk, i, m', acc, nw, rfl, hi, rfl, hit, F', hn', hJ, offn, N'⟩
      have hl' : h'.IsList ax items.toArray := hJl _ _ _ _ hJ F' fun r hr => N' r (.tail _ hr)
      have off : ∀ r ∈ (D, lst acc) :: nw, r.1 ≠ I ∧ r.1 ≠ C := fun r hr => by
        rcases List.mem_cons.mp hr with rfl | hr
        · exact ⟨Nat.ne_of_gt hID, Nat.ne_of_lt hDC⟩
        · exact ⟨(offn r hr).1, (offn r hr).2.1⟩
      cases hq : items[i]? with
      | none =>
        have hin : i = items.length := Nat.le_antisymm hi (List.getElem?_eq_none_iff.mp hq)
        refine wpAny_pyNext_list_end hh hit hl' (by simp [hq]) fun h₂ he => ?_
        have F₂ : Fr h₀ L h₂ m := ⟨F'.ns.at' fun o e => he _ o (Nat.ne_of_lt hLI) e, fun b o e => he b o (fun q => by rw [q, fr0 I (Nat.le_refl _)] at e; cases e) (F'.keep b o e), F'.above⟩
        refine ⟨m', hn'.at' fun o e => he _ o (Nat.ne_of_gt hIC) e, fun h'' hs'' => ?_⟩
        rw [hin] at hJ
        exact done D h'' tk acc nw hJ (F₂.change hs'' (Nat.ne_of_gt hLC) (fr0 C (Nat.le_of_lt hIC))) (fun r hr => ⟨hs''.extBut _ _ (off r hr).2 (he _ _ (off r hr).1 (N' r hr).1), (N' r hr).2⟩) fun r hr => (offn r hr).2.2
      | some v =>
        have hlt : i < items.length := (List.getElem?_eq_some_iff.mp hq).1
        refine wpAny_pyNext_list_item hit hl' (x := v) (by simp [hq]) fun h₂ hit₂ hs₂ => ?_
        have F₂ : Fr h₀ L h₂ m := F'.change hs₂ (Nat.ne_of_gt hLI) (fr0 I (Nat.le_refl _))
        have N₂ : News h₀ L h₂ ((D, lst acc) :: nw) := fun r hr => ⟨hs₂.extBut _ _ (off r hr).1 (N' r hr).1, (N' r hr).2⟩
        have hn₂ : h₂.Ns C m' := hn'.at' fun o e => hs₂.extBut _ o (Nat.ne_of_gt hIC) e
        refine wpAny_pure ?_
        refine wpAny_assign_Name (wpAny_storeName_local (lookup_relabel_local ha) hn₂ (fun h₃ hn₃ hs₃ => ?_) (by simp [compEnvC, relabel, hkind]))
        have hk₃ : ∀ b o, b ≠ C → h₂.get? b = some o → h₃.get? b = some o := fun b o hb e => hs₃.extBut b o hb e
        obtain ⟨oI, heI⟩ : ∃ o, h₂.get? I = some o := by obtain ⟨o, e, _⟩ := hit₂; exact ⟨o, e⟩
        have heI3 := hk₃ I oI (Nat.ne_of_lt hIC) heI
        have hit₃ : h₃.IsListIter I ax (i + 1) := hit₂.at fun o e => hk₃ I o (Nat.ne_of_lt hIC) e
        obtain ⟨oC, heC, hoC⟩ := ns_obj hn₃
        have F₃ : Fr h₀ L h₃ m := ⟨F₂.ns.at' fun o e => hk₃ _ o (Nat.ne_of_lt hLC) e, fun b o e => hk₃ b o (fun q => by have q' : b = C := q; rw [q', fr0 C (Nat.le_of_lt hIC)] at e; cases e) (F₂.keep b o e), F₂.above⟩
        have N₃ : News h₀ L h₃ ((I, oI) :: (C, oC) :: (D, lst acc) :: nw) := fun r hr => by
          rcases List.mem_cons.mp hr with rfl | hr
          · exact ⟨heI3, Nat.ne_of_gt hLI, fr0 I (Nat.le_refl _)⟩
          · rcases List.mem_cons.mp hr with rfl | hr
            · exact ⟨heC, Nat.ne_of_gt hLC, fr0 C (Nat.le_of_lt hIC)⟩
            · exact ⟨hk₃ _ _ (off r hr).2 (N₂ r hr).1, (N₂ r hr).2⟩
        have ma : (fun z => if z = a then some v else m' z) a = some v := by simp
        have hnac := hJn _ _ _ hJ
        refine wpAny_mono (turn i v acc nw hq hJ I oI C oC D _ h₃ _ _ hoC ma offn (Nat.ne_of_lt hIC) (Nat.ne_of_lt hID) (Nat.ne_of_gt hDC) F₃ N₃) (fun r s₅ h₅ => ?_) fun _ _ e => e
        obtain ⟨nw', h₅', tk₅, rfl, F₅, N₅, off', hJ'⟩ := h₅
        refine append_at (hsz := by show acc.toArray.size ≤ sizeLine; rw [List.size_toArray, hnac]; exact Nat.le_trans hi hsz) (N₅ _ (.tail _ (.tail _ (.head _)))).1 fun h₆ hs₆ hD₆ => ?_
        have e1 : h₅'.IsListIter I ax (i + 1) := hit₃.at fun o e => (Option.some.inj (heI3.symm.trans e)) ▸ (N₅ _ (.head _)).1
        have e2 := hoC.ns (N₅ _ (.tail _ (.head _))).1
        refine ⟨items.length + 1 - (i + 1), by omega, h₆, tk₅, i + 1, _, acc ++ [r], nw', rfl, hlt, rfl, e1.at fun o e => hs₆.extBut _ o (Nat.ne_of_lt hID) e, F₅.change hs₆ (Nat.ne_of_gt hLD) (fr0 D (Nat.le_of_lt hID)), e2.sameBut hs₆ (Nat.ne_of_gt hDC), hJ', off', ?_⟩
        intro q hr
        rcases List.mem_cons.mp hr with rfl | hr
        · exact ⟨hD₆.trans (congrArg some (lst_snoc _ _)), Nat.ne_of_gt hLD, fr0 D (Nat.le_of_lt hID)⟩
        · have z := N₅ q (.tail _ (.tail _ (.tail _ hr)))
          exact ⟨hs₆.extBut _ _ (off' q hr).2.2 z.1, z.2⟩
    · rcases List.mem_cons.mp hr with rfl | hr
      · exact ⟨acD, Nat.ne_of_gt hLD, fr0 _ (Nat.le_of_lt hID)⟩
      · exact ⟨k3 _ _ (k2 _ _ (k1 _ _ (N r hr).1)), (N r hr).2⟩
  exact codeAny_compStart_list (loop _ rfl) (wpAny_pyIter_listiter itI (loop _ rfl))
/-- a list comprehension over a list of the ledger, its element anything, by an invariant over what has been made and the ledger -/
theorem comp_any {elt iter : Expr} {a : Str} {pa : Pos} {scope : Scope} {cl : List (Str × Addr)} {pos : Pos} {Q : Value → Shared → Prop} {ax : Addr} {items : List Value} {news : Led} (J : Nat → List Value → Led → Prop)
    (hclos : closureFor scope env = pure cl) (hcell : ∀ y ∈ scope.names, y.2 ≠ .cell) (hkind : scope.kind = .function)
    (hnames : ∀ y ∈ scope.names, y.2 = .local → scope.names.lookup y.1 = some .local) (ha : scope.names.lookup a = some .local) (hh : A.handled = none)
    (hsz : items.length ≤ sizeLine) (hJl : ∀ i acc nw h, J i acc nw → Fr h₀ L h m → News h₀ L h nw → h.IsList ax items.toArray) (hJn : ∀ i acc nw, J i acc nw → acc.length = i)
    (F : Fr h₀ L s.heap m) (N : News h₀ L s.heap news) (hj : J 0 [] news)
    (hiter : ∀ K : Value → Shared → Prop, K (.ref ax) s → wpAny (model prog w) A (eval iter env) K E s)
    (turn : ∀ i v acc nw, items[i]? = some v → J i acc nw → ∀ I oI C oC D m₂ h tk (E' : Value → Shared → Prop), NsObj oC m₂ → m₂ a = some v → (∀ r ∈ nw, r.1 ≠ I ∧ r.1 ≠ C ∧ r.1 ≠ D) → I ≠ C → I ≠ D → C ≠ D → Fr h₀ L h m → News h₀ L h ((I, oI) :: (C, oC) :: (D, lst acc) :: nw) →
      wpAny (model prog w) A (eval elt (compEnvC scope cl C env)) (fun r s' => ∃ nw' h' tk', s' = { s with heap := h', toks := tk' } ∧ Fr h₀ L h' m ∧ News h₀ L h' ((I, oI) :: (C, oC) :: (D, lst acc) :: nw') ∧ (∀ r ∈ nw', r.1 ≠ I ∧ r.1 ≠ C ∧ r.1 ≠ D) ∧ J (i + 1) (acc ++ [r]) nw') E' { s with heap := h, toks := tk })
    (done : ∀ D h tk acc nw, J items.length acc nw → Fr h₀ L h m → News h₀ L h ((D, lst acc) :: nw) → (∀ r ∈ nw, r.1 ≠ D) → Q (.ref D) { s with heap := h, toks := tk })
    (hs : ∀ x, foldedSetIterable iter env x = pure x := by intro _; rfl) :
    wpAny (model prog w) A (eval (.ListComp elt [⟨.Name a pa, iter, [], 0⟩] scope pos) env) Q E s := by
  refine comp_any2 (fun items' ax' i acc nw => items' = items ∧ ax' = ax ∧ J i acc nw) hclos hcell hkind hnames ha hh (fun _ _ _ _ _ h => by rw [h.1]; exact hsz) (fun _ _ i acc nw h e F N => by rw [e.1, e.2.1]; exact hJl i acc nw h e.2.2 F N) (fun _ _ i acc nw h => hJn i acc nw h.2.2) (fun K hK => hiter K (hK items ax s.heap s.toks news F N ⟨rfl, rfl, hj⟩)) ?_ ?_ hs
  · rintro items' ax' i v acc nw hv ⟨rfl, rfl, hJ⟩ I oI C oC D m₂ h tk E' c1 c2 c3 c4 c5 c6 F' N'
    refine wpAny_mono (turn i v acc nw hv hJ I oI C oC D m₂ h tk E' c1 c2 c3 c4 c5 c6 F' N') ?_ fun _ _ e => e
    rintro r s' ⟨nw', h', tk', e1, e2, e3, e4, e5⟩
    exact ⟨nw', h', tk', e1, e2, e3, e4, rfl, rfl, e5⟩
  · rintro items' ax' D h tk acc nw ⟨rfl, rfl, hJ⟩ F' N' ho
    exact done D h tk acc nw hJ F' N' ho
end
end Mine
end
section
open PySem PySem.W PySem.W.X PySem.Spec PySem.Calls PyProof.Rows
set_option maxRecDepth 100000
set_option maxHeartbeats 8000000
namespace Mine
theorem Cl.pre {D U : Nat} {f : Addr} {vs : List Value} {pre pre' : Heap → Prop} {Ret : Heap → Value → Led → Prop} (c : Cl D U f vs pre Ret) (h : ∀ x, pre' x → pre x) : Cl D U f vs pre' Ret := by
  intro w p lo mean mg mb gd cn cs a ccd cl outer A₀ base h₀ L m s Q E B F X T hk hp hq
  exact c w p lo mean mg mb gd cn cs a ccd cl outer A₀ base h₀ L m s Q E B F X T hk (h _ hp) hq
theorem isTuple_upW {h h' : Heap} {i : Addr} {its : Array Value} (x : h.IsTuple i its) (k : Keeps h h') : h'.IsTuple i its := by obtain ⟨o, e, r⟩ := x; exact ⟨o, k _ _ e, r⟩
theorem isList_upW {h h' : Heap} {i : Addr} {its : Array Value} (x : h.IsList i its) (k : Keeps h h') : h'.IsList i its := by obtain ⟨o, e, r⟩ := x; exact ⟨o, k _ _ e, r⟩
theorem codeRec_upW {h h' : Heap} {c : Value} {q : Str} (x : h.CodeRec c q) (k : Keeps h h') : h'.CodeRec c q := by obtain ⟨a, o, vs, t, e1, e2, e3, e4⟩ := x; exact ⟨a, o, vs, t, e1, k _ _ e2, e3, e4⟩
theorem FilesAt.up {h h' : Heap} {fa : Addr} {fs : List FileV} (x : FilesAt h fa fs) (k : Keeps h h') : FilesAt h' fa fs := ⟨isList_upW x.1 k, fun f hf => isTuple_upW (x.2 f hf) k⟩
theorem StepAt.up {fa : Addr} {fs : List FileV} {nm : Str} {f : Addr} {h h' : Heap} (x : StepAt fa fs nm f h) (k : Keeps h h') : StepAt fa fs nm f h' := by
  obtain ⟨⟨doc, pm, c', ctv, c1, c2, e1, e2, e3, tn, e4⟩, e5⟩ := x
  exact ⟨⟨doc, pm, c', ctv, c1, c2, k _ _ e1, codeRec_upW e2 k, e3.keeps k, tn, e4.keeps k⟩, e5.up k⟩
/-- the searched folders, sorted or not -/
noncomputable def SrchAt (h : Heap) (sa : Addr) (ts : List (Addr × Int)) : Prop := h.IsList sa (ts.map fun t => Value.ref t.1).toArray ∧ ∀ t ∈ ts, ∃ tr tf, h.IsTuple t.1 #[.int (t.2.fmod 4) tr, .str (folS t.2) tf]
theorem SrchAt.up {h h' : Heap} {sa : Addr} {ts : List (Addr × Int)} (x : SrchAt h sa ts) (k : Keeps h h') : SrchAt h' sa ts := ⟨isList_upW x.1 k, fun t ht => let ⟨a, b, e⟩ := x.2 t ht; ⟨a, b, isTuple_upW e k⟩⟩
noncomputable def pathOf (n : Int) (nm : Str) : Str := fold4 n ++ Str.ofString "/" ++ nm
noncomputable def toldV (fs : List FileV) (nm : Str) (ns : List Int) : Value := ns.foldl (fun v n => stepV (pathOf n nm) fs v) .none
/-- the table of codes of _law_told -/
noncomputable def StepTab (h : Heap) (oP : Obj) : Prop := oP = tabObj #[] ∨ ∃ c', oP = tabObj #[rawInt 219, rawInt 4, .ref c'] ∧ h.CodeRec (.ref c') (Str.ofString "_law_told.<locals>.step")
theorem StepTab.up {h h' : Heap} {oP : Obj} (x : StepTab h oP) (k : Keeps h h') : StepTab h' oP := by
  rcases x with x | ⟨c', e1, e2⟩
  · exact .inl x
  · exact .inr ⟨c', e1, codeRec_upW e2 k⟩
theorem stepV_kind {path : Str} {fs : List FileV} {v : Value} (hv : v = .none ∨ ∃ a b, v = .str a b) : stepV path fs v = .none ∨ ∃ a b, stepV path fs v = .str a b := by
  rcases hv with rfl | ⟨a, b, rfl⟩
  · unfold stepV
    cases firstR path fs with
    | none => exact .inl rfl
    | some f => exact .inr ⟨_, _, rfl⟩
  · exact .inr ⟨a, b, rfl⟩
theorem reduce_step (fa sa f : Addr) (fs : List FileV) (nm : Str) (ts : List (Addr × Int)) (hnm : nm ∈ namesL) (hfs : fs.length ≤ 100) (hts : ts.length ≤ 100) :
    Cl 450 2600 37 [.ref f, .ref sa, .none] (fun h => StepAt fa fs nm f h ∧ SrchAt h sa ts) (fun _ r tl => r = toldV fs nm (ts.map (·.2)) ∧ tl = []) := by
  have hl : nm.length ≤ 20 := by
    have : ∀ x ∈ namesL, x.length ≤ 20 := by decide
    exact this nm hnm
  have c := reduce_ok f sa (ts.map fun t => Value.ref t.1) (fun i v => (v = .none ∨ ∃ a b, v = .str a b) ∧ v = toldV fs nm ((ts.map (·.2)).take i)) (fun h => StepAt fa fs nm f h ∧ SrchAt h sa ts)
    (fun h h' k x => ⟨x.1.up k, x.2.up k⟩) (fun h x => by obtain ⟨⟨doc, pm, c', ctv, c1, c2, e, _⟩, _⟩ := x.1; exact ⟨_, _, _, _, e⟩) ⟨.inl rfl, rfl⟩ (by rw [List.length_map]; exact hts) ?_
  · intro w p lo mean mg mb gd cn cs a ccd cl outer A₀ base h₀ L m s Q E B F X T hk hp hq
    refine c w p lo mean mg mb gd cn cs a ccd cl outer A₀ base h₀ L m s Q E B F X T hk ⟨hp, hp.2.1⟩ fun r tl h' tk' hr => hq r tl h' tk' ⟨?_, hr.2⟩
    have := hr.1.2
    rw [List.length_map, List.take_of_length_le (by rw [List.length_map]; exact Nat.le_refl _)] at this
    exact this
  · rintro i v x hx ⟨hv, he⟩
    rw [List.getElem?_map] at hx
    cases ht : ts[i]? with
    | none => rw [ht] at hx; cases hx
    | some t =>
      rw [ht] at hx
      cases hx
      refine ⟨stepV (pathOf t.2 nm) fs v, ⟨stepV_kind hv, ?_⟩, (step_ok fa fs nm (folS t.2) (pathOf t.2 nm) f t.1 v hv (good_all t.2 hnm) hl hfs).pre fun h hp => ⟨hp.1, ?_⟩⟩
      · rw [List.take_add_one, List.getElem?_map, ht]
        show _ = toldV fs nm (_ ++ [t.2])
        unfold toldV
        rw [List.foldl_append]
        show _ = stepV _ _ (toldV fs nm _)
        rw [← he]
      · obtain ⟨tr, tf, e⟩ := hp.2.2 t (List.mem_of_getElem? ht)
        exact ⟨_, tr, tf, e⟩
end Mine
end
section
open PySem PySem.W PySem.W.X PySem.Spec PySem.Calls PyProof.Rows
set_option maxRecDepth 100000
set_option maxHeartbeats 8000000
namespace Mine
section
variable {h g : Heap} {P : Addr} {ps : Array Value}
theorem isList_but (kg : ∀ b o, b ≠ P → h.get? b = some o → g.get? b = some o) (hP : h.get? P = some (tabObj ps)) {i : Addr} {its : Array Value} (x : h.IsList i its) : g.IsList i its := by
  obtain ⟨o, e, r⟩ := x
  refine ⟨o, kg _ _ (fun q => ?_) e, r⟩
  subst q
  rw [hP] at e; cases e
  simp [tabObj] at r
theorem isTuple_but (kg : ∀ b o, b ≠ P → h.get? b = some o → g.get? b = some o) (hP : h.get? P = some (tabObj ps)) {i : Addr} {its : Array Value} (x : h.IsTuple i its) : g.IsTuple i its := by
  obtain ⟨o, e, r⟩ := x
  refine ⟨o, kg _ _ (fun q => ?_) e, r⟩
  subst q
  rw [hP] at e; cases e
  simp [tabObj] at r
theorem FilesAt.but (kg : ∀ b o, b ≠ P → h.get? b = some o → g.get? b = some o) (hP : h.get? P = some (tabObj ps)) {fa : Addr} {fs : List FileV} (x : FilesAt h fa fs) : FilesAt g fa fs := ⟨isList_but kg hP x.1, fun f hf => isTuple_but kg hP (x.2 f hf)⟩
theorem SrchAt.but (kg : ∀ b o, b ≠ P → h.get? b = some o → g.get? b = some o) (hP : h.get? P = some (tabObj ps)) {sa : Addr} {ts : List (Addr × Int)} (x : SrchAt h sa ts) : SrchAt g sa ts := ⟨isList_but kg hP x.1, fun t ht => let ⟨a, b, e⟩ := x.2 t ht; ⟨a, b, isTuple_but kg hP e⟩⟩
theorem codeRec_but (kg : ∀ b o, b ≠ P → h.get? b = some o → g.get? b = some o) (hP : h.get? P = some (tabObj ps)) (h1 : ∀ q t, ps[1]? ≠ some (.str q t)) {c : Value} {q : Str} (x : h.CodeRec c q) : g.CodeRec c q := by
  obtain ⟨a, o, vs, t, e1, e2, e3, e4⟩ := x
  refine ⟨a, o, vs, t, e1, kg _ _ (fun e => ?_) e2, e3, e4⟩
  subst e
  rw [hP] at e2; cases e2
  cases e3
  exact h1 _ _ e4
end
/-- the table of codes of _law_told, by the ledger -/
noncomputable def StepLed (led : Led) (oP : Obj) : Prop := oP = tabObj #[] ∨ ∃ c' oc vs t, oP = tabObj #[rawInt 219, rawInt 4, .ref c'] ∧ (c', oc) ∈ led ∧ oc.data = .fields vs ∧ vs[1]? = some (.str (Str.ofString "_law_told.<locals>.step") t)
theorem StepLed.tab {led : Led} {oP : Obj} {h : Heap} (x : StepLed led oP) (k : ∀ p ∈ led, h.get? p.1 = some p.2) : StepTab h oP := by
  rcases x with x | ⟨c', oc, vs, t, e1, e2, e3, e4⟩
  · exact .inl x
  · exact .inr ⟨c', e1, c', oc, vs, t, rfl, k _ e2, e3, e4⟩
theorem StepLed.of {led led' : Led} {oP : Obj} (x : StepLed led oP) (s : ∀ p ∈ led, p ∈ led') : StepLed led' oP := by
  rcases x with x | ⟨c', oc, vs, t, e1, e2, e3, e4⟩
  · exact .inl x
  · exact .inr ⟨c', oc, vs, t, e1, s _ e2, e3, e4⟩
theorem toldTab {P : Params} {h : Heap} (X : (hd.heap_1 P).In h) : CodeHd h 219 215 := codeHd_of_K X (by kernel_rfl)
local macro_rules | `(tactic| walk_at "call ref") => `(tactic| (refine Stop.out ?_))
theorem told_ok {w : World} {p : Program} {lo : List Str} {mean : ExcName → Option Value} {mg mb : Str → Option Value} {gd : Option (List Code)} {cn : Str} {cs : Scope} {a : Addr} {ccd : Value} {cl : List (Str × Addr)} {outer : List Env} {A₀ : Around} {base h₀ : Heap} {L : Addr} {m : Str → Option Value} {s : Shared} {Q E : Value → Shared → Prop}
    (fa sa : Addr) (fs : List FileV) (nm : Str) (t : Tok) (ts : List (Addr × Int)) (oP : Obj) (hnm : nm ∈ namesL) (hfs : fs.length ≤ 100) (hts : ts.length ≤ 100)
    (B : Below A₀ base outer h₀) (F : Fr h₀ L s.heap m) (X : (hd.heap_1 w.params).In h₀) (T : Top p lo mean mg mb h₀) (hk : cs.kind = .function) (N : News h₀ L s.heap [(215, oP)]) (hoP : StepTab s.heap oP) (hf : FilesAt s.heap fa fs) (hs : SrchAt s.heap sa ts)
    (hq : ∀ (h' : Heap) (tk' : Nat) (oP' : Obj) (new : Led), (∀ b o, b ≠ 215 → s.heap.get? b = some o → h'.get? b = some o) → h'.get? 215 = some oP' → Made s.heap h' new → (oP' = oP ∨ StepLed new oP') → Q (toldV fs nm (ts.map (·.2))) { s with heap := h', toks := tk' }) :
    wpAny (model PySem.Challenge.pw_pd0110_01 w) (ktrTop 440 2500 gd cn cs L a ccd cl outer) (call (.ref 220) [.ref fa, .ref sa, .str nm t]) Q E s := by
  refine wpAny_call ?_
  k_dflt (refine' enter_T (P := 215) (oP := oP) (binds := [(Str.ofString "files", .ref fa), (Str.ofString "searched", .ref sa), (Str.ofString "name", .str nm t)]) (fun z => if z = Str.ofString "searched" then some (.ref sa) else none) (fun z => if z = Str.ofString "name" then some (.str nm t) else if z = Str.ofString "files" then some (.ref fa) else none) ?k1 ?k2 ?k3 ?k5 ?kN ?kA ?kF ?kK ?k6 ?k7 ?k8 ?k9 ?kB ?nd ?hmF ?hcF ?_ ?c2 ?c3 ?c4; (case kA => exact rfl); (case kF => exact rfl); (case kK => assumption); (case k1 => k_asm); (case k2 => k_asm); (case k3 => k_asm); (case k5 => k_asm); (case kN => assumption); (case k6 => k_is); (case k7 => k_is); (case k8 => ktr_room); (case k9 => exact BindsTo.of_eq rfl); (case kB => intro n x hx; simp only [List.mem_cons, List.not_mem_nil, or_false] at hx; rcases hx with rfl | rfl | rfl; exact .inr ⟨rfl, rfl⟩; exact .inl rfl; exact .inr ⟨rfl, rfl⟩); (case nd => decide); (case hmF => funext z; rfl); (case hcF => funext z; rfl);  (case c2 => exact rfl); (case c3 => exact rfl); (case c4 => exact rfl); k_whole; intro g L' h' tk' cells F' N' hce Y' B' X' T' kk gP kh0 kg hPL; (try dsimp only); (try k_lift B'); (try k_fold))
  have Y2 : CellsAre _ [(Str.ofString "name", L' + 1 + 1), (Str.ofString "files", L' + 1)] cells := Y'
  obtain ⟨o2, o1, rfl, ho2, ho1⟩ := CellsAre.two Y2
  dsimp only [List.cons_append, List.nil_append] at N'
  have hcd := toldTab X'
  have hP0 : s.heap.get? 215 = some oP := (N _ (.head _)).1
  have kg' := kg
  have l0 : ∀ p ∈ [((215 : Addr), oP)], p.1 < L' := fun p hp => by cases hp with | head => exact hPL | tail _ h => cases h
  k_lt l0
  rcases hoP with rfl | ⟨c', rfl, hcr⟩
  · have hf' := hf.but kg hP0
    have hs' := hs.but kg hP0
    clear N Y' Y2 hce
    k_steps
    delta Stop
    rename Fr _ _ _ _ => F1
    rename News _ _ _ _ => N1
    rename _ = Data.fields _ => d1
    rename _ = some (Value.str _ _) => d2
    refine Cl.use (reduce_step fa sa _ fs nm ts hnm hfs hts) B' F1 X' N1 T' rfl (by k_units) (by k_units) ?hp ?_
    case hp =>
      exact ⟨⟨⟨_, _, _, _, L' + 1, L' + 1 + 1, (N1 _ (.head _)).1, codeRec_news N1 (.tail _ (.head _)) d1 d2, ⟨o1, (N1 (L' + 1, o1) (by k_mem)).1, ho1⟩, t, ⟨o2, (N1 (L' + 1 + 1, o2) (by k_mem)).1, ho2⟩⟩, hf'.up F1.keep⟩, hs'.up F1.keep⟩
    rintro r tl h2 tk2 ⟨rfl, rfl⟩ F2 N2 _ kp
    dsimp only [List.nil_append] at N2
    clear F1 N1
    have e215 := (N2 _ (show ((215 : Addr), tabObj _) ∈ _ by k_mem)).1
    k_steps
    rename_i c' oc vs t' ct dc hx tkx l1 l2 hy hz
    have ec := N2 (c', oc) (.tail _ (.head _))
    have cn : s.heap.get? c' = none := by
      cases q : s.heap.get? c' with
      | none => rfl
      | some o => have := kg c' o (Nat.ne_of_gt l1.2.2) q; rw [ec.2.2] at this; cases this
    all_goals exact hq _ _ _ [(c', oc)] (fun b o hb e => Fr.keep (by assumption) b o (kg b o hb e)) e215 (fun p hp => by rw [List.mem_singleton.mp hp]; exact ⟨ec.1, cn⟩) (.inr (.inr ⟨c', oc, vs, t', rfl, .head _, d1, d2⟩))
  · have hf' := hf.but kg hP0
    have hs' := hs.but kg hP0
    clear N Y' Y2 hce
    have hcr' := codeRec_but kg hP0 (fun q t e => by simp [rawInt] at e) hcr
    k_steps
    delta Stop
    rename Fr _ _ _ _ => F1
    rename News _ _ _ _ => N1
    refine Cl.use (reduce_step fa sa _ fs nm ts hnm hfs hts) B' F1 X' N1 T' rfl (by k_units) (by k_units) ?hp2 ?_
    case hp2 =>
      exact ⟨⟨⟨_, _, _, _, L' + 1, L' + 1 + 1, (N1 _ (.head _)).1, codeRec_upW hcr' F1.keep, ⟨o1, (N1 (L' + 1, o1) (by k_mem)).1, ho1⟩, t, ⟨o2, (N1 (L' + 1 + 1, o2) (by k_mem)).1, ho2⟩⟩, hf'.up F1.keep⟩, hs'.up F1.keep⟩
    rintro r tl h2 tk2 ⟨rfl, rfl⟩ F2 N2 _ kp
    dsimp only [List.nil_append] at N2
    clear F1 N1
    have e215 := (N2 _ (show ((215 : Addr), tabObj _) ∈ _ by k_mem)).1
    k_steps
    all_goals exact hq _ _ _ [] (fun b o hb e => Fr.keep (by assumption) b o (kg b o hb e)) e215 (fun _ h => nomatch h) (.inl rfl)
end Mine
end
section
open PySem PySem.W PySem.W.X PySem.Spec PySem.Calls PyProof.Rows
set_option maxRecDepth 100000
set_option maxHeartbeats 8000000
namespace Mine
theorem fold3Len {i : Int} (h0 : 0 ≤ i) (h1 : i < 4) : (List.getD [Str.ofString "/a", Str.ofString "/b", Str.ofString "/a/c", Str.ofString "/"] i.toNat Str.empty).length ≤ 20 := by
  have : i = 0 ∨ i = 1 ∨ i = 2 ∨ i = 3 := by omega
  rcases this with rfl | rfl | rfl | rfl <;> decide
local macro_rules | `(tactic| walk_at "subscriptTail") => `(tactic| (refine Stop.out ?_))
noncomputable abbrev tupO (vs : List Value) (k : Nat) : Obj := ⟨.type "tuple", none, .seq vs.toArray k, #[]⟩
theorem searched_ok (n : Int) (t : Tok) : Cl 440 2500 213 [.int n t] (fun _ => True) (fun _ r tl => ∃ D tr tf k, r = .ref D ∧ tl = [(D, tupO [.int (n.fmod 4) tr, .str (folS n) tf] k)]) := by
  unfold Cl; intros; rename_i hret
  obtain ⟨q0, q1⟩ := mod4 (n.fdiv 4)
  have hfl4 := fold3Len q0 q1
  have q2 : 0 ≤ (n.fdiv 16).fmod 3 := Int.fmod_nonneg_of_pos _ (by decide)
  have q3 : (n.fdiv 16).fmod 3 < 3 := Int.fmod_lt_of_pos _ (by decide)
  refine wpAny_call ?_
  k_dflt cell_enter
  k_steps
  delta Stop
  refine KTb.item_list (News.isList (by assumption) (by k_mem)) (.cons _ _ (.cons _ _ (.cons _ _ (.cons _ _ .nil)))) q0 q1 (by omega) ?_
  intro tf0 _
  k_steps
  delta Stop
  refine KTb.item_list (News.isList (by assumption) (by k_mem)) (.cons _ _ (.cons _ _ (.cons _ _ .nil))) q2 q3 (by omega) ?_
  intro tf1 _
  k_steps
  rename News _ _ _ _ => N1
  rename Fr _ _ _ _ => F1
  have e := N1 _ (.head _)
  exact hret _ [(_, tupO [.int (n.fmod 4) _, .str (folS n) _] _)] _ _ ⟨_, _, _, _, rfl, rfl⟩ F1.keep (fun p hp => by rw [List.mem_singleton.mp hp]; exact ⟨e.1, e.2.2⟩)
end Mine
end
section
open PySem PySem.W PySem.W.X PySem.Spec PySem.Calls PyProof.Rows
set_option maxRecDepth 100000
namespace Mine
/-- what a turn of a for over a range leaves: the ledger may have grown -/
noncomputable def GrowEnd (h₀ : Heap) (L : Addr) (J : (Str → Option Value) → Led → Prop) (I : Addr) (oI : Obj) (s₁ s₂ : Shared) : Prop :=
  ∃ h' tk m' news', s₂ = { s₁ with heap := h', toks := tk } ∧ Fr h₀ L h' m' ∧ News h₀ L h' ((I, oI) :: news') ∧ (∀ p ∈ news', p.1 ≠ I) ∧ J m' news'
noncomputable def GrowPost (h₀ : Heap) (L : Addr) (J : (Str → Option Value) → Led → Prop) (I : Addr) (oI : Obj) (s₁ : Shared) (Q : Flow → Shared → Prop) (f : Flow) (s₂ : Shared) : Prop :=
  match f with
  | .ret v => Q (.ret v) s₂
  | .brk => Q .next s₂
  | _ => GrowEnd h₀ L J I oI s₁ s₂
section
variable {prog : Program} {w : World} {A : Around} {E : Value → Shared → Prop} {s : Shared} {env : Env} {h₀ : Heap} {x : Str} {body : List Stmt} {Q : Flow → Shared → Prop}
/-- a for over a range of n, by an invariant; the ledger grows -/
theorem iter_RG {r : Addr} {b₀ : Int} {t₀ u₀ v₀ : Tok} {n : Nat} {m₀ : Str → Option Value} {news : Led} (J : Nat → (Str → Option Value) → Led → Prop)
    (hh : A.handled = none) (hr : IsRange s.heap r 0 b₀ 1 t₀ u₀ v₀) (hsmall : Builtin.Range.small 0 b₀ 1 = true) (hn : Builtin.Range.rangeSize 0 b₀ 1 = (n : Int)) (F : Fr h₀ env.locals s.heap m₀) (N : News h₀ env.locals s.heap news) (hj : J 0 m₀ news)
    (turn : ∀ i t m₁ news₁ h tk I oI, i < n → J i m₁ news₁ → (∀ p ∈ news₁, p.1 ≠ I) → Fr h₀ env.locals h (fun y => if y = x then some (.int (i : Int) t) else m₁ y) → News h₀ env.locals h ((I, oI) :: news₁) →
      wpAny (model prog w) A (execs body env) (GrowPost h₀ env.locals (J (i + 1)) I oI { s with heap := h, toks := tk } Q) E { s with heap := h, toks := tk })
    (done : ∀ m₁ news₁ h tk, J n m₁ news₁ → Fr h₀ env.locals h m₁ → News h₀ env.locals h news₁ → Q .next { s with heap := h, toks := tk }) :
    wpAny (model prog w) A (pyIter (.ref r)) (fun it s₂ => LoopAtV prog w A h₀ env x body Q E it s₂) E s := by
  refine wpAny_pyIter_range hr hsmall ?_
  have hI0 : h₀.get? s.heap.objs.size = none := next_is_new F
  refine ⟨_, _, _, n, _, _, m₀, news, J, rfl, Walks.range hh s.heap.objs.size 0 1 n, ?_, ?_, ?_, ?_, F.push _, (fun p hp => ⟨Heap.get?_push_of_some _ (N p hp).1, (N p hp).2⟩), hj, ?_, ?_⟩
  · intro hm; exact absurd F.ns.lt ((List.mem_singleton.mp hm) ▸ Nat.lt_irrefl _)
  · intro b hb
    rw [List.mem_singleton.mp hb]; exact hI0
  · intro p hp hq
    exact absurd (Heap.lt_size (N p hp).1) (by rw [List.mem_singleton.mp hq]; exact Nat.lt_irrefl _)
  · show IsRangeIter _ _ _ _ _
    have e1 : ((0 : Int) + ((0 : Nat) : Int) * 1) = 0 := rfl
    have e2 : ((n : Int) - ((0 : Nat) : Int)) = (n : Int) := by simp
    rw [e1, e2, ← hn]
    exact Heap.get?_push_size _ rfl
  · rintro i v m₁ news₁ s₁ own ⟨hh', tk', rfl⟩ hin ⟨t, rfl⟩ hJ hoff hown hget hall hst F₁ N₁
    have e : (0 : Int) + (i : Int) * 1 = (i : Int) := by omega
    rw [e] at F₁
    obtain ⟨oI, hoI⟩ : ∃ oI, hh'.get? s.heap.objs.size = some oI := ⟨_, hst⟩
    have hmem := hall _ (List.mem_singleton.mpr rfl) hI0 _ hoI
    have N₂ : News h₀ env.locals hh' ((s.heap.objs.size, oI) :: news₁) := fun p hp => by
      rcases List.mem_cons.mp hp with rfl | hp
      · exact N₁ _ (List.mem_append_left _ hmem)
      · exact N₁ _ (List.mem_append_right _ hp)
    have hne : ∀ p ∈ news₁, p.1 ≠ s.heap.objs.size := fun p hp q => hoff p hp (by rw [q]; exact List.mem_singleton.mpr rfl)
    refine wpAny_mono (turn i t m₁ news₁ hh' tk' _ oI hin hJ hne F₁ N₂) (fun f s₂ p => ?_) fun _ _ e => e
    have fin : GrowEnd h₀ env.locals (J (i + 1)) s.heap.objs.size oI { s with heap := hh', toks := tk' } s₂ → LoopStepU h₀ env.locals [s.heap.objs.size] own (J (i + 1)) { s with heap := hh', toks := tk' } .next s₂ := by
      rintro ⟨h', tk, m', news', e, F', N', hn, hm⟩
      refine ⟨rfl, h', tk, m', news', e, F', fun p hp => ?_, fun p hp hq => hn p hp (List.mem_singleton.mp hq), hm⟩
      rcases List.mem_append.mp hp with hp | hp
      · have h1 := hown p hp
        rw [List.mem_singleton] at h1
        have h2 := hget p hp
        rw [h1] at h2
        have h3 : p = (s.heap.objs.size, oI) := Prod.ext h1 (Option.some.inj (h2.symm.trans hoI))
        rw [h3]
        exact N' _ (.head _)
      · exact N' _ (.tail _ hp)
    cases f with
    | ret v => exact .ret p
    | brk => exact .brk p
    | next => exact .next (fin p)
    | cont => exact .cont (fin p)
  · rintro h' tk m' news' F' N' _ hm
    exact done m' news' h' tk hm F' N'
end
section
variable {prog : Program} {w : World} {A : Around} {E : Value → Shared → Prop} {s : Shared} {h₀ : Heap} {L : Addr} {m : Str → Option Value} {news : Led}
/-- the sum of a list of ints: some int -/
theorem sum_any {l : Addr} {items : Array Value} {Q : Value → Shared → Prop} (hh : A.handled = none) (F : Fr h₀ L s.heap m) (N : News h₀ L s.heap news) (hl : s.heap.IsList l items) (hv : ∀ v ∈ items, ∃ n t, v = .int n t)
    (hq : ∀ n t h' tk, Fr h₀ L h' m → News h₀ L h' news → Q (.int n t) { s with heap := h', toks := tk }) :
    wpAny (model prog w) A (call (.builtin "sum") [.ref l]) Q E s := by
  refine call_sum_walkG ?_
  refine wpAny_pyIter_list hl ?_
  have hlz : l < s.heap.objs.size := let ⟨_, e, _⟩ := hl; Heap.lt_size e
  have k1 : Keeps s.heap (s.heap.push { cls := .type "list_iterator", data := .fields #[.ref l, .int 0 0] }) := fun b o e => Heap.get?_push_of_some _ e
  refine ⟨_, _, _, items.size, _, _, fun j => match items[j]? with | some (.int n _) => n | _ => 0, rfl, Walks.list (show A.in1.handled = none from hh) s.heap.objs.size l (Nat.ne_of_lt hlz) items, ⟨⟨_, Heap.get?_push_size _ rfl, rfl, rfl⟩, hl.at fun o e => k1 _ o e⟩, ?_, fun i v h => ?_, ?_⟩
  · intro b hb
    show b < (s.heap.push _).objs.size
    rw [Heap.size_push]
    rcases List.mem_cons.mp hb with rfl | hb
    · exact Nat.lt_succ_self _
    · rw [List.mem_singleton.mp hb]; exact Nat.lt_succ_of_lt hlz
  · obtain ⟨n, t, rfl⟩ := hv v (Array.mem_of_getElem? h)
    exact ⟨t, by simp only [h]⟩
  · intro h' tk t' hk
    have k2 : Keeps s.heap h' := fun b o e => hk b o (fun q => by rw [List.mem_singleton.mp q] at e; exact absurd (Heap.lt_size e) (Nat.lt_irrefl _)) (k1 b o e)
    exact hq _ _ _ _ (F.kept k2) (N.grown k2)
end
theorem ints_mem : ∀ {vs : List Value} {ns : List Int}, IntsAre vs ns → ∀ v ∈ vs, ∃ n t, v = .int n t
  | _, _, .cons n t h, v, hv => by
    rcases List.mem_cons.mp hv with rfl | hv
    · exact ⟨n, t, rfl⟩
    · exact ints_mem h v hv
  | _, _, .nil, v, hv => by cases hv
end Mine
end
section
open PySem PySem.W PySem.W.X PySem.Spec PySem.Calls PyProof.Rows
set_option maxRecDepth 100000
set_option maxHeartbeats 8000000
namespace Mine
/-- what a ledger bears out -/
noncomputable def Sup (tl : Led) (P : Heap → Prop) : Prop := ∀ h : Heap, (∀ p ∈ tl, h.get? p.1 = some p.2) → P h
noncomputable def pathsL : List Str := [Str.ofString "/a/ls", Str.ofString "/b/ls", Str.ofString "/a/c/ls", Str.ofString "/ls", Str.ofString "/b/go", Str.ofString "/a/c/go", Str.ofString "/a/it", Str.ofString "/b/it"]
noncomputable def modesL : List Int := [32768, 40960, 16384, 4096].flatMap fun a => [64, 420, 457].map fun b => a + b
local macro_rules | `(tactic| walk_at "subscriptTail") => `(tactic| ((with_reducible show wpAny _ _ (subscriptTail _ _ (Value.ref _) (Value.int _ _)) _ _ _); (refine Stop.out ?_)))
local macro_rules | `(tactic| walk_at "call builtin:sum") => `(tactic| (refine Stop.out ?_))
local macro_rules | `(tactic| k_all) => `(tactic| (with_unfolding_all assumption))
local macro_rules | `(tactic| walk_at "pyIter ref") => `(tactic| ((with_reducible show wpAny _ _ (pyIter (Value.ref _)) (fun it s₂ => LoopAtV _ _ _ _ _ _ _ _ _ it s₂) _ _); refine Stop.out ?_))
noncomputable def filesJ (sa lf lp : Addr) (op : Obj) (i : Nat) (m : Str → Option Value) (nx : Led) : Prop :=
  (∃ (fs : List FileV) (n' : Nat) (tl : Led), nx = (lf, W.listOf (fs.map fun f => Value.ref f.a).toArray n') :: (lp, op) :: tl ∧ (∀ p ∈ tl, p.1 ≠ lf) ∧ fs.length = i ∧ (∀ f ∈ fs, f.mode ∈ modesL) ∧ ∀ f ∈ fs, ∃ k, (f.a, tupO [.str f.path f.pt, .int f.mode f.mt] k) ∈ tl) ∧
  ∀ z, z ≠ Str.ofString "k" → z ≠ Str.ofString "v" → m z = (if z = Str.ofString "files" then some (.ref lf) else if z = Str.ofString "paths" then some (.ref lp) else if z = Str.ofString "script" then some (.ref sa) else none)
theorem slice_ints_any {vs : List Value} {ns : List Int} (h : IntsAre vs ns) (lo hi st : Option Int) : ∀ v ∈ slicePick vs.toArray lo hi st, ∃ n t, v = .int n t := by
  intro v hv
  unfold slicePick at hv
  rw [List.mem_toArray, List.mem_filterMap] at hv
  obtain ⟨k, _, e⟩ := hv
  exact ints_mem h v (by simpa using Array.mem_of_getElem? e)
theorem mode_mem (v : Int) : List.getD [32768, 40960, 16384, 4096] (v.fmod 4).toNat (0 : Int) + List.getD [64, 420, 457] ((v.fdiv 4).fmod 3).toNat (0 : Int) ∈ modesL := by
  have a := mod4 v
  have b : 0 ≤ (v.fdiv 4).fmod 3 ∧ (v.fdiv 4).fmod 3 < 3 := ⟨Int.fmod_nonneg_of_pos _ (by decide), Int.fmod_lt_of_pos _ (by decide)⟩
  have h : ∀ i < 4, ∀ j < 3, List.getD [32768, 40960, 16384, 4096] i (0 : Int) + List.getD [64, 420, 457] j (0 : Int) ∈ modesL := by decide
  exact h _ (by omega) _ (by omega)
theorem lookup1 {z a : Str} {v : Value} : List.lookup z [(a, v)].reverse = if z = a then some v else none := by
  show (match z == a with | true => some v | false => List.lookup z []) = _
  by_cases h : z = a
  · simp [h]
  · have : (z == a) = false := by simpa using h
    simp [this, h]
theorem files_ok (sa : Addr) (vs : List Value) (ns : List Int) : Cl 440 2500 206 [.ref sa] (fun h => h.IsList sa vs.toArray ∧ IntsAre vs ns ∧ vs.length ≤ 16) (fun _ r tl => ∃ fa fs, r = .ref fa ∧ Sup tl (fun h => FilesAt h fa fs) ∧ fs.length ≤ 100 ∧ ∀ f ∈ fs, f.mode ∈ modesL) := by
  unfold Cl; intros; rename_i hpre hret
  obtain ⟨hsl, hints, hsz⟩ := hpre
  refine wpAny_call ?_
  k_dflt (refine' enter_S (binds := [(Str.ofString "script", .ref sa)]) ?k1 ?k2 ?k3 ?k5 ?kA ?kF ?kK ?k6 ?k7 ?k8 ?k9 ?kB ?_ ?c2 ?c3 ?c4 ?c5; (case kA => exact rfl); (case kF => exact rfl); (case kK => assumption); (case k1 => k_asm); (case k2 => k_asm); (case k3 => k_asm); (case k5 => k_asm); (case k6 => k_is); (case k7 => k_is); (case k8 => ktr_room); (case k9 => exact BindsTo.of_eq rfl); (case c5 => decide); (case kB => exact locs rfl); (case c2 => exact rfl); (case c3 => exact rfl); (case c4 => exact rfl); k_whole; intro L' h' F' N' B' X' T'; (try dsimp only); (try k_lift B'); (try k_fold))
  k_steps
  delta Stop
  rename News _ _ _ _ => N1
  rename Fr _ _ _ _ => F1
  rename IsRange _ _ _ _ _ _ _ _ => hr
  rename_i lp _ _ _ _ lf _ hlt _ F0 N0 _ _ _ _ _ _
  clear F0 N0
  refine iter_RG (filesJ sa lf lp _) rfl hr (n := 8) (by decide) (by rfl) F1 N1 ⟨⟨[], 0, [], rfl, (fun _ h => nomatch h), rfl, (fun _ h => nomatch h), (fun _ h => nomatch h)⟩, fun z _ _ => by show (if _ then _ else if _ then _ else _) = _; rw [lookup1]⟩ ?turn ?done
  case turn =>
    clear N1 F1
    rintro i t m₁ news₁ h tk I oI hi ⟨⟨fs, n', tl, rfl, htl, hfl, hfm, hft⟩, hm⟩ hoffI F2 N2
    rw [map2 hm] at F2
    have hoff : ∀ p ∈ tl, p.1 ≠ lf := htl
    have hi0 : (0 : Int) ≤ (i : Int) := Int.natCast_nonneg i
    have hi8 : (i : Int) < 8 := by omega
    have hszf : (fs.map fun f => Value.ref f.a).toArray.size ≤ sizeLine := by rw [List.size_toArray, List.length_map, sizeLine_eq]; omega
    have hIlf : I ≠ lf := (hoffI _ (.head _)).symm
    k_steps
    delta Stop
    refine item_list_intsR (ns := [1, 0, 4, 8, 4, 8, 3, 2]) (News.isList (by assumption) (.head _)) (.cons _ _ (.cons _ _ (.cons _ _ (.cons _ _ (.cons _ _ (.cons _ _ (.cons _ _ (.cons _ _ .nil)))))))) hi0 hi8 (by omega) ?_
    intro t1
    k_steps
    delta Stop
    rename News _ _ _ _ => N3
    rename Fr _ _ _ _ => F3
    refine sum_any rfl F3 N3 ⟨_, (N3 _ (.head _)).1, rfl, _, rfl⟩ (slice_ints_any hints _ _ _) ?_
    intro n tn h' tk' F4 N4
    clear F3 N3
    k_steps
    delta Stop
    refine KTb.item_list (ws := pathsL) (News.isList (by assumption) (by k_mem)) (.cons _ _ (.cons _ _ (.cons _ _ (.cons _ _ (.cons _ _ (.cons _ _ (.cons _ _ (.cons _ _ .nil)))))))) hi0 hi8 (by omega) ?_
    intro tp hp
    k_steps
    delta Stop
    generalize hV : List.getD [1, 0, 4, 8, 4, 8, 3, 2] (i : Int).toNat (0 : Int) + n = V at *
    refine item_list_intsR (ns := [32768, 40960, 16384, 4096]) (News.isList (by assumption) (.head _)) (.cons _ _ (.cons _ _ (.cons _ _ (.cons _ _ .nil)))) (mod4 V).1 (mod4 V).2 (by have := mod4 V; omega) ?_
    intro t2
    k_steps
    delta Stop
    have b3 : 0 ≤ (V.fdiv 4).fmod 3 ∧ (V.fdiv 4).fmod 3 < 3 := ⟨Int.fmod_nonneg_of_pos _ (by decide), Int.fmod_lt_of_pos _ (by decide)⟩
    refine item_list_intsR (ns := [64, 420, 457]) (News.isList (by assumption) (.head _)) (.cons _ _ (.cons _ _ (.cons _ _ .nil))) b3.1 b3.2 (by omega) ?_
    intro t3
    k_steps
    rename News _ _ _ _ => N5
    rename Fr _ _ _ _ => F5
    rename_i D h5 l1
    have hlf := N5 (lf, W.listOf (fs.map fun f => Value.ref f.a).toArray n') (by k_mem)
    have hlp := N5 (lp, W.listOf _ 0) (by k_mem)
    have hI := N5 (I, oI) (by k_mem)
    have hD := N5 _ (.head _)
    have htl' : ∀ p ∈ tl, _ := fun p hp => N5 p (by simp [hp])
    have hDlf : D ≠ lf := Nat.ne_of_gt l1.2.2.2.2.2.1
    have hDI : D ≠ I := Nat.ne_of_gt l1.2.2.2.2.1
    obtain ⟨md, tm, hmd, hDe⟩ : ∃ md tm, md ∈ modesL ∧ h5.get? D = some (tupO [.str (List.getD pathsL (i : Int).toNat Str.empty) tp, .int md tm] 0) := ⟨_, _, mode_mem V, hD.1⟩
    refine append_at hlf.1 (fun h6 hs6 e6 => ?_) hszf
    refine wpAny_execs_nil ?_
    refine ⟨h6, _, _, (lf, W.listOf ((fs ++ [FileV.mk D (List.getD pathsL (i : Int).toNat Str.empty) tp md tm]).map fun f => Value.ref f.a).toArray (n' + 1)) :: (lp, _) :: (D, tupO [.str (List.getD pathsL (i : Int).toNat Str.empty) tp, .int md tm] 0) :: tl, rfl, F5.change hs6 hlf.2.1 hlf.2.2, ?news, ?off, ⟨⟨fs ++ [FileV.mk D (List.getD pathsL (i : Int).toNat Str.empty) tp md tm], n' + 1, (D, tupO [.str (List.getD pathsL (i : Int).toNat Str.empty) tp, .int md tm] 0) :: tl, rfl, ?o1, ?o2, ?o3, ?o4⟩, ?map⟩⟩
    case news =>
      intro p hp
      have up : ∀ b o, b ≠ lf → h5.get? b = some o → h6.get? b = some o := fun b o hb e => (hs6.2 b hb).trans e
      rcases List.mem_cons.mp hp with rfl | hp
      · exact ⟨up _ _ hIlf hI.1, hI.2⟩
      · rcases List.mem_cons.mp hp with rfl | hp
        · exact ⟨e6.trans (by simp), hlf.2⟩
        · rcases List.mem_cons.mp hp with rfl | hp
          · exact ⟨up _ _ (Nat.ne_of_lt hlt) hlp.1, hlp.2⟩
          · rcases List.mem_cons.mp hp with rfl | hp
            · exact ⟨up _ _ hDlf hDe, hD.2⟩
            · exact ⟨up _ _ (htl p hp) (htl' p hp).1, (htl' p hp).2⟩
    case off =>
      intro p hp
      rcases List.mem_cons.mp hp with rfl | hp
      · exact hIlf.symm
      · rcases List.mem_cons.mp hp with rfl | hp
        · exact hoffI _ (.tail _ (.head _))
        · rcases List.mem_cons.mp hp with rfl | hp
          · exact hDI
          · exact hoffI _ (.tail _ (.tail _ hp))
    case o1 =>
      intro p hp
      rcases List.mem_cons.mp hp with rfl | hp
      · exact hDlf
      · exact htl p hp
    case o2 => simp [hfl]
    case o3 =>
      intro f hf
      rcases List.mem_append.mp hf with hf | hf
      · exact hfm f hf
      · rw [List.mem_singleton.mp hf]; exact hmd
    case o4 =>
      intro f hf
      rcases List.mem_append.mp hf with hf | hf
      · obtain ⟨k, hk⟩ := hft f hf
        exact ⟨k, .tail _ hk⟩
      · rw [List.mem_singleton.mp hf]; exact ⟨0, .head _⟩
    case map =>
      intro z h1 h2
      simp only [if_neg h1, if_neg h2]
  case done =>
    rintro m₁ news₁ h tk ⟨⟨fs, n', tl, rfl, htl, hfl, hfm, hft⟩, hm⟩ F2 N2
    rw [map2 hm] at F2
    clear N1 F1
    k_steps
    all_goals refine hret _ ((lf, W.listOf (fs.map fun f => Value.ref f.a).toArray n') :: (lp, _) :: tl) _ _ ⟨lf, fs, rfl, fun h' hh => ⟨⟨_, hh _ (.head _), rfl, _, rfl⟩, fun f hf => ?_⟩, by omega, hfm⟩ (Fr.keep (by assumption)) (fun p hp => ⟨(N2 p hp).1, (N2 p hp).2.2⟩)
    all_goals
      obtain ⟨k, hk⟩ := hft f hf
      exact ⟨_, hh _ (.tail _ (.tail _ hk)), rfl, _, rfl⟩
end Mine
end
section
open PySem PySem.W PySem.W.X PySem.Spec PySem.Calls PyProof.Rows
set_option maxRecDepth 100000
set_option maxHeartbeats 8000000
namespace Mine
noncomputable def lawD : Arguments × List Stmt × Scope := defNamed mainBody (Str.ofString "law")
noncomputable abbrev lawCl (L : Addr) : List (Str × Addr) := [(Str.ofString "order", L + 1 + 1 + 1), (Str.ofString "drawn", L + 1 + 1), (Str.ofString "files", L + 1)]
noncomputable abbrev lawEnv (sc : Scope) (L a : Addr) : Env := envX (Str.ofString "law") sc L a (.ref 229) (lawCl L)
noncomputable abbrev lawTop (sc : Scope) (L a : Addr) (gd : Option (List Code)) (outer : List Env) : Around := ktrTop 430 2400 gd (Str.ofString "law") sc L a (.ref 229) (lawCl L) outer
/-- the law's state between its statements -/
structure LawSt (h₀ : Heap) (L : Addr) (m : Str → Option Value) (o1 o2 o3 p1 p2 p3 : Obj) (tl : Led) (h : Heap) : Prop where
  F : Fr h₀ L h m
  N : News h₀ L h ((L + 1 + 1 + 1, o3) :: (L + 1 + 1, o2) :: (L + 1, o1) :: (215, p1) :: (23, p2) :: (227, p3) :: tl)
  low : (215 : Addr) < L ∧ (23 : Addr) < L ∧ (227 : Addr) < L
  off : ∀ p ∈ tl, p.1 ≠ L + 1 + 1 + 1 ∧ p.1 ≠ L + 1 + 1 ∧ p.1 ≠ L + 1 ∧ p.1 ≠ 215 ∧ p.1 ≠ 23 ∧ p.1 ≠ 227
theorem Fr.but {h₀ h h' : Heap} {L b : Addr} {m : Str → Option Value} (F : Fr h₀ L h m) (k : ∀ c o, c ≠ b → h.get? c = some o → h'.get? c = some o) (h0 : h₀.get? b = none) (hL : L ≠ b) : Fr h₀ L h' m :=
  ⟨F.ns.at' fun o e => k _ o hL e, fun c o e => k c o (fun q => by rw [q, h0] at e; cases e) (F.keep c o e), F.above⟩
section
variable {h₀ h h' : Heap} {L : Addr} {m : Str → Option Value} {o1 o2 o3 p1 p2 p3 o : Obj} {tl : Led}
theorem LawSt.tail (S : LawSt h₀ L m o1 o2 o3 p1 p2 p3 tl h) : News h₀ L h tl := fun p hp => S.N p (.tail _ (.tail _ (.tail _ (.tail _ (.tail _ (.tail _ hp))))))
theorem LawSt.mk' (F : Fr h₀ L h m) (low : (215 : Addr) < L ∧ (23 : Addr) < L ∧ (227 : Addr) < L) (off : ∀ p ∈ tl, p.1 ≠ L + 1 + 1 + 1 ∧ p.1 ≠ L + 1 + 1 ∧ p.1 ≠ L + 1 ∧ p.1 ≠ 215 ∧ p.1 ≠ 23 ∧ p.1 ≠ 227)
    (n3 : h.get? (L + 1 + 1 + 1) = some o3) (n2 : h.get? (L + 1 + 1) = some o2) (n1 : h.get? (L + 1) = some o1) (q1 : h.get? 215 = some p1) (q2 : h.get? 23 = some p2) (q3 : h.get? 227 = some p3)
    (z1 : h₀.get? 215 = none) (z2 : h₀.get? 23 = none) (z3 : h₀.get? 227 = none) (T : News h₀ L h tl) : LawSt h₀ L m o1 o2 o3 p1 p2 p3 tl h := by
  have fr : ∀ b, L < b → h₀.get? b = none := fun b hb => Heap.get?_none_of_le (Nat.le_trans F.above (Nat.le_of_lt hb))
  have l1 : L < L + 1 := Nat.lt_succ_self L
  have l2 : L < L + 1 + 1 := Nat.lt_succ_of_lt l1
  have l3 : L < L + 1 + 1 + 1 := Nat.lt_succ_of_lt l2
  refine ⟨F, fun p hp => ?_, low, off⟩
  simp only [List.mem_cons] at hp
  rcases hp with rfl | rfl | rfl | rfl | rfl | rfl | hp
  · exact ⟨n3, Nat.ne_of_gt l3, fr _ l3⟩
  · exact ⟨n2, Nat.ne_of_gt l2, fr _ l2⟩
  · exact ⟨n1, Nat.ne_of_gt l1, fr _ l1⟩
  · exact ⟨q1, Nat.ne_of_lt low.1, z1⟩
  · exact ⟨q2, Nat.ne_of_lt low.2.1, z2⟩
  · exact ⟨q3, Nat.ne_of_lt low.2.2, z3⟩
  · exact T p hp
theorem LawSt.g3 (S : LawSt h₀ L m o1 o2 o3 p1 p2 p3 tl h) : h.get? (L + 1 + 1 + 1) = some o3 ∧ L + 1 + 1 + 1 ≠ L ∧ h₀.get? (L + 1 + 1 + 1) = none := S.N _ (.head _)
theorem LawSt.g2 (S : LawSt h₀ L m o1 o2 o3 p1 p2 p3 tl h) : h.get? (L + 1 + 1) = some o2 ∧ L + 1 + 1 ≠ L ∧ h₀.get? (L + 1 + 1) = none := S.N _ (.tail _ (.head _))
theorem LawSt.g1 (S : LawSt h₀ L m o1 o2 o3 p1 p2 p3 tl h) : h.get? (L + 1) = some o1 ∧ L + 1 ≠ L ∧ h₀.get? (L + 1) = none := S.N _ (.tail _ (.tail _ (.head _)))
theorem LawSt.t1 (S : LawSt h₀ L m o1 o2 o3 p1 p2 p3 tl h) : h.get? 215 = some p1 ∧ (215 : Addr) ≠ L ∧ h₀.get? 215 = none := S.N _ (.tail _ (.tail _ (.tail _ (.head _))))
theorem LawSt.t2 (S : LawSt h₀ L m o1 o2 o3 p1 p2 p3 tl h) : h.get? 23 = some p2 ∧ (23 : Addr) ≠ L ∧ h₀.get? 23 = none := S.N _ (.tail _ (.tail _ (.tail _ (.tail _ (.head _)))))
theorem LawSt.t3 (S : LawSt h₀ L m o1 o2 o3 p1 p2 p3 tl h) : h.get? 227 = some p3 ∧ (227 : Addr) ≠ L ∧ h₀.get? 227 = none := S.N _ (.tail _ (.tail _ (.tail _ (.tail _ (.tail _ (.head _))))))
theorem newsBut {b : Addr} (T : News h₀ L h tl) (k : ∀ c o, c ≠ b → h.get? c = some o → h'.get? c = some o) (hb : ∀ p ∈ tl, p.1 ≠ b) : News h₀ L h' tl := fun p hp => ⟨k _ _ (hb p hp) (T p hp).1, (T p hp).2⟩
theorem LawSt.c1 (S : LawSt h₀ L m o1 o2 o3 p1 p2 p3 tl h) (k : ∀ c q, c ≠ L + 1 → h.get? c = some q → h'.get? c = some q) (e : h'.get? (L + 1) = some o) : LawSt h₀ L m o o2 o3 p1 p2 p3 tl h' := by
  have l := S.low
  have z : (215 : Addr) ≠ L + 1 ∧ (23 : Addr) ≠ L + 1 ∧ (227 : Addr) ≠ L + 1 ∧ L + 1 + 1 ≠ L + 1 ∧ L + 1 + 1 + 1 ≠ L + 1 := ⟨Nat.ne_of_lt (Nat.lt_succ_of_lt l.1), Nat.ne_of_lt (Nat.lt_succ_of_lt l.2.1), Nat.ne_of_lt (Nat.lt_succ_of_lt l.2.2), Nat.succ_ne_self _, Nat.ne_of_gt (Nat.lt_succ_of_lt (Nat.lt_succ_self _))⟩
  exact .mk' (Fr.but S.F k S.g1.2.2 S.g1.2.1.symm) l S.off (k _ _ z.2.2.2.2 S.g3.1) (k _ _ z.2.2.2.1 S.g2.1) e (k _ _ z.1 S.t1.1) (k _ _ z.2.1 S.t2.1) (k _ _ z.2.2.1 S.t3.1) S.t1.2.2 S.t2.2.2 S.t3.2.2 (newsBut S.tail k fun p hp => (S.off p hp).2.2.1)
theorem LawSt.c2 (S : LawSt h₀ L m o1 o2 o3 p1 p2 p3 tl h) (k : ∀ c q, c ≠ L + 1 + 1 → h.get? c = some q → h'.get? c = some q) (e : h'.get? (L + 1 + 1) = some o) : LawSt h₀ L m o1 o o3 p1 p2 p3 tl h' := by
  have l := S.low
  have z : (215 : Addr) ≠ L + 1 + 1 ∧ (23 : Addr) ≠ L + 1 + 1 ∧ (227 : Addr) ≠ L + 1 + 1 ∧ L + 1 ≠ L + 1 + 1 ∧ L + 1 + 1 + 1 ≠ L + 1 + 1 := ⟨Nat.ne_of_lt (Nat.lt_succ_of_lt (Nat.lt_succ_of_lt l.1)), Nat.ne_of_lt (Nat.lt_succ_of_lt (Nat.lt_succ_of_lt l.2.1)), Nat.ne_of_lt (Nat.lt_succ_of_lt (Nat.lt_succ_of_lt l.2.2)), Nat.ne_of_lt (Nat.lt_succ_self _), Nat.succ_ne_self _⟩
  exact .mk' (Fr.but S.F k S.g2.2.2 S.g2.2.1.symm) l S.off (k _ _ z.2.2.2.2 S.g3.1) e (k _ _ z.2.2.2.1 S.g1.1) (k _ _ z.1 S.t1.1) (k _ _ z.2.1 S.t2.1) (k _ _ z.2.2.1 S.t3.1) S.t1.2.2 S.t2.2.2 S.t3.2.2 (newsBut S.tail k fun p hp => (S.off p hp).2.1)
theorem LawSt.c3 (S : LawSt h₀ L m o1 o2 o3 p1 p2 p3 tl h) (k : ∀ c q, c ≠ L + 1 + 1 + 1 → h.get? c = some q → h'.get? c = some q) (e : h'.get? (L + 1 + 1 + 1) = some o) : LawSt h₀ L m o1 o2 o p1 p2 p3 tl h' := by
  have l := S.low
  have z : (215 : Addr) ≠ L + 1 + 1 + 1 ∧ (23 : Addr) ≠ L + 1 + 1 + 1 ∧ (227 : Addr) ≠ L + 1 + 1 + 1 ∧ L + 1 ≠ L + 1 + 1 + 1 ∧ L + 1 + 1 ≠ L + 1 + 1 + 1 := ⟨Nat.ne_of_lt (Nat.lt_succ_of_lt (Nat.lt_succ_of_lt (Nat.lt_succ_of_lt l.1))), Nat.ne_of_lt (Nat.lt_succ_of_lt (Nat.lt_succ_of_lt (Nat.lt_succ_of_lt l.2.1))), Nat.ne_of_lt (Nat.lt_succ_of_lt (Nat.lt_succ_of_lt (Nat.lt_succ_of_lt l.2.2))), Nat.ne_of_lt (Nat.lt_succ_of_lt (Nat.lt_succ_self _)), Nat.ne_of_lt (Nat.lt_succ_self _)⟩
  exact .mk' (Fr.but S.F k S.g3.2.2 S.g3.2.1.symm) l S.off e (k _ _ z.2.2.2.2 S.g2.1) (k _ _ z.2.2.2.1 S.g1.1) (k _ _ z.1 S.t1.1) (k _ _ z.2.1 S.t2.1) (k _ _ z.2.2.1 S.t3.1) S.t1.2.2 S.t2.2.2 S.t3.2.2 (newsBut S.tail k fun p hp => (S.off p hp).1)
theorem LawSt.d1 (S : LawSt h₀ L m o1 o2 o3 p1 p2 p3 tl h) (k : ∀ c q, c ≠ 215 → h.get? c = some q → h'.get? c = some q) (e : h'.get? 215 = some o) : LawSt h₀ L m o1 o2 o3 o p2 p3 tl h' := by
  have l := S.low
  have z : ∀ b, L < b → b ≠ 215 := fun b hb => Nat.ne_of_gt (Nat.lt_trans l.1 hb)
  have l1 : L < L + 1 := Nat.lt_succ_self L
  exact .mk' (Fr.but S.F k S.t1.2.2 S.t1.2.1.symm) l S.off (k _ _ (z _ (Nat.lt_succ_of_lt (Nat.lt_succ_of_lt l1))) S.g3.1) (k _ _ (z _ (Nat.lt_succ_of_lt l1)) S.g2.1) (k _ _ (z _ l1) S.g1.1) e (k _ _ (by decide) S.t2.1) (k _ _ (by decide) S.t3.1) S.t1.2.2 S.t2.2.2 S.t3.2.2 (newsBut S.tail k fun p hp => (S.off p hp).2.2.2.1)
theorem LawSt.d2 (S : LawSt h₀ L m o1 o2 o3 p1 p2 p3 tl h) (k : ∀ c q, c ≠ 23 → h.get? c = some q → h'.get? c = some q) (e : h'.get? 23 = some o) : LawSt h₀ L m o1 o2 o3 p1 o p3 tl h' := by
  have l := S.low
  have z : ∀ b, L < b → b ≠ 23 := fun b hb => Nat.ne_of_gt (Nat.lt_trans l.2.1 hb)
  have l1 : L < L + 1 := Nat.lt_succ_self L
  exact .mk' (Fr.but S.F k S.t2.2.2 S.t2.2.1.symm) l S.off (k _ _ (z _ (Nat.lt_succ_of_lt (Nat.lt_succ_of_lt l1))) S.g3.1) (k _ _ (z _ (Nat.lt_succ_of_lt l1)) S.g2.1) (k _ _ (z _ l1) S.g1.1) (k _ _ (by decide) S.t1.1) e (k _ _ (by decide) S.t3.1) S.t1.2.2 S.t2.2.2 S.t3.2.2 (newsBut S.tail k fun p hp => (S.off p hp).2.2.2.2.1)
theorem LawSt.up (S : LawSt h₀ L m o1 o2 o3 p1 p2 p3 tl h) (k : Keeps h h') : LawSt h₀ L m o1 o2 o3 p1 p2 p3 tl h' := ⟨S.F.kept k, fun p hp => ⟨k _ _ (S.N p hp).1, (S.N p hp).2⟩, S.low, S.off⟩
/-- objects made since are laid into the ledger -/
theorem LawSt.add {new : Led} (S : LawSt h₀ L m o1 o2 o3 p1 p2 p3 tl h) (k : Keeps h h') (M : Made h h' new) : LawSt h₀ L m o1 o2 o3 p1 p2 p3 (new ++ tl) h' := by
  have S' := S.up k
  have ne : ∀ p ∈ new, ∀ b o, h.get? b = some o → p.1 ≠ b := fun p hp b o e q => by have := (M p hp).2; rw [q, e] at this; cases this
  refine .mk' S'.F S.low ?_ S'.g3.1 S'.g2.1 S'.g1.1 S'.t1.1 S'.t2.1 S'.t3.1 S.t1.2.2 S.t2.2.2 S.t3.2.2 ?_
  · intro p hp
    rcases List.mem_append.mp hp with hp | hp
    · exact ⟨ne p hp _ _ S.g3.1, ne p hp _ _ S.g2.1, ne p hp _ _ S.g1.1, ne p hp _ _ S.t1.1, ne p hp _ _ S.t2.1, ne p hp _ _ S.t3.1⟩
    · exact S.off p hp
  · intro p hp
    rcases List.mem_append.mp hp with hp | hp
    · refine ⟨(M p hp).1, ?_, ?_⟩
      · obtain ⟨o, _, _, e, _⟩ := S.F.ns
        exact ne p hp _ _ e
      · cases q : h₀.get? p.1 with
        | none => rfl
        | some o => exact absurd rfl (ne p hp _ _ (S.F.keep _ _ q))
    · exact S'.tail p hp
theorem Sup.of {tl tl' : Led} {P : Heap → Prop} (x : Sup tl P) (s : ∀ p ∈ tl, p ∈ tl') : Sup tl' P := fun h hh => x h fun p hp => hh p (s p hp)
end
theorem News.filter {h₀ h : Heap} {L : Addr} {a b : Led} (N : News h₀ L h a) (s : ∀ p ∈ b, p ∈ a) : News h₀ L h b := fun p hp => N p (s p hp)
section
variable {w : World} {p : Program} {lo : List Str} {mean : ExcName → Option Value} {mg mb : Str → Option Value} {gd : Option (List Code)} {a : Addr} {outer : List Env} {A₀ : Around} {base h₀ : Heap} {L : Addr} {m : Str → Option Value} {s : Shared} {Q : Flow → Shared → Prop} {E : Value → Shared → Prop}
local macro_rules | `(tactic| walk_at "call ref") => `(tactic| (refine Stop.out ?_))
local macro_rules | `(tactic| walk_at "storeName") => `(tactic| (refine Stop.out ?_))
theorem st_files {sa : Addr} {vs : List Value} {ns : List Int} {o1 o2 o3 p1 p2 p3 : Obj}
    (B : Below A₀ base outer h₀) (X : (hd.heap_1 w.params).In h₀) (T : Top p lo mean mg mb h₀) (hl : h₀.IsList sa vs.toArray) (hi : IntsAre vs ns) (hm : m = fun y => if y = Str.ofString "script" then some (.ref sa) else none)
    (hn : ns.length ≤ 63) (S : LawSt h₀ L m o1 o2 o3 p1 p2 p3 [] s.heap) (h1 : o1.data = .cell none)
    (hq : ∀ fa fs tl o1' h' tk', LawSt h₀ L m o1' o2 o3 p1 p2 p3 tl h' → o1'.data = .cell (some (.ref fa)) → Sup tl (fun h => FilesAt h fa fs) → fs.length ≤ 100 → (∀ f ∈ fs, f.mode ∈ modesL) → Q .next { s with heap := h', toks := tk' }) :
    wpAny (model PySem.Challenge.pw_pd0110_01 w) (lawTop lawD.2.2 L a gd outer) (exec (lawD.2.1.getD 0 (.Pass ⟨0, 0, 0, 0⟩)) (lawEnv lawD.2.2 L a)) Q E s := by
  obtain ⟨sd, hsd⟩ : ∃ sd, sd = lawD.2.1.getD 0 (.Pass ⟨0, 0, 0, 0⟩) := ⟨_, rfl⟩
  obtain ⟨sc, hsc⟩ : ∃ sc, sc = lawD.2.2 := ⟨_, rfl⟩
  rw [← hsd, ← hsc]
  conv at hsd => rhs; whnf
  conv at hsc => rhs; whnf
  subst hsd hsc
  obtain ⟨F, N, low, off⟩ := S
  subst hm
  clear off
  have l0 : ∀ q ∈ [((215 : Addr), p1), (23, p2), (227, p3)], q.1 < L := fun q hq => by simp only [List.mem_cons, List.not_mem_nil, or_false] at hq; rcases hq with rfl | rfl | rfl <;> first | exact low.1 | exact low.2.1 | exact low.2.2
  k_lt l0
  k_steps
  all_goals delta Stop
  rename Fr _ _ _ _ => F1
  rename News _ _ _ _ => N1
  rename IntsAre _ (List.take _ _) => hI1
  refine Cl.use (files_ok _ _ (ns.take 16)) B F1 X N1 T rfl (by k_units) (by k_units) ⟨N1.isList (.head _), hI1, ?len⟩ ?_
  case len => rw [hI1.length, List.length_take]; omega
  rintro r tl h2 tk2 ⟨fa, fs, rfl, hsup, hlen, hmodes⟩ F2 N2 off2 kp
  have ne : ∀ p ∈ tl, ∀ q ∈ [(L + 1 + 1 + 1, o3), (L + 1 + 1, o2), (L + 1, o1), ((215 : Addr), p1), (23, p2), (227, p3)], p.1 ≠ q.1 := fun p hp q hq => (off2 q (.tail _ hq) p hp).symm
  have S2 : LawSt h₀ L _ o1 o2 o3 p1 p2 p3 tl h2 := ⟨F2, fun p hp => N2 p (by
      simp only [List.mem_append, List.mem_cons, List.not_mem_nil, or_false] at hp ⊢
      rcases hp with h | h | h | h | h | h | h <;> simp [h]), low, fun p hp => ⟨ne p hp _ (.head _), ne p hp _ (.tail _ (.head _)), ne p hp _ (.tail _ (.tail _ (.head _))), ne p hp _ (.tail _ (.tail _ (.tail _ (.head _)))), ne p hp _ (.tail _ (.tail _ (.tail _ (.tail _ (.head _))))), ne p hp _ (.tail _ (.tail _ (.tail _ (.tail _ (.tail _ (.head _))))))⟩⟩
  clear F2 N2 off2 ne F1 N1
  refine wpAny_storeName_cell rfl rfl rfl ⟨o1, S2.g1.1, h1⟩ fun h3 hv hs => ?_
  obtain ⟨o1', e1, d1⟩ := hv
  exact hq fa fs tl o1' h3 _ (S2.c1 (fun c o hc e => hs.extBut c o hc e) e1) d1 hsup hlen hmodes
end
end Mine
end
section
open PySem PySem.W PySem.W.X PySem.Spec PySem.Calls PyProof.Rows
set_option maxRecDepth 100000
set_option maxHeartbeats 8000000
namespace Mine
section
variable {w : World} {p : Program} {lo : List Str} {mean : ExcName → Option Value} {mg mb : Str → Option Value} {gd : Option (List Code)} {a : Addr} {outer : List Env} {A₀ : Around} {base h₀ : Heap} {L : Addr} {m : Str → Option Value} {s : Shared} {Q : Flow → Shared → Prop} {E : Value → Shared → Prop}
local macro_rules | `(tactic| walk_at "storeName") => `(tactic| (refine Stop.out ?_))
theorem st_drawn {sa : Addr} {vs : List Value} {ns : List Int} {o1 o2 o3 p1 p2 p3 : Obj} {tl : Led}
    (B : Below A₀ base outer h₀) (X : (hd.heap_1 w.params).In h₀) (T : Top p lo mean mg mb h₀) (hl : h₀.IsList sa vs.toArray) (hi : IntsAre vs ns) (hm : m = fun y => if y = Str.ofString "script" then some (.ref sa) else none)
    (hn : ns.length ≤ 63) (S : LawSt h₀ L m o1 o2 o3 p1 p2 p3 tl s.heap) (h2 : o2.data = .cell none)
    (hq : ∀ da ds n o2' h' tk', LawSt h₀ L m o1 o2' o3 p1 p2 p3 ((da, W.listOf (ds : List Value).toArray n) :: tl) h' → o2'.data = .cell (some (.ref da)) → IntsAre ds ([41, 22, 0, 31] ++ ns.take 4) → Q .next { s with heap := h', toks := tk' }) :
    wpAny (model PySem.Challenge.pw_pd0110_01 w) (lawTop lawD.2.2 L a gd outer) (exec (lawD.2.1.getD 1 (.Pass ⟨0, 0, 0, 0⟩)) (lawEnv lawD.2.2 L a)) Q E s := by
  obtain ⟨sd, hsd⟩ : ∃ sd, sd = lawD.2.1.getD 1 (.Pass ⟨0, 0, 0, 0⟩) := ⟨_, rfl⟩
  obtain ⟨sc, hsc⟩ : ∃ sc, sc = lawD.2.2 := ⟨_, rfl⟩
  rw [← hsd, ← hsc]
  conv at hsd => rhs; whnf
  conv at hsc => rhs; whnf
  subst hsd hsc
  obtain ⟨F, N, low, off⟩ := S
  subst hm
  have l0 : ∀ q ∈ [((215 : Addr), p1), (23, p2), (227, p3)], q.1 < L := fun q hq => by simp only [List.mem_cons, List.not_mem_nil, or_false] at hq; rcases hq with rfl | rfl | rfl <;> first | exact low.1 | exact low.2.1 | exact low.2.2
  k_lt l0
  k_steps
  all_goals delta Stop
  rename Fr _ _ _ _ => F1
  rename News _ _ _ _ => N1
  rename IntsAre _ ([41, 22, 0, 31] ++ _) => hI1
  rename_i D ds h1 l1
  have S2 : LawSt h₀ L _ o1 o2 o3 p1 p2 p3 ((D, W.listOf ds.toArray 0) :: tl) h1 := ⟨F1, fun p hp => N1 p (by
      simp only [List.mem_cons] at hp ⊢
      rcases hp with h | h | h | h | h | h | h | h <;> simp [h]), low, fun p hp => by
      rcases List.mem_cons.mp hp with rfl | hp
      · exact ⟨Nat.ne_of_gt l1.2.2.1, Nat.ne_of_gt l1.2.2.2.1, Nat.ne_of_gt l1.2.2.2.2.1, Nat.ne_of_gt l1.2.2.2.2.2.1, Nat.ne_of_gt l1.2.2.2.2.2.2.1, Nat.ne_of_gt l1.2.2.2.2.2.2.2.1⟩
      · exact off p hp⟩
  clear F1 N1
  refine wpAny_storeName_cell rfl rfl rfl ⟨o2, S2.g2.1, h2⟩ fun h3 hv hs => ?_
  obtain ⟨o2', e2, d2⟩ := hv
  exact hq D ds 0 o2' h3 _ (S2.c2 (fun c o hc e => hs.extBut c o hc e) e2) d2 hI1
end
end Mine
end
section
open PySem PySem.W PySem.W.X PySem.Spec PySem.Calls PyProof.Rows
set_option maxRecDepth 100000
set_option maxHeartbeats 8000000
namespace Mine
noncomputable def srchJ (dn : List Int) (news0 : Led) (i : Nat) (acc : List Value) (nw : Led) : Prop :=
  ∃ (ts : List (Addr × Int)) (tl2 : Led), ts.length = i ∧ acc = ts.map (fun t => Value.ref t.1) ∧ ts.map (·.2) = dn.take i ∧ nw = tl2 ++ news0 ∧ (∀ q ∈ news0, ∀ p ∈ tl2, q.1 ≠ p.1) ∧ ∀ t ∈ ts, ∃ tr tf k, (t.1, tupO [.int (t.2.fmod 4) tr, .str (folS t.2) tf] k) ∈ tl2
theorem rank_len (dn : List Int) : (dn.map fun n : Int => (n.fmod 4).toNat).length = dn.length := List.length_map ..
theorem okDrawn {n4 : List Int} (h : n4.length ≤ 4) : okR (([41, 22, 0, 31] ++ n4).map fun n : Int => (n.fmod 4).toNat) = true := by
  rw [List.map_append]
  exact okAll _ (by rw [List.length_map]; exact h) (fun r hr => by
    obtain ⟨n, _, rfl⟩ := List.mem_map.mp hr
    have := mod4 n
    omega)
theorem stab_lt {rs : List Nat} {i : Nat} (h : i ∈ stab rs) : i < rs.length := by
  unfold stab at h
  obtain ⟨r, _, h⟩ := List.mem_flatMap.mp h
  exact List.mem_range.mp (List.mem_filter.mp h).1
section
variable {w : World} {p : Program} {lo : List Str} {mean : ExcName → Option Value} {mg mb : Str → Option Value} {gd : Option (List Code)} {a : Addr} {outer : List Env} {A₀ : Around} {base h₀ : Heap} {L : Addr} {m : Str → Option Value} {s : Shared} {Q : Flow → Shared → Prop} {E : Value → Shared → Prop}
local macro_rules | `(tactic| walk_at "storeName") => `(tactic| (refine Stop.out ?_))
local macro_rules | `(tactic| walk_at "call ref") => `(tactic| (refine Stop.out ?_))
local macro_rules | `(tactic| walk_at "eval ListComp") => `(tactic| (refine Stop.out ?_))
local macro_rules | `(tactic| k_all) => `(tactic| (with_unfolding_all assumption))
local macro_rules | `(tactic| walk_at "call builtin:sorted") => `(tactic| (refine Stop.out ?_))
theorem st_order {da : Addr} {ds : List Value} {dn : List Int} {n : Nat} {o1 o2 o3 p1 p2 p3 : Obj} {tl : Led}
    (B : Below A₀ base outer h₀) (X : (hd.heap_1 w.params).In h₀) (T : Top p lo mean mg mb h₀) 
    (hd2 : o2.data = .cell (some (.ref da))) (hda : (da, W.listOf (ds : List Value).toArray n) ∈ tl) (hcd : CodeHd h₀ 229 227) (hdi : IntsAre ds dn) (hz : dn.length ≤ 8)
    (n4 : List Int) (hdn : dn = [41, 22, 0, 31] ++ n4) (hn4 : n4.length ≤ 4)
    (S : LawSt h₀ L m o1 o2 o3 p1 (tabObj #[]) (tabObj #[]) tl s.heap) (h3 : o3.data = .cell none)
    (hq : ∀ oa ts q2 q3 o3' tl' h' tk', LawSt h₀ L m o1 o2 o3' p1 (tabObj q2) (tabObj q3) tl' h' → o3'.data = .cell (some (.ref oa)) → (∀ p ∈ tl, p ∈ tl') → Sup tl' (fun h => SrchAt h oa ts) → ts.map (·.2) = (stab (dn.map fun n : Int => (n.fmod 4).toNat)).map (fun i => dn.getD i 0) → Q .next { s with heap := h', toks := tk' }) :
    wpAny (model PySem.Challenge.pw_pd0110_01 w) (lawTop lawD.2.2 L a gd outer) (exec (lawD.2.1.getD 2 (.Pass ⟨0, 0, 0, 0⟩)) (lawEnv lawD.2.2 L a)) Q E s := by
  obtain ⟨sd, hsd⟩ : ∃ sd, sd = lawD.2.1.getD 2 (.Pass ⟨0, 0, 0, 0⟩) := ⟨_, rfl⟩
  obtain ⟨sc, hsc⟩ : ∃ sc, sc = lawD.2.2 := ⟨_, rfl⟩
  rw [← hsd, ← hsc]
  conv at hsd => rhs; whnf
  conv at hsc => rhs; whnf
  subst hsd hsc
  obtain ⟨F, N, low, off⟩ := S
  have l0 : ∀ q ∈ [((215 : Addr), p1), (23, tabObj #[]), (227, tabObj #[])], q.1 < L := fun q hq => by simp only [List.mem_cons, List.not_mem_nil, or_false] at hq; rcases hq with rfl | rfl | rfl <;> first | exact low.1 | exact low.2.1 | exact low.2.2
  k_lt l0
  k_steps
  all_goals delta Stop
  have hdaN : (da, W.listOf ds.toArray n) ∈ (L + 1 + 1 + 1, o3) :: (L + 1 + 1, o2) :: (L + 1, o1) :: (215, p1) :: (23, tabObj #[]) :: (227, tabObj #[]) :: tl := .tail _ (.tail _ (.tail _ (.tail _ (.tail _ (.tail _ hda)))))
  generalize hnews : (L + 1 + 1 + 1, o3) :: (L + 1 + 1, o2) :: (L + 1, o1) :: (215, p1) :: (23, tabObj #[]) :: (227, tabObj #[]) :: tl = news0 at *
  have hdl : ds.length = dn.length := hdi.length
  refine comp_any (ax := da) (items := ds) (srchJ dn news0) (cl := []) (by with_unfolding_all rfl) (by decide) (by rfl) (by decide) (by rfl) (by rfl) (by rw [hdl, sizeLine_eq]; omega) ?hJl ?hJn F N ⟨[], [], rfl, rfl, rfl, rfl, (fun _ _ _ h => nomatch h), (fun _ h => nomatch h)⟩ ?hiter ?turn ?done
  case hJl =>
    rintro i acc nw h ⟨ts, tl2, _, _, _, rfl, _⟩ F5 N5
    exact N5.isList (List.mem_append_right _ hdaN)
  case hJn =>
    rintro i acc nw ⟨ts, tl2, hl, rfl, _⟩
    rw [List.length_map]; exact hl
  case hiter =>
    intro K hK
    have hd2' : (L + 1 + 1, o2) ∈ news0 := by rw [← hnews]; exact .tail _ (.head _)
    refine nameX_C N rfl hd2' hd2 hK rfl rfl
  case turn =>
    rintro i v acc nw hv ⟨ts, tl2, hl, rfl, hts, rfl, hoff2, hmem⟩ I oI C oC D m₂ h tk E' hoC hx hoff3 hIC hID hCD F5 N5
    clear F N
    obtain ⟨k, tv, rfl, hk⟩ := intsAt hdi hv
    k_steps
    all_goals delta Stop
    refine Cl.use (searched_ok k tv) B F5 X N5 T rfl (by k_units) (by k_units) trivial ?_
    rintro r tl3 h2 tk2 ⟨D2, tr, tf, kk, rfl, rfl⟩ F6 N6 off6 kp
    dsimp only [List.cons_append, List.nil_append] at N6
    refine ⟨(D2, tupO [.int (k.fmod 4) tr, .str (folS k) tf] kk) :: (tl2 ++ news0), h2, _, rfl, F6, fun p hp => N6 p (by simp only [List.mem_cons] at hp ⊢; rcases hp with h | h | h | h | h <;> simp [h]), ?off, ts ++ [(D2, k)], (D2, tupO [.int (k.fmod 4) tr, .str (folS k) tf] kk) :: tl2, by simp [hl], by simp, ?hts, rfl, ?o2, ?mem⟩
    case off =>
      intro q hq
      rcases List.mem_cons.mp hq with rfl | hq
      · exact ⟨(off6 _ (.head _) _ (.head _)).symm, (off6 _ (.tail _ (.head _)) _ (.head _)).symm, (off6 _ (.tail _ (.tail _ (.head _))) _ (.head _)).symm⟩
      · exact hoff3 q hq
    case hts => rw [List.map_append, hts, List.take_add_one, hk]; rfl
    case o2 =>
      intro q hq p hp
      rcases List.mem_cons.mp hp with rfl | hp
      · exact off6 q (.tail _ (.tail _ (.tail _ (List.mem_append_right _ hq)))) _ (.head _)
      · exact hoff2 q hq p hp
    case mem =>
      intro t ht
      rcases List.mem_append.mp ht with ht | ht
      · obtain ⟨a1, a2, a3, a4⟩ := hmem t ht
        exact ⟨a1, a2, a3, .tail _ a4⟩
      · rw [List.mem_singleton.mp ht]; exact ⟨tr, tf, kk, .head _⟩
  case done =>
    rintro D h tk acc nw ⟨ts, tl2, hl, rfl, hts, rfl, hoff2, hmem⟩ F5 N5 hoffD
    subst hnews
    clear F N
    rw [hdl, List.take_length] at hts
    have S5 : LawSt h₀ L m o1 o2 o3 p1 (tabObj #[]) (tabObj #[]) ((D, LCg.lst (ts.map fun t => Value.ref t.1)) :: (tl2 ++ tl)) h := by
      refine ⟨F5, fun p hp => N5 p (by simp only [List.mem_cons, List.mem_append] at hp ⊢; rcases hp with h | h | h | h | h | h | h | h | h <;> simp [h]), low, fun p hp => ?_⟩
      have z : ∀ b o, (b, o) ∈ [(L + 1 + 1 + 1, o3), (L + 1 + 1, o2), (L + 1, o1), ((215 : Addr), p1), (23, tabObj #[]), (227, tabObj #[])] → p.1 ≠ b := by
        intro b o hb
        have hb' : (b, o) ∈ (L + 1 + 1 + 1, o3) :: (L + 1 + 1, o2) :: (L + 1, o1) :: (215, p1) :: (23, tabObj #[]) :: (227, tabObj #[]) :: tl := by
          simp only [List.mem_cons, List.not_mem_nil, or_false] at hb ⊢
          rcases hb with h | h | h | h | h | h <;> simp [h]
        rcases List.mem_cons.mp hp with rfl | hp
        · exact (hoffD _ (List.mem_append_right _ hb')).symm
        · rcases List.mem_append.mp hp with hp | hp
          · exact (hoff2 _ hb' _ hp).symm
          · have := off p hp
            simp only [List.mem_cons, List.not_mem_nil, or_false, Prod.mk.injEq] at hb
            rcases hb with h | h | h | h | h | h <;> rw [h.1] <;> simp [this]
      exact ⟨z _ o3 (by simp), z _ o2 (by simp), z _ o1 (by simp), z _ p1 (by simp), z _ (tabObj #[]) (by simp), z _ (tabObj #[]) (by simp)⟩
    clear N5 F5 hoff2 hoffD
    obtain ⟨tl5, htl5⟩ : ∃ t5, t5 = (D, LCg.lst (ts.map fun t => Value.ref t.1)) :: (tl2 ++ tl) := ⟨_, rfl⟩
    rw [← htl5] at S5
    have F5 := S5.F
    have N5 := S5.N
    have hoff227 : ∀ p ∈ tl5, p.1 ≠ 227 := fun p hp => (S5.off p hp).2.2.2.2.2
    k_steps
    all_goals delta Stop
    rename Fr _ _ _ _ => F6
    rename News _ _ _ _ => N6
    rename_i f c' oc vs t ct h6 tk6 d1 d2 l1 l2
    have S6 : LawSt h₀ L m o1 o2 o3 p1 (tabObj #[]) (tabObj #[rawInt 234, rawInt 69, .ref c']) ((f, kla_obj (Str.ofString "<lambda>") (Str.ofString "law.<locals>.<lambda>") lamOf.1 lamOf.2.1 lamOf.2.2 [] ((mg (Str.ofString "__name__")).getD Value.none) c' ct) :: (c', oc) :: tl5) h6 := by
      refine ⟨F6, fun p hp => ?_, low, fun p hp => ?_⟩
      · rcases List.mem_cons.mp hp with rfl | hp
        · exact N6 _ (.tail _ (.tail _ (.head _)))
        · rcases List.mem_cons.mp hp with rfl | hp
          · exact N6 _ (.tail _ (.tail _ (.tail _ (.head _))))
          · rcases List.mem_cons.mp hp with rfl | hp
            · exact N6 _ (.tail _ (.tail _ (.tail _ (.tail _ (.head _)))))
            · rcases List.mem_cons.mp hp with rfl | hp
              · exact N6 _ (.tail _ (.tail _ (.tail _ (.tail _ (.tail _ (.head _))))))
              · rcases List.mem_cons.mp hp with rfl | hp
                · exact N6 _ (.tail _ (.tail _ (.tail _ (.tail _ (.tail _ (.tail _ (.head _)))))))
                · rcases List.mem_cons.mp hp with rfl | hp
                  · exact N6 _ (.tail _ (.tail _ (.tail _ (.tail _ (.tail _ (.tail _ (.tail _ (.head _))))))))
                  · rcases List.mem_cons.mp hp with rfl | hp
                    · exact N6 _ (.head _)
                    · rcases List.mem_cons.mp hp with rfl | hp
                      · exact N6 _ (.tail _ (.head _))
                      · exact N6 _ (.tail _ (.tail _ (.tail _ (.tail _ (.tail _ (.tail _ (.tail _ (.tail _ hp))))))))
      · rcases List.mem_cons.mp hp with rfl | hp
        · exact ⟨Nat.ne_of_gt (Nat.lt_trans l1.1 l2), Nat.ne_of_gt (Nat.lt_trans l1.2.1 l2), Nat.ne_of_gt (Nat.lt_trans l1.2.2.1 l2), Nat.ne_of_gt (Nat.lt_trans l1.2.2.2.1 l2), Nat.ne_of_gt (Nat.lt_trans l1.2.2.2.2.1 l2), Nat.ne_of_gt (Nat.lt_trans l1.2.2.2.2.2.1 l2)⟩
        · rcases List.mem_cons.mp hp with rfl | hp
          · exact ⟨Nat.ne_of_gt l1.1, Nat.ne_of_gt l1.2.1, Nat.ne_of_gt l1.2.2.1, Nat.ne_of_gt l1.2.2.2.1, Nat.ne_of_gt l1.2.2.2.2.1, Nat.ne_of_gt l1.2.2.2.2.2.1⟩
          · exact S5.off p hp
    clear F6 N6 F5 N5 hoff227
    refine wpAny_le (cmp_ok f B S6.F X T rfl (fun p hp => by rw [List.mem_singleton.mp hp]; exact S6.t2) fun cK h7 tk7 kb h23 hAt hInit hLt => ?_) rfl (by k_units) (by k_units) rfl rfl
    obtain ⟨x, y, c23, h23⟩ := h23
    have S7 := S6.d2 kb h23
    have F7 := S7.F
    have N7 := S7.N
    k_steps
    all_goals delta Stop
    have hfc : (f, kla_obj (Str.ofString "<lambda>") (Str.ofString "law.<locals>.<lambda>") lamOf.1 lamOf.2.1 lamOf.2.2 [] ((mg (Str.ofString "__name__")).getD Value.none) c' ct) ∈ (f, kla_obj (Str.ofString "<lambda>") (Str.ofString "law.<locals>.<lambda>") lamOf.1 lamOf.2.1 lamOf.2.2 [] ((mg (Str.ofString "__name__")).getD Value.none) c' ct) :: (c', oc) :: tl5 := .head _
    have hlam : LamAt h7 f c' := ⟨⟨_, _, (S7.tail _ (.head _)).1⟩, codeRec_news S7.tail (.tail _ (.head _)) d1 d2⟩
    have hts5 : ∀ t ∈ ts, ∃ tr tf k, h7.get? t.1 = some (tupO [.int (t.2.fmod 4) tr, .str (folS t.2) tf] k) := by
      intro t ht
      obtain ⟨tr, tf, k, hk⟩ := hmem t ht
      exact ⟨tr, tf, k, (S7.tail _ (.tail _ (.tail _ (by rw [htl5]; exact .tail _ (List.mem_append_left _ hk))))).1⟩
    have hDl : h7.get? D = some (LCg.lst (ts.map fun t => Value.ref t.1)) := (S7.tail _ (.tail _ (.tail _ (by rw [htl5]; exact .head _)))).1
    have hlen : ts.length = dn.length := by rw [hl, hdl]
    have hdn8 : 4 ≤ dn.length ∧ dn.length ≤ 8 := by rw [hdn, List.length_append]; simp only [List.length_cons, List.length_nil]; omega
    show wpAny _ _ (call (.builtin "sorted") [.ref D] [(Str.ofString "key", .ref cK.C)]) _ _ _
    refine kq_sorted (c := cK) (lam := f) (vs := ts.map fun t => Value.ref t.1) (rs := dn.map fun n : Int => (n.fmod 4).toNat) (by show (2402 : Nat) < cLine; decide) rfl (by k_units) (by k_units) (X.keeps S7.F.keep) ⟨_, hDl, rfl, _, rfl⟩ hAt hInit hLt ?cmp ?items ?n2 ?n64 ?ok ?cont
    case cmp =>
      intro h' tk' x y i j a' b' Q' kk hx hy ra rb hQ
      refine wpAny_le (lt_ok cK f c' x y i j a' b' _ _ _ _ _ _ gd _ _ a _ _ outer A₀ base h₀ L m _ _ _ B (S7.F.kept kk) X T rfl ⟨hAt.up kk, hLt.up kk, hlam.up kk, hx, hy, ra, rb⟩ ?_) rfl (by k_units) (by k_units) rfl rfl
      rintro r tl h'' tk'' ⟨rfl, rfl⟩ k2 _
      exact hQ h'' tk'' k2
    case items =>
      refine ⟨by rw [List.length_map, List.length_map, hlen], fun i v r hv hr => ?_⟩
      rw [List.getElem?_map] at hv hr
      cases ht : ts[i]? with
      | none => rw [ht] at hv; cases hv
      | some t =>
        rw [ht] at hv; cases hv
        have hn : dn[i]? = some t.2 := by rw [← hts, List.getElem?_map, ht]; rfl
        rw [hn] at hr; cases hr
        obtain ⟨tr, tf, k, e⟩ := hts5 t (List.mem_of_getElem? ht)
        have m4 := mod4 t.2
        have e0 : (((t.2.fmod 4).toNat : Nat) : Int) = t.2.fmod 4 := Int.toNat_of_nonneg m4.1
        refine ⟨t.1, rfl, ?_⟩
        show RankAt h7 t.1 (((t.2.fmod 4).toNat : Nat) : Int)
        rw [e0]
        exact ⟨⟨tr, _, _, e, rfl, _, rfl⟩, m4.1, m4.2⟩
    case n2 => rw [List.length_map, hlen]; omega
    case n64 => rw [List.length_map, hlen]; omega
    case ok => rw [hdn]; exact okDrawn hn4
    case cont =>
      intro D2 h8 tk8 cc k8 hn8 hD8
      have S8 := S7.add k8 (new := [(D2, _)]) (fun p hp => by rw [List.mem_singleton.mp hp]; exact ⟨hD8, hn8⟩)
      have F8 := S8.F
      have N8 := S8.N
      clear F7 N7
      k_steps
      all_goals delta Stop
      refine wpAny_storeName_cell rfl rfl rfl ⟨o3, S8.g3.1, h3⟩ fun h9 hv hs => ?_
      obtain ⟨o3', e3, d3⟩ := hv
      have eqv : ((stab (dn.map fun n : Int => (n.fmod 4).toNat)).map fun i => (ts.map fun t => Value.ref t.1).getD i Value.none) = ((stab (dn.map fun n : Int => (n.fmod 4).toNat)).map fun i => ts.getD i (0, 0)).map fun t => Value.ref t.1 := by
        rw [List.map_map]
        refine List.map_congr_left fun i hi => ?_
        have hlt := stab_lt hi
        rw [List.length_map, ← hlen] at hlt
        simp [List.getD_eq_getElem?_getD, List.getElem?_map, List.getElem?_eq_getElem hlt]
      refine hq D2 ((stab (dn.map fun n : Int => (n.fmod 4).toNat)).map fun i => ts.getD i (0, 0)) _ _ o3' _ h9 _ (S8.c3 (fun c o hc e => hs.extBut c o hc e) e3) d3 ?sub ?sup ?eq
      case sub =>
        intro p hp
        exact List.mem_append_right _ (.tail _ (.tail _ (by rw [htl5]; exact .tail _ (List.mem_append_right _ hp))))
      case sup =>
        intro h hh
        refine ⟨⟨_, hh _ (.head _), rfl, cc, ?_⟩, fun t ht => ?_⟩
        · rw [← eqv]
        · obtain ⟨i, hi, rfl⟩ := List.mem_map.mp ht
          have hlt := stab_lt hi
          rw [List.length_map, ← hlen] at hlt
          have hmt : ts.getD i (0, 0) ∈ ts := by rw [List.getD_eq_getElem?_getD, List.getElem?_eq_getElem hlt]; exact List.getElem_mem _
          obtain ⟨tr, tf, k, hk⟩ := hmem _ hmt
          exact ⟨tr, tf, _, hh _ (List.mem_append_right _ (.tail _ (.tail _ (by rw [htl5]; exact .tail _ (List.mem_append_left _ hk))))), rfl, _, rfl⟩
      case eq =>
        rw [List.map_map]
        refine List.map_congr_left fun i hi => ?_
        have hlt := stab_lt hi
        rw [List.length_map, ← hlen] at hlt
        rw [← hts]
        simp [List.getD_eq_getElem?_getD, List.getElem?_map, List.getElem?_eq_getElem hlt]
end
end Mine
end
section
open PySem PySem.W PySem.W.X PySem.Spec PySem.Calls PyProof.Rows
set_option maxRecDepth 100000
set_option maxHeartbeats 3000000
namespace Mine
/-- two values that are None both, or texts alike -/
noncomputable def PairEq (a b : Value) : Prop := (a = .none ∧ b = .none) ∨ ∃ x t t', a = .str x t ∧ b = .str x t'
theorem mode_same : ∀ md ∈ modesL, ((Builtin.bitAnd md 61440 == 32768) && xch md) = ((md.fdiv 4096 == 8) && ((md.fdiv 64).fmod 2 == 1)) := by decide +kernel
theorem run_ok {path one : Str} {md : Int} (h : md ∈ modesL) : runB path one md = okF path one md := by
  unfold runB okF
  rw [mode_same md h]
noncomputable def hasF (fs : List FileV) (nm : Str) (n : Int) : Bool := fs.any fun f => okF (pathOf n nm) f.path f.mode
theorem first_none {fs : List FileV} {path : Str} (hm : ∀ f ∈ fs, f.mode ∈ modesL) (h : (fs.any fun f => okF path f.path f.mode) = false) : firstR path fs = none := by
  unfold firstR
  rw [List.find?_eq_none]
  intro f hf
  rw [run_ok (hm f hf)]
  rw [List.any_eq_false] at h
  exact h f hf
theorem first_some {fs : List FileV} {path : Str} (hm : ∀ f ∈ fs, f.mode ∈ modesL) (h : (fs.any fun f => okF path f.path f.mode) = true) : ∃ f, firstR path fs = some f ∧ f.path = path := by
  rw [List.any_eq_true] at h
  obtain ⟨f, hf, e⟩ := h
  cases q : firstR path fs with
  | none =>
    unfold firstR at q
    rw [List.find?_eq_none] at q
    exact absurd (by rw [run_ok (hm f hf)]; exact e) (q f hf)
  | some g =>
    refine ⟨g, rfl, ?_⟩
    have := List.find?_some q
    simp only [runB, Bool.and_eq_true, beq_iff_eq] at this
    exact this.1
theorem fold_str {fs : List FileV} {nm : Str} {x : Str} {t : Tok} : ∀ ns : List Int, ns.foldl (fun v n => stepV (pathOf n nm) fs v) (.str x t) = .str x t
  | [] => rfl
  | _ :: ns => fold_str ns
theorem told_find {fs : List FileV} {nm : Str} (hm : ∀ f ∈ fs, f.mode ∈ modesL) : ∀ ns : List Int, match ns.find? (hasF fs nm) with
    | some n => ∃ t, toldV fs nm ns = .str (pathOf n nm) t
    | none => toldV fs nm ns = .none
  | [] => rfl
  | n :: ns => by
    cases h : hasF fs nm n with
    | true =>
      rw [List.find?_cons_of_pos h]
      obtain ⟨f, e1, e2⟩ := first_some hm h
      refine ⟨f.pt, ?_⟩
      show ns.foldl _ (stepV (pathOf n nm) fs .none) = _
      have e3 : stepV (pathOf n nm) fs .none = .str (pathOf n nm) f.pt := by unfold stepV; rw [e1, ← e2]
      rw [e3]
      exact fold_str ns
    | false =>
      rw [List.find?_cons_of_neg (by simp [h])]
      have e1 := first_none hm h
      have e2 : toldV fs nm (n :: ns) = toldV fs nm ns := by
        show ns.foldl _ (stepV (pathOf n nm) fs .none) = _
        have e3 : stepV (pathOf n nm) fs .none = .none := by unfold stepV; rw [e1]
        rw [e3]; rfl
      rw [e2]
      exact told_find hm ns
theorem range_getD : ∀ dn : List Int, (List.range dn.length).map (fun i => dn.getD i 0) = dn := by
  intro dn
  apply List.ext_getElem?
  intro i
  rw [List.getElem?_map]
  by_cases h : i < dn.length
  · rw [List.getElem?_range h, List.getElem?_eq_getElem h]
    simp [List.getD_eq_getElem?_getD, List.getElem?_eq_getElem h]
  · rw [List.getElem?_eq_none (by simpa using h), List.getElem?_eq_none (by simpa using h)]; rfl
theorem stab_map (dn : List Int) : (stab (dn.map fun n : Int => (n.fmod 4).toNat)).map (fun i => dn.getD i 0) = (List.range 4).flatMap fun r : Nat => dn.filter fun n => decide (n.fmod 4 = (r : Int)) := by
  unfold stab
  rw [List.map_flatMap]
  congr 1
  funext r
  rw [List.length_map]
  conv => rhs; rw [← range_getD dn]
  rw [List.filter_map]
  congr 1
  apply List.filter_congr
  intro i hi
  have hlt := List.mem_range.mp hi
  simp only [Function.comp]
  rw [List.getD_eq_getElem?_getD, List.getElem?_map, List.getElem?_eq_getElem hlt]
  simp only [Option.map_some, Option.getD_some, List.getD_eq_getElem?_getD, List.getElem?_eq_getElem hlt]
  have m := mod4 dn[i]
  rw [Bool.eq_iff_iff, beq_iff_eq, decide_eq_true_eq]
  omega
theorem find_flatMap {α β : Type} (p : β → Bool) (g : α → List β) : ∀ l : List α, (l.flatMap g).find? p = l.findSome? fun a => (g a).find? p
  | [] => rfl
  | a :: l => by
    rw [List.flatMap_cons, List.find?_append, List.findSome?_cons, find_flatMap p g l]
    cases (g a).find? p <;> rfl
theorem find_filter {α : Type} (p q : α → Bool) : ∀ l : List α, (l.filter p).find? q = l.find? fun a => p a && q a
  | [] => rfl
  | a :: l => by
    rw [List.filter_cons]
    cases h : p a with
    | true =>
      rw [if_pos rfl]
      cases h2 : q a with
      | true => rw [List.find?_cons_of_pos h2, List.find?_cons_of_pos (by simp [h, h2])]
      | false => rw [List.find?_cons_of_neg (by simp [h2]), List.find?_cons_of_neg (by simp [h2]), find_filter p q l]
    | false => rw [if_neg (by simp), List.find?_cons_of_neg (by simp [h]), find_filter p q l]
theorem due_find (fs : List FileV) (dn : List Int) (nm : Str) : ((stab (dn.map fun n : Int => (n.fmod 4).toNat)).map fun i => dn.getD i 0).find? (hasF fs nm) = due fs dn nm := by
  rw [stab_map, find_flatMap]
  unfold due
  congr 1
  funext r
  rw [find_filter]
  rfl
theorem pure_law (fs : List FileV) (hm : ∀ f ∈ fs, f.mode ∈ modesL) (dn : List Int) (nm : Str) (r : Value) (h : answers nm (due fs dn nm) r) : PairEq (toldV fs nm ((stab (dn.map fun n : Int => (n.fmod 4).toNat)).map fun i => dn.getD i 0)) r := by
  have e := told_find (nm := nm) hm ((stab (dn.map fun n : Int => (n.fmod 4).toNat)).map fun i => dn.getD i 0)
  rw [due_find] at e
  revert e h
  cases due fs dn nm with
  | none => intro h e; exact .inl ⟨e, h⟩
  | some n =>
    rintro ⟨t', rfl⟩ ⟨t, e⟩
    exact .inr ⟨_, t, t', e, rfl⟩
end Mine
end
section
open PySem PySem.W PySem.W.X PySem.Spec PySem.Calls PyProof.Rows
set_option maxRecDepth 100000
set_option maxHeartbeats 8000000
namespace Mine
noncomputable abbrev six (L : Addr) (o1 o2 o3 p1 p2 p3 : Obj) (tl : Led) : Led := (L + 1 + 1 + 1, o3) :: (L + 1 + 1, o2) :: (L + 1, o1) :: (215, p1) :: (23, p2) :: (227, p3) :: tl
noncomputable def offSix (L : Addr) (tl : Led) : Prop := ∀ p ∈ tl, p.1 ≠ L + 1 + 1 + 1 ∧ p.1 ≠ L + 1 + 1 ∧ p.1 ≠ L + 1 ∧ p.1 ≠ 215 ∧ p.1 ≠ 23 ∧ p.1 ≠ 227
noncomputable def toldJ (fs : List FileV) (ns : List Int) (L : Addr) (o1 o2 o3 : Obj) (q2 q3 : Array Value) (tl : Led) (items : List Value) (ax : Addr) (i : Nat) (acc : List Value) (nw : Led) : Prop :=
  ∃ q1 tlx k, nw = six L o1 o2 o3 (tabObj q1) (tabObj q2) (tabObj q3) tlx ∧ (ax, W.listOf items.toArray k) ∈ tlx ∧ (∀ p ∈ tl, p ∈ tlx) ∧ offSix L tlx ∧ StrsAre items namesL ∧ StepLed tlx (tabObj q1) ∧ i ≤ 4 ∧ acc = (namesL.take i).map fun nm => toldV fs nm ns
noncomputable def dueJ (fs : List FileV) (dn : List Int) (base2 : Led) (items : List Value) (ax : Addr) (i : Nat) (acc : List Value) (nw : Led) : Prop :=
  ∃ k, nw = (ax, W.listOf items.toArray k) :: base2 ∧ StrsAre items namesL ∧ i ≤ 4 ∧ acc.length = i ∧ ∀ (j : Nat) (r : Value), acc[j]? = some r → ∃ nm, namesL[j]? = some nm ∧ answers nm (due fs dn nm) r
theorem tab_of_led {led : Led} {o : Obj} (x : StepLed led o) : ∃ q, o = tabObj q := by
  rcases x with x | ⟨c', oc, vs, t, e, _⟩
  · exact ⟨_, x⟩
  · exact ⟨_, e⟩
theorem name_len {i : Nat} {nm : Str} (h : namesL[i]? = some nm) : i < 4 ∧ nm.length ≤ 20 ∧ nm ∈ namesL := by
  have hm := List.mem_of_getElem? h
  have : ∀ x ∈ namesL, x.length ≤ 20 := by decide
  exact ⟨(List.getElem?_eq_some_iff.mp h).1, this nm hm, hm⟩
theorem LawSt.add2 {h₀ h h' : Heap} {L : Addr} {m : Str → Option Value} {o1 o2 o3 p1 p1' p2 p3 : Obj} {tl new : Led} (S : LawSt h₀ L m o1 o2 o3 p1 p2 p3 tl h) (S' : LawSt h₀ L m o1 o2 o3 p1' p2 p3 tl h') (M : Made h h' new) : LawSt h₀ L m o1 o2 o3 p1' p2 p3 (new ++ tl) h' := by
  have ne : ∀ p ∈ new, ∀ b o, h.get? b = some o → p.1 ≠ b := fun p hp b o e q => by have := (M p hp).2; rw [q, e] at this; cases this
  refine .mk' S'.F S.low ?_ S'.g3.1 S'.g2.1 S'.g1.1 S'.t1.1 S'.t2.1 S'.t3.1 S.t1.2.2 S.t2.2.2 S.t3.2.2 ?_
  · intro p hp
    rcases List.mem_append.mp hp with hp | hp
    · exact ⟨ne p hp _ _ S.g3.1, ne p hp _ _ S.g2.1, ne p hp _ _ S.g1.1, ne p hp _ _ S.t1.1, ne p hp _ _ S.t2.1, ne p hp _ _ S.t3.1⟩
    · exact S.off p hp
  · intro p hp
    rcases List.mem_append.mp hp with hp | hp
    · refine ⟨(M p hp).1, ?_, ?_⟩
      · obtain ⟨o, _, _, e, _⟩ := S.F.ns
        exact ne p hp _ _ e
      · cases q : h₀.get? p.1 with
        | none => rfl
        | some o => exact absurd rfl (ne p hp _ _ (S.F.keep _ _ q))
    · exact S'.tail p hp
theorem six_mem {L : Addr} {o1 o2 o3 p1 p2 p3 : Obj} {tl : Led} {x : Addr × Obj} {ys : Led} (h : x ∈ six L o1 o2 o3 p1 p2 p3 (ys ++ tl)) : x ∈ ys ∨ x ∈ six L o1 o2 o3 p1 p2 p3 tl := by
  simp only [List.mem_cons, List.mem_append] at h ⊢
  rcases h with h | h | h | h | h | h | h | h <;> simp [h]
theorem pairs_eq {A : Around} {s : Shared} {a b : Value} (h : PairEq a b) : SeqAt.EqAt A s a b true := by
  rcases h with ⟨rfl, rfl⟩ | ⟨x, t, t', rfl, rfl⟩
  · intro prog w E Q h
    unfold eqBool
    refine wpAny_holding ?_
    refine wpAny_ite_split (fun _ => wpAny_bind (wpAny_rule (wpAny_pure h))) (fun _ => wpAny_bind (SeqAt.RcAt.none_none prog w E _ (wpAny_truthy_bool h)))
  · have := SeqAt.EqAt.str_str (A := A) (s := s) x t x t'
    rwa [beq_self_eq_true] at this
section
variable {w : World} {p : Program} {lo : List Str} {mean : ExcName → Option Value} {mg mb : Str → Option Value} {gd : Option (List Code)} {a : Addr} {outer : List Env} {A₀ : Around} {base h₀ : Heap} {L : Addr} {m : Str → Option Value} {s : Shared} {Q : Flow → Shared → Prop} {E : Value → Shared → Prop}
local macro_rules | `(tactic| walk_at "call ref") => `(tactic| (refine Stop.out ?_))
local macro_rules | `(tactic| walk_at "eval ListComp") => `(tactic| (refine Stop.out ?_))
local macro_rules | `(tactic| walk_at "compareOp Eq ref ref") => `(tactic| (refine Stop.out ?_))
local macro_rules | `(tactic| k_all) => `(tactic| (with_unfolding_all assumption))
theorem st_ret {fa da oa : Addr} {fs : List FileV} {ts : List (Addr × Int)} {ds : List Value} {dn : List Int} {n : Nat} {o1 o2 o3 : Obj} {q2 q3 : Array Value} {tl : Led}
    (B : Below A₀ base outer h₀) (X : (hd.heap_1 w.params).In h₀) (T : Top p lo mean mg mb h₀) 
    (hd1 : o1.data = .cell (some (.ref fa))) (hd2 : o2.data = .cell (some (.ref da))) (hd3 : o3.data = .cell (some (.ref oa))) (hda : (da, W.listOf (ds : List Value).toArray n) ∈ tl) (hdi : IntsAre ds dn) (hz : dn.length ≤ 8)
    (hsF : Sup tl (fun h => FilesAt h fa fs)) (hsO : Sup tl (fun h => SrchAt h oa ts)) (hfs : fs.length ≤ 100) (hm : ∀ f ∈ fs, f.mode ∈ modesL) (hts : ts.map (·.2) = (stab (dn.map fun n : Int => (n.fmod 4).toNat)).map (fun i => dn.getD i 0)) (htl : ts.length ≤ 100)
    (S : LawSt h₀ L m o1 o2 o3 (tabObj #[]) (tabObj q2) (tabObj q3) tl s.heap)
    (hq : ∀ q1 q2 q3 news h' tk', Fr h₀ L h' m → News h₀ L h' news → ((215 : Addr), tabObj q1) ∈ news → ((23 : Addr), tabObj q2) ∈ news → ((227 : Addr), tabObj q3) ∈ news → Q (.ret (.bool true)) { s with heap := h', toks := tk' }) :
    wpAny (model PySem.Challenge.pw_pd0110_01 w) (lawTop lawD.2.2 L a gd outer) (exec (lawD.2.1.getD 3 (.Pass ⟨0, 0, 0, 0⟩)) (lawEnv lawD.2.2 L a)) Q E s := by
  obtain ⟨sd, hsd⟩ : ∃ sd, sd = lawD.2.1.getD 3 (.Pass ⟨0, 0, 0, 0⟩) := ⟨_, rfl⟩
  obtain ⟨sc, hsc⟩ : ∃ sc, sc = lawD.2.2 := ⟨_, rfl⟩
  rw [← hsd, ← hsc]
  conv at hsd => rhs; whnf
  conv at hsc => rhs; whnf
  subst hsd hsc
  have F := S.F
  have N := S.N
  have low := S.low
  have l0 : ∀ q ∈ [((215 : Addr), tabObj #[]), (23, tabObj #[]), (227, tabObj #[])], q.1 < L := fun q hq => by simp only [List.mem_cons, List.not_mem_nil, or_false] at hq; rcases hq with rfl | rfl | rfl <;> first | exact low.1 | exact low.2.1 | exact low.2.2
  k_lt l0
  k_steps
  all_goals delta Stop
  refine comp_any2 (h₀ := h₀) (L := L) (m := m) (toldJ fs (ts.map (·.2)) L o1 o2 o3 q2 q3 tl) (cl := [(Str.ofString "order", L + 1 + 1 + 1), (Str.ofString "files", L + 1)]) (by with_unfolding_all rfl) (by decide) (by rfl) (by decide) (by rfl) (by rfl) ?hJz ?hJl ?hJn ?hiter ?turn ?done
  case hJz =>
    rintro items ax i acc nw ⟨q1, tlx, k, rfl, h1, h2, h3, h4, h5, h6, rfl⟩
    rw [h4.length, sizeLine_eq]; decide
  case hJl =>
    rintro items ax i acc nw h ⟨q1, tlx, k, rfl, h1, h2, h3, h4, h5, h6, rfl⟩ F5 N5
    exact N5.isList (.tail _ (.tail _ (.tail _ (.tail _ (.tail _ (.tail _ h1))))))
  case hJn =>
    rintro items ax i acc nw ⟨q1, tlx, k, rfl, h1, h2, h3, h4, h5, h6, rfl⟩
    rw [List.length_map, List.length_take]
    exact Nat.min_eq_left h6
  case hiter =>
    intro K hK
    k_steps
    rename News _ _ _ _ => N1
    rename Fr _ _ _ _ => F1
    rename_i la h1 l1
    refine hK [.str (Str.ofString "ls") s.toks, .str (Str.ofString "go") (s.toks + 1), .str (Str.ofString "it") (s.toks + 1 + 1), .str (Str.ofString "no") (s.toks + 1 + 1 + 1)] la h1 _ (six L o1 o2 o3 (tabObj #[]) (tabObj q2) (tabObj q3) ((la, W.listOf #[.str (Str.ofString "ls") s.toks, .str (Str.ofString "go") (s.toks + 1), .str (Str.ofString "it") (s.toks + 1 + 1), .str (Str.ofString "no") (s.toks + 1 + 1 + 1)] 0) :: tl)) F1 (fun p hp => N1 p ?_) ⟨#[], _, 0, rfl, .head _, fun p hp => .tail _ hp, ?_, .cons _ _ (.cons _ _ (.cons _ _ (.cons _ _ .nil))), .inl rfl, by decide, rfl⟩
    · rcases six_mem (ys := [_]) hp with h | h
      · rw [List.mem_singleton.mp h]; exact .head _
      · exact .tail _ h
    · intro p hp
      rcases List.mem_cons.mp hp with rfl | hp
      · exact ⟨Nat.ne_of_gt l1.1, Nat.ne_of_gt l1.2.1, Nat.ne_of_gt l1.2.2.1, Nat.ne_of_gt l1.2.2.2.1, Nat.ne_of_gt l1.2.2.2.2.1, Nat.ne_of_gt l1.2.2.2.2.2.1⟩
      · exact S.off p hp
  case turn =>
    rintro items ax i v acc nw hv ⟨q1, tlx, k, rfl, h1, h2, h3, h4, h5, h6, rfl⟩ I oI C oC D m₂ h tk E' hoC hx hoff3 hIC hID hCD F5 N5
    clear F N
    obtain ⟨nm, tn, rfl, hnm⟩ := h4.item i v hv
    k_steps
    all_goals delta Stop
    have S5 : LawSt h₀ L m o1 o2 o3 (tabObj q1) (tabObj q2) (tabObj q3) tlx h := ⟨F5, fun p hp => N5 p (.tail _ (.tail _ (.tail _ hp))), low, h3⟩
    have hget : ∀ p ∈ tlx, h.get? p.1 = some p.2 := fun p hp => (S5.tail p hp).1
    obtain ⟨i4, _, hin⟩ := name_len hnm
    refine wpAny_le (told_ok fa oa fs nm tn ts (tabObj q1) hin hfs htl B F5 X T rfl (fun p hp => by rw [List.mem_singleton.mp hp]; exact S5.t1) (h5.tab hget) (hsF h fun p hp => hget p (h2 p hp)) (hsO h fun p hp => hget p (h2 p hp)) fun h7 tk7 oP' new kb h215 hnew hst => ?_) rfl (by k_units) (by k_units) rfl rfl
    obtain ⟨q1', rfl⟩ : ∃ q, oP' = tabObj q := by
      rcases hst with rfl | h
      · exact ⟨q1, rfl⟩
      · exact tab_of_led h
    have S6 := S5.d1 kb h215
    have S7 := S5.add2 S6 hnew
    have z215 := hoff3 (215, tabObj q1) (.tail _ (.tail _ (.tail _ (.head _))))
    have nI := N5 _ (.head _)
    have nC := N5 _ (.tail _ (.head _))
    have nD := N5 _ (.tail _ (.tail _ (.head _)))
    have ne : ∀ p ∈ new, ∀ b o, h.get? b = some o → p.1 ≠ b := fun p hp b o e q => by have := (hnew p hp).2; rw [q] at this; rw [show ({ s with heap := h, toks := tk } : Shared).heap = h from rfl, e] at this; cases this
    refine ⟨six L o1 o2 o3 (tabObj q1') (tabObj q2) (tabObj q3) (new ++ tlx), h7, tk7, rfl, S7.F, ?news, ?off, q1', new ++ tlx, k, rfl, List.mem_append_right _ h1, fun p hp => List.mem_append_right _ (h2 p hp), S7.off, h4, ?step, i4, ?acc⟩
    case news =>
      intro p hp
      rcases List.mem_cons.mp hp with rfl | hp
      · exact ⟨kb _ _ z215.1.symm nI.1, nI.2⟩
      · rcases List.mem_cons.mp hp with rfl | hp
        · exact ⟨kb _ _ z215.2.1.symm nC.1, nC.2⟩
        · rcases List.mem_cons.mp hp with rfl | hp
          · exact ⟨kb _ _ z215.2.2.symm nD.1, nD.2⟩
          · exact S7.N p hp
    case off =>
      intro r hr
      rcases six_mem hr with h | h
      · exact ⟨ne r h _ _ nI.1, ne r h _ _ nC.1, ne r h _ _ nD.1⟩
      · simp only [List.mem_cons] at h
        rcases h with rfl | rfl | rfl | rfl | rfl | rfl | h
        · exact hoff3 _ (.head _)
        · exact hoff3 _ (.tail _ (.head _))
        · exact hoff3 _ (.tail _ (.tail _ (.head _)))
        · exact z215
        · exact hoff3 _ (.tail _ (.tail _ (.tail _ (.tail _ (.head _)))))
        · exact hoff3 _ (.tail _ (.tail _ (.tail _ (.tail _ (.tail _ (.head _))))))
        · exact hoff3 _ (.tail _ (.tail _ (.tail _ (.tail _ (.tail _ (.tail _ h))))))
    case step =>
      rcases hst with e | h
      · rw [e]; exact h5.of fun p hp => List.mem_append_right _ hp
      · exact h.of fun p hp => List.mem_append_left _ hp
    case acc => rw [List.take_add_one, hnm, List.map_append]; rfl
  case done =>
    rintro items ax D h tk acc nw ⟨q1, tlx, k, rfl, h1, h2, h3, h4, h5, h6, rfl⟩ F5 N5 hoffD
    clear F N
    have hil : items.length = 4 := h4.length
    rw [hil] at N5
    have S5 : LawSt h₀ L m o1 o2 o3 (tabObj q1) (tabObj q2) (tabObj q3) tlx h := ⟨F5, fun p hp => N5 p (.tail _ hp), low, h3⟩
    obtain ⟨acc1, hacc1⟩ : ∃ acc1, acc1 = (namesL.take 4).map fun nm => toldV fs nm (ts.map (·.2)) := ⟨_, rfl⟩
    rw [← hacc1] at N5
    have hd1m : (L + 1, o1) ∈ (D, LCg.lst acc1) :: six L o1 o2 o3 (tabObj q1) (tabObj q2) (tabObj q3) tlx := .tail _ (.tail _ (.tail _ (.head _)))
    have hd2m : (L + 1 + 1, o2) ∈ (D, LCg.lst acc1) :: six L o1 o2 o3 (tabObj q1) (tabObj q2) (tabObj q3) tlx := .tail _ (.tail _ (.head _))
    have hgetB : ∀ p ∈ tl, p ∈ (D, LCg.lst acc1) :: six L o1 o2 o3 (tabObj q1) (tabObj q2) (tabObj q3) tlx := fun p hp => .tail _ (.tail _ (.tail _ (.tail _ (.tail _ (.tail _ (.tail _ (h2 p hp)))))))
    have hDm : (D, LCg.lst acc1) ∈ (D, LCg.lst acc1) :: six L o1 o2 o3 (tabObj q1) (tabObj q2) (tabObj q3) tlx := .head _
    have ht1 : ((215 : Addr), tabObj q1) ∈ (D, LCg.lst acc1) :: six L o1 o2 o3 (tabObj q1) (tabObj q2) (tabObj q3) tlx := .tail _ (.tail _ (.tail _ (.tail _ (.head _))))
    have ht2 : ((23 : Addr), tabObj q2) ∈ (D, LCg.lst acc1) :: six L o1 o2 o3 (tabObj q1) (tabObj q2) (tabObj q3) tlx := .tail _ (.tail _ (.tail _ (.tail _ (.tail _ (.head _)))))
    have ht3 : ((227 : Addr), tabObj q3) ∈ (D, LCg.lst acc1) :: six L o1 o2 o3 (tabObj q1) (tabObj q2) (tabObj q3) tlx := .tail _ (.tail _ (.tail _ (.tail _ (.tail _ (.tail _ (.head _))))))
    clear hoffD h1 h3 h5
    k_steps
    all_goals delta Stop
    refine comp_any2 (h₀ := h₀) (L := L) (m := m) (dueJ fs dn ((D, LCg.lst acc1) :: six L o1 o2 o3 (tabObj q1) (tabObj q2) (tabObj q3) tlx)) (cl := [(Str.ofString "files", L + 1), (Str.ofString "drawn", L + 1 + 1)]) (by with_unfolding_all rfl) (by decide) (by rfl) (by decide) (by rfl) (by rfl) ?hJz2 ?hJl2 ?hJn2 ?hiter2 ?turn2 ?done2
    case hJz2 =>
      rintro items ax i acc nw ⟨k, rfl, h1, h2, h3, h4⟩
      rw [h1.length, sizeLine_eq]; decide
    case hJl2 =>
      rintro items ax i acc nw h ⟨k, rfl, h1, h2, h3, h4⟩ F5 N5
      exact N5.isList (.head _)
    case hJn2 =>
      rintro items ax i acc nw ⟨k, rfl, h1, h2, h3, h4⟩
      exact h3
    case hiter2 =>
      intro K hK
      k_steps
      rename News _ _ _ _ => N1
      rename Fr _ _ _ _ => F1
      rename_i la h1 l1
      exact hK _ la h1 _ _ F1 N1 ⟨0, rfl, .cons _ _ (.cons _ _ (.cons _ _ (.cons _ _ .nil))), by decide, rfl, fun j r e => by simp at e⟩
    case turn2 =>
      rintro items ax i v acc nw hv ⟨k, rfl, h1, h2', h3, h4'⟩ I oI C oC D2 m₂ h8 tk8 E' hoC hx hoff3 hIC hID hCD F8 N8
      clear F5 N5
      obtain ⟨nm, tn, rfl, hnm⟩ := h1.item i v hv
      obtain ⟨i4, hn20, _⟩ := name_len hnm
      have hgb : ∀ p ∈ (D, LCg.lst acc1) :: six L o1 o2 o3 (tabObj q1) (tabObj q2) (tabObj q3) tlx, h8.get? p.1 = some p.2 := fun p hp => (N8 p (.tail _ (.tail _ (.tail _ (.tail _ hp))))).1
      k_steps
      all_goals delta Stop
      have hdl : h8.get? da = some (W.listOf ds.toArray n) := hgb _ (hgetB _ hda)
      refine Cl.use (due_ok fa da fs ds dn nm tn hn20 hfs) B F8 X N8 T rfl (by k_units) (by k_units) ⟨hsF h8 fun p hp => hgb p (hgetB p hp), ⟨_, hdl, rfl, _, rfl⟩, hdi⟩ ?_
      rintro r tl3 h9 tk9 ⟨hans, rfl⟩ F9 N9 _ kp
      dsimp only [List.nil_append] at N9
      refine ⟨_, h9, tk9, rfl, F9, N9, hoff3, k, rfl, h1, i4, by rw [List.length_append, h3]; rfl, fun j r' hj => ?_⟩
      by_cases hlt : j < acc.length
      · rw [List.getElem?_append_left hlt] at hj
        exact h4' j r' hj
      · rw [List.getElem?_append_right (Nat.le_of_not_lt hlt)] at hj
        have hj2 := (List.getElem?_eq_some_iff.mp hj).1
        simp only [List.length_cons, List.length_nil] at hj2
        have hji : j = i := by omega
        subst hji
        rw [h3, Nat.sub_self] at hj
        simp only [List.getElem?_cons_zero, Option.some.injEq] at hj
        subst hj
        exact ⟨nm, hnm, hans⟩
    case done2 =>
      rintro items2 ax2 D2 h8 tk8 acc nw ⟨k2, rfl, h1, h2', h3, h4'⟩ F8 N8 hoffD2
      clear F5 N5
      have hil2 : items2.length = 4 := h1.length
      rw [hil2] at h3
      k_steps
      all_goals delta Stop
      have h1z : acc1.length = 4 := by rw [hacc1]; rfl
      refine SeqAt.eq_listAt (e := fun _ => true) (items := acc1.toArray) (items2 := acc.toArray) ⟨_, (N8 _ (.tail _ (.tail _ (.head _)))).1, rfl, _, rfl⟩ ⟨_, (N8 _ (.head _)).1, rfl, _, rfl⟩ (by rw [List.size_toArray, List.size_toArray, h1z, h3]) (by show (2400 : Nat) < cLine; decide) ?he ?_
      case he =>
        intro j j1 j2
        refine pairs_eq ?_
        rw [List.size_toArray] at j1 j2
        have e2 : acc[j]? = some acc[j] := List.getElem?_eq_getElem j2
        obtain ⟨nm, hnm, hans⟩ := h4' j _ e2
        have e1 : acc1[j]? = some (toldV fs nm (ts.map (·.2))) := by
          rw [hacc1, List.getElem?_map, show namesL.take 4 = namesL from rfl, hnm]; rfl
        have e3 : acc1.toArray[j] = toldV fs nm (ts.map (·.2)) := by
          rw [List.getElem?_eq_getElem j1] at e1
          simpa using e1
        have e4 : acc.toArray[j] = acc[j] := by simp
        rw [e3, e4, hts]
        exact pure_law fs hm dn nm _ hans
      have hall : ((List.range acc1.toArray.size).all fun _ => true) = true := by simp
      rw [hall]
      k_steps
      all_goals exact hq q1 q2 q3 _ _ _ F8 N8 (.tail _ (.tail _ (.tail _ (.tail _ (.tail _ (.tail _ (.head _))))))) (.tail _ (.tail _ (.tail _ (.tail _ (.tail _ (.tail _ (.tail _ (.head _)))))))) (.tail _ (.tail _ (.tail _ (.tail _ (.tail _ (.tail _ (.tail _ (.tail _ (.head _)))))))))
end
end Mine
end
section
open PySem PySem.W PySem.W.X PySem.Spec PySem.Calls PyProof.Rows
set_option maxRecDepth 100000
set_option maxHeartbeats 8000000
namespace Mine
theorem lawBody4 : lawD.2.1 = [lawD.2.1.getD 0 (.Pass ⟨0, 0, 0, 0⟩), lawD.2.1.getD 1 (.Pass ⟨0, 0, 0, 0⟩), lawD.2.1.getD 2 (.Pass ⟨0, 0, 0, 0⟩), lawD.2.1.getD 3 (.Pass ⟨0, 0, 0, 0⟩)] := by rfl
theorem stab_len {rs : List Nat} (h : rs.length ≤ 8) : (stab rs).length ≤ 100 := by
  unfold stab
  rw [List.length_flatMap]
  have e : ∀ r, ((List.range rs.length).filter fun i => rs.getD i 0 == r).length ≤ 8 := fun r => Nat.le_trans (List.length_filter_le _ _) (by rw [List.length_range]; exact h)
  show (List.map _ [0, 1, 2, 3]).sum ≤ 100
  simp only [List.map_cons, List.map_nil, List.sum_cons, List.sum_nil]
  have := e 0; have := e 1; have := e 2; have := e 3
  omega
section
variable {w : World} {p : Program} {lo : List Str} {mean : ExcName → Option Value} {mg mb : Str → Option Value} {gd : Option (List Code)} {a : Addr} {outer : List Env} {A₀ : Around} {base h₀ : Heap} {L : Addr} {m : Str → Option Value} {s : Shared} {Q : Flow → Shared → Prop} {E : Value → Shared → Prop}
theorem law_body {sa : Addr} {vs : List Value} {ns : List Int} {o1 o2 o3 : Obj}
    (B : Below A₀ base outer h₀) (X : (hd.heap_1 w.params).In h₀) (T : Top p lo mean mg mb h₀) (hcd : CodeHd h₀ 229 227) (hl : h₀.IsList sa vs.toArray) (hi : IntsAre vs ns) (hn : ns.length ≤ 63)
    (hm : m = fun y => if y = Str.ofString "script" then some (.ref sa) else none) (S : LawSt h₀ L m o1 o2 o3 (tabObj #[]) (tabObj #[]) (tabObj #[]) [] s.heap)
    (h1 : o1.data = .cell none) (h2 : o2.data = .cell none) (h3 : o3.data = .cell none)
    (hq : ∀ q1 q2 q3 news h' tk', Fr h₀ L h' m → News h₀ L h' news → ((215 : Addr), tabObj q1) ∈ news → ((23 : Addr), tabObj q2) ∈ news → ((227 : Addr), tabObj q3) ∈ news → Q (.ret (.bool true)) { s with heap := h', toks := tk' }) :
    wpAny (model PySem.Challenge.pw_pd0110_01 w) (lawTop lawD.2.2 L a gd outer) (execs lawD.2.1 (lawEnv lawD.2.2 L a)) Q E s := by
  rw [lawBody4]
  refine wpAny_execs_cons (st_files B X T hl hi hm hn S h1 fun fa fs tl o1' hA tkA SA d1 hsup hlen hmodes => ?_)
  refine wpAny_execs_cons (st_drawn B X T hl hi hm hn SA h2 fun da ds n o2' hB tkB SB d2 hdi => ?_)
  have hz : (([41, 22, 0, 31] : List Int) ++ ns.take 4).length ≤ 8 := by rw [List.length_append, List.length_take]; simp only [List.length_cons, List.length_nil]; omega
  refine wpAny_execs_cons (st_order (p2 := tabObj #[]) (p3 := tabObj #[]) B X T d2 (.head _) hcd hdi hz (ns.take 4) rfl (by rw [List.length_take]; omega) SB h3 fun oa ts q2 q3 o3' tl' hC tkC SC d3 hsub hsO heq => ?_)
  have hts : ts.length ≤ 100 := by
    have e := congrArg List.length heq
    rw [List.length_map, List.length_map] at e
    rw [e]
    exact stab_len (by rw [List.length_map]; exact hz)
  refine wpAny_execs_cons (st_ret B X T d1 d2 d3 (hsub _ (.head _)) hdi hz ((hsup.of fun p hp => .tail _ hp).of hsub) hsO hlen hmodes heq hts SC ?_)
  exact hq
end
end Mine
end
open PySem PySem.W PySem.W.X PySem.Spec PySem.Calls PyProof.Rows Mine
set_option maxRecDepth 100000 in
set_option maxHeartbeats 8000000 in
theorem PySem.Challenge.cw_pd0110_01_holds : PySem.Challenge.rw_pd0110_01.Holds := by
  exact Mine.hd (by
  k_go0
  rename News _ _ _ _ => N1
  rename Fr _ _ _ _ => F1
  rename Below _ _ _ _ => B1
  rename Top _ _ _ _ _ _ => T1
  rename Frag.In _ _ => X1
  rename IntsAre _ _ => hI1
  rename ¬ _ => hn1
  rename _ < _ ∧ _ => hl1
  rename _ = #[] => hg1
  refine wpAny_le (law_body (outer := []) B1 X1 T1 codeHd lifted hI1 (by omega) ?hm ⟨F1, N1, hl1, fun _ h => nomatch h⟩ ?h1 ?h2 ?h3 ?cont) rfl ?e1 ?e2 rfl rfl
  case hm => funext y; with_unfolding_all rfl
  case h1 => with_unfolding_all assumption
  case h2 => with_unfolding_all assumption
  case h3 => with_unfolding_all assumption
  case e1 => first | exact Nat.le_of_ble_eq_true rfl | (simp only [depth_deeper, depth_caller]; decide)
  case e2 => first | exact Nat.le_of_ble_eq_true rfl | decide
  case cont =>
    intro q1 q2 q3 news h' tk' F' N' m1 m2 m3
    clear F1 N1
    refine ⟨?_, GrownAt.of N' m1, GrownAt.of N' m2, GrownAt.of N' m3, True.intro⟩
    exact goodW_bool F' hg1 (fun _ => by with_unfolding_all rfl) (by with_unfolding_all rfl))
