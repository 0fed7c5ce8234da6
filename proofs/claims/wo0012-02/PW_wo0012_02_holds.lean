import PyProof.Rows.All
import Wide.All
import OpenK.AllK
import Wide.FinOn
import KE.KBoundM
import KE.KxBytes
import KE.KBytesCut
import KE.KUnpack
import PyProof.GenQ
import KE.KNest
import KE.KEqDat
import PySem.Challenge.RW_wo0012_02
set_option Elab.async false
set_option genInjectivity false
set_option genSizeOf false
set_option genCtorIdx false
section
set_option Elab.async false
set_option maxRecDepth 100000
set_option linter.unusedVariables false
set_option linter.all false
namespace M02.Internal
noncomputable section
open PySem PySem.W
noncomputable abbrev pw : Program := PySem.Challenge.pw_wo0012_02
noncomputable def stm (i : Nat) : Stmt := pw.main.body.getD i (.Pass ⟨0, 0, 0, 0⟩)
noncomputable def inCls (s : Stmt) (j : Nat) : Stmt := match s with
  | .ClassDef _ _ _ b .. => b.getD j (.Pass ⟨0, 0, 0, 0⟩)
  | s => s
noncomputable def fdat (s : Stmt) (qual : Str) (glob : Nat) (pm cd : Value) (bi : Nat) : FuncData := match s with
  | .FunctionDef n a b _ _ _ sc _ _ _ => { name := n, qualname := qual, params := a, body := .stmts b, scope := sc, globals := glob, closure := [], defaults := .none, kwdefaults := .none, pyModule := pm, code := cd, builtins := bi }
  | _ => default
noncomputable def o11 (P : Params) : Obj := ⟨(.type "tuple"), none, (.seq #[] 0), #[]⟩
noncomputable def o12 (P : Params) : Obj := ⟨.none, none, (.fields #[]), #[]⟩
noncomputable def o13 (P : Params) : Obj := ⟨(.type "code"), none, (.fields #[(.str (Str.ofString "<module>") 182), (.str (Str.ofString "<module>") 183), (.str (Str.ofString "/claim/cut.py") 184), (.int (1) 0), (.int (0) 0), (.int (0) 0), (.int (0) 0), (.int (0) 0), (.ref 11), (.bool false), (.int (181) 0), (.ref 12), .none, .none, .none, .none, (.int (185) 0), (.int (1) 0), (.str (Str.ofString "/claim/cut.py") 186)]), #[]⟩
noncomputable def o14 (P : Params) : Obj := ⟨(.type "frame"), none, .plain, #[(some (.ref 13)), (some (.ref 3)), (some (.ref 3)), none, (some (.str (Str.ofString "__main__") 164)), none, (some (.ref 0))]⟩
noncomputable def t0 (P : Params) : BT := (.node (boot_o_0 P) (.node (boot_o_1 P) (.node (boot_o_3 P) (.node (boot_o_7 P) .nil .nil) (.node (o11 P) .nil .nil)) (.node (boot_o_5 P) (.node (boot_o_9 P) .nil .nil) (.node (o13 P) .nil .nil))) (.node (boot_o_2 P) (.node (boot_o_4 P) (.node (boot_o_8 P) .nil .nil) (.node (o12 P) .nil .nil)) (.node (boot_o_6 P) (.node (boot_o_10 P) .nil .nil) (.node (o14 P) .nil .nil))))
noncomputable def S0 (w : World) (os : OsState) : SharedT := ⟨t0 w.params, 15, {}, #[], {}, 187, os⟩
noncomputable def o3 (P : Params) : Obj := ⟨(.type "dict"), none, (.dict #[⟨PyData.keyHash P (Str.ofString "__name__"), (.str (Str.ofString "__name__") 165), (.str (Str.ofString "cpy313.stringprep") 272)⟩, ⟨PyData.keyHash P (Str.ofString "__doc__"), (.str (Str.ofString "__doc__") 166), .none⟩, ⟨PyData.keyHash P (Str.ofString "__package__"), (.str (Str.ofString "__package__") 167), .none⟩, ⟨PyData.keyHash P (Str.ofString "__loader__"), (.str (Str.ofString "__loader__") 168), (.builtin "__main__.__loader__#opaque")⟩, ⟨PyData.keyHash P (Str.ofString "__spec__"), (.str (Str.ofString "__spec__") 169), .none⟩, ⟨PyData.keyHash P (Str.ofString "__annotations__"), (.str (Str.ofString "__annotations__") 170), (.ref 6)⟩, ⟨PyData.keyHash P (Str.ofString "__builtins__"), (.str (Str.ofString "__builtins__") 171), (.ref 4)⟩, ⟨PyData.keyHash P (Str.ofString "__file__"), (.str (Str.ofString "__file__") 173), (.str (Str.ofString "/claim/cut.py") 172)⟩, ⟨PyData.keyHash P (Str.ofString "__cached__"), (.str (Str.ofString "__cached__") 174), .none⟩, ⟨PyData.keyHash P (Str.ofString "Int2AP"), (.str (Str.ofString "Int2AP") 198), (.ref 21)⟩, ⟨PyData.keyHash P (Str.ofString "CHAR_MAX"), (.str (Str.ofString "CHAR_MAX") 202), (.int (127) 201)⟩, ⟨PyData.keyHash P (Str.ofString "_grouping_intervals"), (.str (Str.ofString "_grouping_intervals") 211), (.ref 28)⟩, ⟨PyData.keyHash P (Str.ofString "_netrclex"), (.str (Str.ofString "_netrclex") 271), (.ref 66)⟩] 13), #[]⟩
noncomputable def o12v1 (P : Params) : Obj := ⟨.none, none, (.fields #[(.int (2) 0), (.int (0) 0), (.ref 20), (.int (12) 0), (.int (0) 0), (.ref 27), (.int (25) 0), (.int (0) 0), (.ref 34)]), #[]⟩
noncomputable def o15 (P : Params) : Obj := ⟨(.type "tuple"), none, (.seq #[] 0), #[]⟩
noncomputable def o16 (P : Params) : Obj := ⟨.none, none, (.fields #[]), #[]⟩
noncomputable def o17 (P : Params) : Obj := ⟨(.type "tuple"), none, (.seq #[(.str (Str.ofString "num") 192), (.str (Str.ofString "val") 193), (.str (Str.ofString "AP") 194), (.str (Str.ofString "mod") 195)] 0), #[]⟩
noncomputable def o18 (P : Params) : Obj := ⟨(.type "tuple"), none, (.seq #[] 0), #[]⟩
noncomputable def o19 (P : Params) : Obj := ⟨.none, none, (.func (fdat (stm 1) (Str.ofString "Int2AP") 0 .none .none 0)), #[]⟩
noncomputable def o20 (P : Params) : Obj := ⟨(.type "code"), none, (.fields #[(.str (Str.ofString "Int2AP") 189), (.str (Str.ofString "Int2AP") 190), (.str (Str.ofString "/claim/cut.py") 191), (.int (2) 0), (.int (1) 0), (.int (0) 0), (.int (0) 0), (.int (3) 0), (.ref 15), (.bool true), (.int (181) 0), (.ref 16), .none, (.ref 17), (.ref 18), (.ref 19), (.int (196) 0), (.int (2) 0), (.str (Str.ofString "/claim/cut.py") 197)]), #[]⟩
noncomputable def o21 (P : Params) : Obj := ⟨(.type "function"), none, (.func (fdat (stm 1) (Str.ofString "Int2AP") 3 (.str (Str.ofString "cpy313.imaplib") 187) (.ref 20) 0)), #[]⟩
noncomputable def o22 (P : Params) : Obj := ⟨(.type "tuple"), none, (.seq #[] 0), #[]⟩
noncomputable def o23 (P : Params) : Obj := ⟨.none, none, (.fields #[]), #[]⟩
noncomputable def o24 (P : Params) : Obj := ⟨(.type "tuple"), none, (.seq #[(.str (Str.ofString "grouping") 206), (.str (Str.ofString "last_interval") 207), (.str (Str.ofString "interval") 208)] 0), #[]⟩
noncomputable def o25 (P : Params) : Obj := ⟨(.type "tuple"), none, (.seq #[] 0), #[]⟩
noncomputable def o26 (P : Params) : Obj := ⟨.none, none, (.func (fdat (stm 4) (Str.ofString "_grouping_intervals") 0 .none .none 0)), #[]⟩
noncomputable def o27 (P : Params) : Obj := ⟨(.type "code"), none, (.fields #[(.str (Str.ofString "_grouping_intervals") 203), (.str (Str.ofString "_grouping_intervals") 204), (.str (Str.ofString "/claim/cut.py") 205), (.int (12) 0), (.int (1) 0), (.int (0) 0), (.int (0) 0), (.int (35) 0), (.ref 22), (.bool true), (.int (181) 0), (.ref 23), .none, (.ref 24), (.ref 25), (.ref 26), (.int (209) 0), (.int (12) 0), (.str (Str.ofString "/claim/cut.py") 210)]), #[]⟩
noncomputable def o28 (P : Params) : Obj := ⟨(.type "function"), none, (.func (fdat (stm 4) (Str.ofString "_grouping_intervals") 3 (.str (Str.ofString "cpy313.locale") 199) (.ref 27) 0)), #[]⟩
noncomputable def o29 (P : Params) : Obj := ⟨(.type "tuple"), none, (.seq #[] 0), #[]⟩
noncomputable def o30 (P : Params) : Obj := ⟨(.type "builtin_function_or_method"), none, (.fields #[(.builtin "type.__prepare__"), (.type "type")]), #[]⟩
noncomputable def o31 (P : Params) : Obj := ⟨(.type "dict"), none, (.dict #[⟨PyData.keyHash P (Str.ofString "__module__"), (.str (Str.ofString "__module__") 221), (.str (Str.ofString "cpy313.netrc") 212)⟩, ⟨PyData.keyHash P (Str.ofString "__qualname__"), (.str (Str.ofString "__qualname__") 223), (.str (Str.ofString "_netrclex") 222)⟩, ⟨PyData.keyHash P (Str.ofString "__firstlineno__"), (.str (Str.ofString "__firstlineno__") 225), (.int (25) 224)⟩, ⟨PyData.keyHash P (Str.ofString "__init__"), (.str (Str.ofString "__init__") 233), (.ref 42)⟩, ⟨PyData.keyHash P (Str.ofString "_read_char"), (.str (Str.ofString "_read_char") 241), (.ref 49)⟩, ⟨PyData.keyHash P (Str.ofString "get_token"), (.str (Str.ofString "get_token") 251), (.ref 56)⟩, ⟨PyData.keyHash P (Str.ofString "push_token"), (.str (Str.ofString "push_token") 259), (.ref 63)⟩, ⟨PyData.keyHash P (Str.ofString "__static_attributes__"), (.str (Str.ofString "__static_attributes__") 264), (.ref 64)⟩] 8), #[]⟩
noncomputable def o32 (P : Params) : Obj := ⟨(.type "tuple"), none, (.seq #[] 0), #[]⟩
noncomputable def o33 (P : Params) : Obj := ⟨.none, none, (.fields #[(.int (27) 0), (.int (4) 0), (.ref 41), (.int (33) 0), (.int (4) 0), (.ref 48), (.int (39) 0), (.int (4) 0), (.ref 55), (.int (66) 0), (.int (4) 0), (.ref 62)]), #[]⟩
noncomputable def o34 (P : Params) : Obj := ⟨(.type "code"), none, (.fields #[(.str (Str.ofString "_netrclex") 216), (.str (Str.ofString "_netrclex") 217), (.str (Str.ofString "/claim/cut.py") 218), (.int (25) 0), (.int (0) 0), (.int (0) 0), (.int (0) 0), (.int (0) 0), (.ref 32), (.bool false), (.int (181) 0), (.ref 33), .none, .none, .none, .none, (.int (219) 0), (.int (25) 0), (.str (Str.ofString "/claim/cut.py") 220)]), #[]⟩
noncomputable def o35 (P : Params) : Obj := ⟨(.type "frame"), none, .plain, #[(some (.ref 34)), (some (.ref 3)), (some (.ref 31)), none, (some (.str (Str.ofString "cpy313.netrc") 212)), none, (some (.ref 0))]⟩
noncomputable def o36 (P : Params) : Obj := ⟨(.type "tuple"), none, (.seq #[] 0), #[]⟩
noncomputable def o37 (P : Params) : Obj := ⟨.none, none, (.fields #[]), #[]⟩
noncomputable def o38 (P : Params) : Obj := ⟨(.type "tuple"), none, (.seq #[(.str (Str.ofString "self") 229), (.str (Str.ofString "fp") 230)] 0), #[]⟩
noncomputable def o39 (P : Params) : Obj := ⟨(.type "tuple"), none, (.seq #[] 0), #[]⟩
noncomputable def o40 (P : Params) : Obj := ⟨.none, none, (.func (fdat (inCls (stm 6) 0) (Str.ofString "_netrclex.__init__") 0 .none .none 0)), #[]⟩
noncomputable def o41 (P : Params) : Obj := ⟨(.type "code"), none, (.fields #[(.str (Str.ofString "__init__") 226), (.str (Str.ofString "_netrclex.__init__") 227), (.str (Str.ofString "/claim/cut.py") 228), (.int (27) 0), (.int (2) 0), (.int (0) 0), (.int (0) 0), (.int (3) 0), (.ref 36), (.bool true), (.int (181) 0), (.ref 37), .none, (.ref 38), (.ref 39), (.ref 40), (.int (231) 0), (.int (27) 0), (.str (Str.ofString "/claim/cut.py") 232)]), #[]⟩
noncomputable def o42 (P : Params) : Obj := ⟨(.type "function"), none, (.func (fdat (inCls (stm 6) 0) (Str.ofString "_netrclex.__init__") 3 (.str (Str.ofString "cpy313.netrc") 212) (.ref 41) 0)), #[]⟩
noncomputable def o43 (P : Params) : Obj := ⟨(.type "tuple"), none, (.seq #[] 0), #[]⟩
noncomputable def o44 (P : Params) : Obj := ⟨.none, none, (.fields #[]), #[]⟩
noncomputable def o45 (P : Params) : Obj := ⟨(.type "tuple"), none, (.seq #[(.str (Str.ofString "self") 237), (.str (Str.ofString "ch") 238)] 0), #[]⟩
noncomputable def o46 (P : Params) : Obj := ⟨(.type "tuple"), none, (.seq #[] 0), #[]⟩
noncomputable def o47 (P : Params) : Obj := ⟨.none, none, (.func (fdat (inCls (stm 6) 1) (Str.ofString "_netrclex._read_char") 0 .none .none 0)), #[]⟩
noncomputable def o48 (P : Params) : Obj := ⟨(.type "code"), none, (.fields #[(.str (Str.ofString "_read_char") 234), (.str (Str.ofString "_netrclex._read_char") 235), (.str (Str.ofString "/claim/cut.py") 236), (.int (33) 0), (.int (1) 0), (.int (0) 0), (.int (0) 0), (.int (3) 0), (.ref 43), (.bool true), (.int (181) 0), (.ref 44), .none, (.ref 45), (.ref 46), (.ref 47), (.int (239) 0), (.int (33) 0), (.str (Str.ofString "/claim/cut.py") 240)]), #[]⟩
noncomputable def o49 (P : Params) : Obj := ⟨(.type "function"), none, (.func (fdat (inCls (stm 6) 1) (Str.ofString "_netrclex._read_char") 3 (.str (Str.ofString "cpy313.netrc") 212) (.ref 48) 0)), #[]⟩
noncomputable def o50 (P : Params) : Obj := ⟨(.type "tuple"), none, (.seq #[] 0), #[]⟩
noncomputable def o51 (P : Params) : Obj := ⟨.none, none, (.fields #[]), #[]⟩
noncomputable def o52 (P : Params) : Obj := ⟨(.type "tuple"), none, (.seq #[(.str (Str.ofString "self") 245), (.str (Str.ofString "token") 246), (.str (Str.ofString "fiter") 247), (.str (Str.ofString "ch") 248)] 0), #[]⟩
noncomputable def o53 (P : Params) : Obj := ⟨(.type "tuple"), none, (.seq #[] 0), #[]⟩
noncomputable def o54 (P : Params) : Obj := ⟨.none, none, (.func (fdat (inCls (stm 6) 2) (Str.ofString "_netrclex.get_token") 0 .none .none 0)), #[]⟩
noncomputable def o55 (P : Params) : Obj := ⟨(.type "code"), none, (.fields #[(.str (Str.ofString "get_token") 242), (.str (Str.ofString "_netrclex.get_token") 243), (.str (Str.ofString "/claim/cut.py") 244), (.int (39) 0), (.int (1) 0), (.int (0) 0), (.int (0) 0), (.int (3) 0), (.ref 50), (.bool true), (.int (181) 0), (.ref 51), .none, (.ref 52), (.ref 53), (.ref 54), (.int (249) 0), (.int (39) 0), (.str (Str.ofString "/claim/cut.py") 250)]), #[]⟩
noncomputable def o56 (P : Params) : Obj := ⟨(.type "function"), none, (.func (fdat (inCls (stm 6) 2) (Str.ofString "_netrclex.get_token") 3 (.str (Str.ofString "cpy313.netrc") 212) (.ref 55) 0)), #[]⟩
noncomputable def o57 (P : Params) : Obj := ⟨(.type "tuple"), none, (.seq #[] 0), #[]⟩
noncomputable def o58 (P : Params) : Obj := ⟨.none, none, (.fields #[]), #[]⟩
noncomputable def o59 (P : Params) : Obj := ⟨(.type "tuple"), none, (.seq #[(.str (Str.ofString "self") 255), (.str (Str.ofString "token") 256)] 0), #[]⟩
noncomputable def o60 (P : Params) : Obj := ⟨(.type "tuple"), none, (.seq #[] 0), #[]⟩
noncomputable def o61 (P : Params) : Obj := ⟨.none, none, (.func (fdat (inCls (stm 6) 3) (Str.ofString "_netrclex.push_token") 0 .none .none 0)), #[]⟩
noncomputable def o62 (P : Params) : Obj := ⟨(.type "code"), none, (.fields #[(.str (Str.ofString "push_token") 252), (.str (Str.ofString "_netrclex.push_token") 253), (.str (Str.ofString "/claim/cut.py") 254), (.int (66) 0), (.int (2) 0), (.int (0) 0), (.int (0) 0), (.int (3) 0), (.ref 57), (.bool true), (.int (181) 0), (.ref 58), .none, (.ref 59), (.ref 60), (.ref 61), (.int (257) 0), (.int (66) 0), (.str (Str.ofString "/claim/cut.py") 258)]), #[]⟩
noncomputable def o63 (P : Params) : Obj := ⟨(.type "function"), none, (.func (fdat (inCls (stm 6) 3) (Str.ofString "_netrclex.push_token") 3 (.str (Str.ofString "cpy313.netrc") 212) (.ref 62) 0)), #[]⟩
noncomputable def o64 (P : Params) : Obj := ⟨(.type "tuple"), none, (.seq #[(.str (Str.ofString "instream") 260), (.str (Str.ofString "lineno") 261), (.str (Str.ofString "pushback") 262), (.str (Str.ofString "whitespace") 263)] 0), #[]⟩
noncomputable def o65 (P : Params) : Obj := ⟨(.type "dict"), none, (.dict #[⟨PyData.keyHash P (Str.ofString "__module__"), (.str (Str.ofString "__module__") 221), (.str (Str.ofString "cpy313.netrc") 212)⟩, ⟨PyData.keyHash P (Str.ofString "__firstlineno__"), (.str (Str.ofString "__firstlineno__") 225), (.int (25) 224)⟩, ⟨PyData.keyHash P (Str.ofString "__init__"), (.str (Str.ofString "__init__") 233), (.ref 42)⟩, ⟨PyData.keyHash P (Str.ofString "_read_char"), (.str (Str.ofString "_read_char") 241), (.ref 49)⟩, ⟨PyData.keyHash P (Str.ofString "get_token"), (.str (Str.ofString "get_token") 251), (.ref 56)⟩, ⟨PyData.keyHash P (Str.ofString "push_token"), (.str (Str.ofString "push_token") 259), (.ref 63)⟩, ⟨PyData.keyHash P (Str.ofString "__static_attributes__"), (.str (Str.ofString "__static_attributes__") 264), (.ref 64)⟩, ⟨PyData.keyHash P (Str.ofString "__dict__"), (.str (Str.ofString "__dict__") 266), (.ref 67)⟩, ⟨PyData.keyHash P (Str.ofString "__weakref__"), (.str (Str.ofString "__weakref__") 268), (.ref 68)⟩, ⟨PyData.keyHash P (Str.ofString "__doc__"), (.str (Str.ofString "__doc__") 269), .none⟩] 4), #[]⟩
noncomputable def o66 (P : Params) : Obj := ⟨(.type "type"), none, (.cls { name := (Str.ofString "_netrclex"), bases := [(.type "object")], mro := [(.ref 66), (.type "object")], ns := 65, qualname := (Str.ofString "_netrclex"), hasDict := true, slotNames := [], subclasses := [], abstract := false, collection := none, hasDel := false }), #[none, none, (some (.str (Str.ofString "_netrclex") 214)), (some (.str (Str.ofString "_netrclex") 222)), (some (.builtin "object.__new__")), (some (.bool true))]⟩
noncomputable def o67 (P : Params) : Obj := ⟨(.type "getset_descriptor"), none, (.fields #[(.str (Str.ofString "__dict__") 265), (.ref 66), (.builtin "function.__dict__"), (.builtin "function.__dict__#set")]), #[]⟩
noncomputable def o68 (P : Params) : Obj := ⟨(.type "getset_descriptor"), none, (.fields #[(.str (Str.ofString "__weakref__") 267), (.ref 66), (.builtin "ExceptionGroup.__weakref__"), .none]), #[]⟩
noncomputable def o69 (P : Params) : Obj := ⟨(.type "super"), none, (.fields #[(.ref 66), (.ref 66), (.ref 66)]), #[]⟩
noncomputable def o70 (P : Params) : Obj := ⟨(.type "builtin_function_or_method"), none, (.fields #[(.builtin "object.__init_subclass__"), (.ref 66)]), #[]⟩
noncomputable def t8 (P : Params) : BT := (.node (boot_o_0 P) (.node (boot_o_1 P) (.node (o3 P) (.node (boot_o_7 P) (.node (o15 P) (.node (o31 P) (.node (o63 P) .nil .nil) .nil) (.node (o47 P) .nil .nil)) (.node (o23 P) (.node (o39 P) .nil .nil) (.node (o55 P) .nil .nil))) (.node (o11 P) (.node (o19 P) (.node (o35 P) (.node (o67 P) .nil .nil) .nil) (.node (o51 P) .nil .nil)) (.node (o27 P) (.node (o43 P) .nil .nil) (.node (o59 P) .nil .nil)))) (.node (boot_o_5 P) (.node (boot_o_9 P) (.node (o17 P) (.node (o33 P) (.node (o65 P) .nil .nil) .nil) (.node (o49 P) .nil .nil)) (.node (o25 P) (.node (o41 P) .nil .nil) (.node (o57 P) .nil .nil))) (.node (o13 P) (.node (o21 P) (.node (o37 P) (.node (o69 P) .nil .nil) .nil) (.node (o53 P) .nil .nil)) (.node (o29 P) (.node (o45 P) .nil .nil) (.node (o61 P) .nil .nil))))) (.node (boot_o_2 P) (.node (boot_o_4 P) (.node (boot_o_8 P) (.node (o16 P) (.node (o32 P) (.node (o64 P) .nil .nil) .nil) (.node (o48 P) .nil .nil)) (.node (o24 P) (.node (o40 P) .nil .nil) (.node (o56 P) .nil .nil))) (.node (o12v1 P) (.node (o20 P) (.node (o36 P) (.node (o68 P) .nil .nil) .nil) (.node (o52 P) .nil .nil)) (.node (o28 P) (.node (o44 P) .nil .nil) (.node (o60 P) .nil .nil)))) (.node (boot_o_6 P) (.node (boot_o_10 P) (.node (o18 P) (.node (o34 P) (.node (o66 P) .nil .nil) .nil) (.node (o50 P) .nil .nil)) (.node (o26 P) (.node (o42 P) .nil .nil) (.node (o58 P) .nil .nil))) (.node (o14 P) (.node (o22 P) (.node (o38 P) (.node (o70 P) .nil .nil) .nil) (.node (o54 P) .nil .nil)) (.node (o30 P) (.node (o46 P) .nil .nil) (.node (o62 P) .nil .nil))))))
noncomputable def S8 (w : World) (os : OsState) : SharedT := ⟨t8 w.params, 71, {}, #[], {}, 274, os⟩
noncomputable def o3v1 (P : Params) : Obj := ⟨(.type "dict"), none, (.dict #[⟨PyData.keyHash P (Str.ofString "__name__"), (.str (Str.ofString "__name__") 165), (.str (Str.ofString "cpy313.stringprep") 272)⟩, ⟨PyData.keyHash P (Str.ofString "__doc__"), (.str (Str.ofString "__doc__") 166), .none⟩, ⟨PyData.keyHash P (Str.ofString "__package__"), (.str (Str.ofString "__package__") 167), .none⟩, ⟨PyData.keyHash P (Str.ofString "__loader__"), (.str (Str.ofString "__loader__") 168), (.builtin "__main__.__loader__#opaque")⟩, ⟨PyData.keyHash P (Str.ofString "__spec__"), (.str (Str.ofString "__spec__") 169), .none⟩, ⟨PyData.keyHash P (Str.ofString "__annotations__"), (.str (Str.ofString "__annotations__") 170), (.ref 6)⟩, ⟨PyData.keyHash P (Str.ofString "__builtins__"), (.str (Str.ofString "__builtins__") 171), (.ref 4)⟩, ⟨PyData.keyHash P (Str.ofString "__file__"), (.str (Str.ofString "__file__") 173), (.str (Str.ofString "/claim/cut.py") 172)⟩, ⟨PyData.keyHash P (Str.ofString "__cached__"), (.str (Str.ofString "__cached__") 174), .none⟩, ⟨PyData.keyHash P (Str.ofString "Int2AP"), (.str (Str.ofString "Int2AP") 198), (.ref 21)⟩, ⟨PyData.keyHash P (Str.ofString "CHAR_MAX"), (.str (Str.ofString "CHAR_MAX") 202), (.int (127) 201)⟩, ⟨PyData.keyHash P (Str.ofString "_grouping_intervals"), (.str (Str.ofString "_grouping_intervals") 211), (.ref 28)⟩, ⟨PyData.keyHash P (Str.ofString "_netrclex"), (.str (Str.ofString "_netrclex") 271), (.ref 66)⟩, ⟨PyData.keyHash P (Str.ofString "b1_set"), (.str (Str.ofString "b1_set") 333), (.ref 78)⟩] 14), #[]⟩
noncomputable def o71 (P : Params) : Obj := ⟨(.type "list"), none, (.seq #[(.int (173) 274), (.int (847) 275), (.int (6150) 276), (.int (6155) 277), (.int (6156) 278), (.int (6157) 279), (.int (8203) 280), (.int (8204) 281), (.int (8205) 282), (.int (8288) 283), (.int (65279) 284)] 0), #[]⟩
noncomputable def o72 (P : Params) : Obj := ⟨(.type "range"), none, (.fields #[(.int (65024) 285), (.int (65040) 286), (.int (1) 287)]), #[]⟩
noncomputable def o73 (P : Params) : Obj := ⟨(.type "list"), none, (.seq #[(.int (65024) 290), (.int (65025) 291), (.int (65026) 292), (.int (65027) 293), (.int (65028) 294), (.int (65029) 295), (.int (65030) 296), (.int (65031) 297), (.int (65032) 298), (.int (65033) 299), (.int (65034) 300), (.int (65035) 301), (.int (65036) 302), (.int (65037) 303), (.int (65038) 304), (.int (65039) 305)] 18), #[]⟩
noncomputable def o74 (P : Params) : Obj := ⟨(.type "range_iterator"), none, (.fields #[(.int (65040) 0), (.int (0) 0), (.int (1) 0)]), #[]⟩
noncomputable def o75 (P : Params) : Obj := ⟨(.type "tuple"), none, (.seq #[] 0), #[]⟩
noncomputable def o76 (P : Params) : Obj := ⟨(.type "StopIteration"), none, (.fields #[(.ref 75), .none, .none, .none, (.bool false), .none]), #[]⟩
noncomputable def o77 (P : Params) : Obj := ⟨(.type "list"), none, (.seq #[(.int (173) 274), (.int (847) 275), (.int (6150) 276), (.int (6155) 277), (.int (6156) 278), (.int (6157) 279), (.int (8203) 280), (.int (8204) 281), (.int (8205) 282), (.int (8288) 283), (.int (65279) 284), (.int (65024) 290), (.int (65025) 291), (.int (65026) 292), (.int (65027) 293), (.int (65028) 294), (.int (65029) 295), (.int (65030) 296), (.int (65031) 297), (.int (65032) 298), (.int (65033) 299), (.int (65034) 300), (.int (65035) 301), (.int (65036) 302), (.int (65037) 303), (.int (65038) 304), (.int (65039) 305)] 0), #[]⟩
noncomputable def o78 (P : Params) : Obj := ⟨(.type "set"), none, (.set #[(65024, (.int (65024) 290)), (65025, (.int (65025) 291)), (65026, (.int (65026) 292)), (65027, (.int (65027) 293)), (65028, (.int (65028) 294)), (65029, (.int (65029) 295)), (6150, (.int (6150) 276)), (65030, (.int (65030) 296)), (65031, (.int (65031) 297)), (65032, (.int (65032) 298)), (65033, (.int (65033) 299)), (6155, (.int (6155) 277)), (6156, (.int (6156) 278)), (6157, (.int (6157) 279)), (8203, (.int (8203) 280)), (8204, (.int (8204) 281)), (8205, (.int (8205) 282)), (65034, (.int (65034) 300)), (65035, (.int (65035) 301)), (65036, (.int (65036) 302)), (65037, (.int (65037) 303)), (65038, (.int (65038) 304)), (65039, (.int (65039) 305)), (173, (.int (173) 274)), (847, (.int (847) 275)), (8288, (.int (8288) 283)), (65279, (.int (65279) 284))] 29 ⟨127, #[0, 1, 2, 3, 4, 5, 6, 7, 8, 9, 10, 11, 12, 13, 14, 15, 16, 17, 18, 19, 20, 21, 22, 45, 79, 96, 127], #[], 0, !P.followText "set-order", 2, true⟩), #[]⟩
noncomputable def o79 (P : Params) : Obj := ⟨(.type "list_iterator"), none, (.fields #[.none, (.int (27) 0)]), #[]⟩
noncomputable def o80 (P : Params) : Obj := ⟨(.type "tuple"), none, (.seq #[] 0), #[]⟩
noncomputable def o81 (P : Params) : Obj := ⟨(.type "StopIteration"), none, (.fields #[(.ref 80), .none, .none, .none, (.bool false), .none]), #[]⟩
noncomputable def t9 (P : Params) : BT := (.node (boot_o_0 P) (.node (boot_o_1 P) (.node (o3v1 P) (.node (boot_o_7 P) (.node (o15 P) (.node (o31 P) (.node (o63 P) .nil .nil) .nil) (.node (o47 P) (.node (o79 P) .nil .nil) .nil)) (.node (o23 P) (.node (o39 P) (.node (o71 P) .nil .nil) .nil) (.node (o55 P) .nil .nil))) (.node (o11 P) (.node (o19 P) (.node (o35 P) (.node (o67 P) .nil .nil) .nil) (.node (o51 P) .nil .nil)) (.node (o27 P) (.node (o43 P) (.node (o75 P) .nil .nil) .nil) (.node (o59 P) .nil .nil)))) (.node (boot_o_5 P) (.node (boot_o_9 P) (.node (o17 P) (.node (o33 P) (.node (o65 P) .nil .nil) .nil) (.node (o49 P) (.node (o81 P) .nil .nil) .nil)) (.node (o25 P) (.node (o41 P) (.node (o73 P) .nil .nil) .nil) (.node (o57 P) .nil .nil))) (.node (o13 P) (.node (o21 P) (.node (o37 P) (.node (o69 P) .nil .nil) .nil) (.node (o53 P) .nil .nil)) (.node (o29 P) (.node (o45 P) (.node (o77 P) .nil .nil) .nil) (.node (o61 P) .nil .nil))))) (.node (boot_o_2 P) (.node (boot_o_4 P) (.node (boot_o_8 P) (.node (o16 P) (.node (o32 P) (.node (o64 P) .nil .nil) .nil) (.node (o48 P) (.node (o80 P) .nil .nil) .nil)) (.node (o24 P) (.node (o40 P) (.node (o72 P) .nil .nil) .nil) (.node (o56 P) .nil .nil))) (.node (o12v1 P) (.node (o20 P) (.node (o36 P) (.node (o68 P) .nil .nil) .nil) (.node (o52 P) .nil .nil)) (.node (o28 P) (.node (o44 P) (.node (o76 P) .nil .nil) .nil) (.node (o60 P) .nil .nil)))) (.node (boot_o_6 P) (.node (boot_o_10 P) (.node (o18 P) (.node (o34 P) (.node (o66 P) .nil .nil) .nil) (.node (o50 P) .nil .nil)) (.node (o26 P) (.node (o42 P) (.node (o74 P) .nil .nil) .nil) (.node (o58 P) .nil .nil))) (.node (o14 P) (.node (o22 P) (.node (o38 P) (.node (o70 P) .nil .nil) .nil) (.node (o54 P) .nil .nil)) (.node (o30 P) (.node (o46 P) (.node (o78 P) .nil .nil) .nil) (.node (o62 P) .nil .nil))))))
noncomputable def S9 (w : World) (os : OsState) : SharedT := ⟨t9 w.params, 82, {}, #[], {}, 334, os⟩
noncomputable def o3v2 (P : Params) : Obj := ⟨(.type "dict"), none, (.dict #[⟨PyData.keyHash P (Str.ofString "__name__"), (.str (Str.ofString "__name__") 165), (.str (Str.ofString "law_wo0012_02") 341)⟩, ⟨PyData.keyHash P (Str.ofString "__doc__"), (.str (Str.ofString "__doc__") 166), .none⟩, ⟨PyData.keyHash P (Str.ofString "__package__"), (.str (Str.ofString "__package__") 167), .none⟩, ⟨PyData.keyHash P (Str.ofString "__loader__"), (.str (Str.ofString "__loader__") 168), (.builtin "__main__.__loader__#opaque")⟩, ⟨PyData.keyHash P (Str.ofString "__spec__"), (.str (Str.ofString "__spec__") 169), .none⟩, ⟨PyData.keyHash P (Str.ofString "__annotations__"), (.str (Str.ofString "__annotations__") 170), (.ref 6)⟩, ⟨PyData.keyHash P (Str.ofString "__builtins__"), (.str (Str.ofString "__builtins__") 171), (.ref 4)⟩, ⟨PyData.keyHash P (Str.ofString "__file__"), (.str (Str.ofString "__file__") 173), (.str (Str.ofString "/claim/cut.py") 172)⟩, ⟨PyData.keyHash P (Str.ofString "__cached__"), (.str (Str.ofString "__cached__") 174), .none⟩, ⟨PyData.keyHash P (Str.ofString "Int2AP"), (.str (Str.ofString "Int2AP") 198), (.ref 21)⟩, ⟨PyData.keyHash P (Str.ofString "CHAR_MAX"), (.str (Str.ofString "CHAR_MAX") 202), (.int (127) 201)⟩, ⟨PyData.keyHash P (Str.ofString "_grouping_intervals"), (.str (Str.ofString "_grouping_intervals") 211), (.ref 28)⟩, ⟨PyData.keyHash P (Str.ofString "_netrclex"), (.str (Str.ofString "_netrclex") 271), (.ref 66)⟩, ⟨PyData.keyHash P (Str.ofString "b1_set"), (.str (Str.ofString "b1_set") 333), (.ref 78)⟩, ⟨PyData.keyHash P (Str.ofString "in_table_b1"), (.str (Str.ofString "in_table_b1") 340), (.ref 88)⟩, ⟨PyData.keyHash P (Str.ofString "_law_cells"), (.str (Str.ofString "_law_cells") 351), (.ref 95)⟩, ⟨PyData.keyHash P (Str.ofString "_law_sign"), (.str (Str.ofString "_law_sign") 361), (.ref 102)⟩, ⟨PyData.keyHash P (Str.ofString "_law_card"), (.str (Str.ofString "_law_card") 367), (.ref 107)⟩, ⟨PyData.keyHash P (Str.ofString "_law_number"), (.str (Str.ofString "_law_number") 377), (.ref 114)⟩, ⟨PyData.keyHash P (Str.ofString "_law_lexer"), (.str (Str.ofString "_law_lexer") 387), (.ref 121)⟩, ⟨PyData.keyHash P (Str.ofString "_law_typed"), (.str (Str.ofString "_law_typed") 399), (.ref 128)⟩, ⟨PyData.keyHash P (Str.ofString "_law_line"), (.str (Str.ofString "_law_line") 405), (.ref 133)⟩, ⟨PyData.keyHash P (Str.ofString "_law_deal"), (.str (Str.ofString "_law_deal") 421), (.ref 140)⟩, ⟨PyData.keyHash P (Str.ofString "law"), (.str (Str.ofString "law") 427), (.ref 145)⟩] 24), #[]⟩
noncomputable def o12v2 (P : Params) : Obj := ⟨.none, none, (.fields #[(.int (2) 0), (.int (0) 0), (.ref 20), (.int (12) 0), (.int (0) 0), (.ref 27), (.int (25) 0), (.int (0) 0), (.ref 34), (.int (70) 0), (.int (0) 0), (.ref 87), (.int (73) 0), (.int (0) 0), (.ref 94), (.int (78) 0), (.int (0) 0), (.ref 101), (.int (85) 0), (.int (0) 0), (.ref 106), (.int (87) 0), (.int (0) 0), (.ref 113), (.int (95) 0), (.int (0) 0), (.ref 120), (.int (105) 0), (.int (0) 0), (.ref 127), (.int (112) 0), (.int (0) 0), (.ref 132), (.int (120) 0), (.int (0) 0), (.ref 139), (.int (137) 0), (.int (0) 0), (.ref 144)]), #[]⟩
noncomputable def o82 (P : Params) : Obj := ⟨(.type "tuple"), none, (.seq #[] 0), #[]⟩
noncomputable def o83 (P : Params) : Obj := ⟨.none, none, (.fields #[]), #[]⟩
noncomputable def o84 (P : Params) : Obj := ⟨(.type "tuple"), none, (.seq #[(.str (Str.ofString "code") 337)] 0), #[]⟩
noncomputable def o85 (P : Params) : Obj := ⟨(.type "tuple"), none, (.seq #[] 0), #[]⟩
noncomputable def o86 (P : Params) : Obj := ⟨.none, none, (.func (fdat (stm 9) (Str.ofString "in_table_b1") 0 .none .none 0)), #[]⟩
noncomputable def o87 (P : Params) : Obj := ⟨(.type "code"), none, (.fields #[(.str (Str.ofString "in_table_b1") 334), (.str (Str.ofString "in_table_b1") 335), (.str (Str.ofString "/claim/cut.py") 336), (.int (70) 0), (.int (1) 0), (.int (0) 0), (.int (0) 0), (.int (3) 0), (.ref 82), (.bool true), (.int (181) 0), (.ref 83), .none, (.ref 84), (.ref 85), (.ref 86), (.int (338) 0), (.int (70) 0), (.str (Str.ofString "/claim/cut.py") 339)]), #[]⟩
noncomputable def o88 (P : Params) : Obj := ⟨(.type "function"), none, (.func (fdat (stm 9) (Str.ofString "in_table_b1") 3 (.str (Str.ofString "cpy313.stringprep") 272) (.ref 87) 0)), #[]⟩
noncomputable def o89 (P : Params) : Obj := ⟨(.type "tuple"), none, (.seq #[] 0), #[]⟩
noncomputable def o90 (P : Params) : Obj := ⟨.none, none, (.fields #[]), #[]⟩
noncomputable def o91 (P : Params) : Obj := ⟨(.type "tuple"), none, (.seq #[(.str (Str.ofString "script") 346), (.str (Str.ofString "cells") 347), (.str (Str.ofString "k") 348)] 0), #[]⟩
noncomputable def o92 (P : Params) : Obj := ⟨(.type "tuple"), none, (.seq #[] 0), #[]⟩
noncomputable def o93 (P : Params) : Obj := ⟨.none, none, (.func (fdat (stm 11) (Str.ofString "_law_cells") 0 .none .none 0)), #[]⟩
noncomputable def o94 (P : Params) : Obj := ⟨(.type "code"), none, (.fields #[(.str (Str.ofString "_law_cells") 343), (.str (Str.ofString "_law_cells") 344), (.str (Str.ofString "/claim/cut.py") 345), (.int (73) 0), (.int (1) 0), (.int (0) 0), (.int (0) 0), (.int (3) 0), (.ref 89), (.bool true), (.int (181) 0), (.ref 90), .none, (.ref 91), (.ref 92), (.ref 93), (.int (349) 0), (.int (73) 0), (.str (Str.ofString "/claim/cut.py") 350)]), #[]⟩
noncomputable def o95 (P : Params) : Obj := ⟨(.type "function"), none, (.func (fdat (stm 11) (Str.ofString "_law_cells") 3 (.str (Str.ofString "law_wo0012_02") 341) (.ref 94) 0)), #[]⟩
noncomputable def o96 (P : Params) : Obj := ⟨(.type "tuple"), none, (.seq #[] 0), #[]⟩
noncomputable def o97 (P : Params) : Obj := ⟨.none, none, (.fields #[]), #[]⟩
noncomputable def o98 (P : Params) : Obj := ⟨(.type "tuple"), none, (.seq #[(.str (Str.ofString "seen") 355), (.str (Str.ofString "number") 356), (.str (Str.ofString "codes") 357), (.str (Str.ofString "place") 358)] 0), #[]⟩
noncomputable def o99 (P : Params) : Obj := ⟨(.type "tuple"), none, (.seq #[] 0), #[]⟩
noncomputable def o100 (P : Params) : Obj := ⟨.none, none, (.func (fdat (stm 12) (Str.ofString "_law_sign") 0 .none .none 0)), #[]⟩
noncomputable def o101 (P : Params) : Obj := ⟨(.type "code"), none, (.fields #[(.str (Str.ofString "_law_sign") 352), (.str (Str.ofString "_law_sign") 353), (.str (Str.ofString "/claim/cut.py") 354), (.int (78) 0), (.int (2) 0), (.int (0) 0), (.int (0) 0), (.int (3) 0), (.ref 96), (.bool true), (.int (181) 0), (.ref 97), .none, (.ref 98), (.ref 99), (.ref 100), (.int (359) 0), (.int (78) 0), (.str (Str.ofString "/claim/cut.py") 360)]), #[]⟩
noncomputable def o102 (P : Params) : Obj := ⟨(.type "function"), none, (.func (fdat (stm 12) (Str.ofString "_law_sign") 3 (.str (Str.ofString "law_wo0012_02") 341) (.ref 101) 0)), #[]⟩
noncomputable def o103 (P : Params) : Obj := ⟨(.type "tuple"), none, (.seq #[] 0), #[]⟩
noncomputable def o104 (P : Params) : Obj := ⟨.none, none, (.fields #[]), #[]⟩
noncomputable def o105 (P : Params) : Obj := ⟨.none, none, (.func (fdat (stm 13) (Str.ofString "_law_card") 0 .none .none 0)), #[]⟩
noncomputable def o106 (P : Params) : Obj := ⟨(.type "code"), none, (.fields #[(.str (Str.ofString "_law_card") 362), (.str (Str.ofString "_law_card") 363), (.str (Str.ofString "/claim/cut.py") 364), (.int (85) 0), (.int (2) 0), (.int (0) 0), (.int (0) 0), (.int (3) 0), (.ref 103), (.bool true), (.int (181) 0), (.ref 104), .none, .none, .none, (.ref 105), (.int (365) 0), (.int (85) 0), (.str (Str.ofString "/claim/cut.py") 366)]), #[]⟩
noncomputable def o107 (P : Params) : Obj := ⟨(.type "function"), none, (.func (fdat (stm 13) (Str.ofString "_law_card") 3 (.str (Str.ofString "law_wo0012_02") 341) (.ref 106) 0)), #[]⟩
noncomputable def o108 (P : Params) : Obj := ⟨(.type "tuple"), none, (.seq #[] 0), #[]⟩
noncomputable def o109 (P : Params) : Obj := ⟨.none, none, (.fields #[]), #[]⟩
noncomputable def o110 (P : Params) : Obj := ⟨(.type "tuple"), none, (.seq #[(.str (Str.ofString "card") 371), (.str (Str.ofString "number") 372), (.str (Str.ofString "letter") 373), (.str (Str.ofString "told") 374)] 0), #[]⟩
noncomputable def o111 (P : Params) : Obj := ⟨(.type "tuple"), none, (.seq #[] 0), #[]⟩
noncomputable def o112 (P : Params) : Obj := ⟨.none, none, (.func (fdat (stm 14) (Str.ofString "_law_number") 0 .none .none 0)), #[]⟩
noncomputable def o113 (P : Params) : Obj := ⟨(.type "code"), none, (.fields #[(.str (Str.ofString "_law_number") 368), (.str (Str.ofString "_law_number") 369), (.str (Str.ofString "/claim/cut.py") 370), (.int (87) 0), (.int (1) 0), (.int (0) 0), (.int (0) 0), (.int (3) 0), (.ref 108), (.bool true), (.int (181) 0), (.ref 109), .none, (.ref 110), (.ref 111), (.ref 112), (.int (375) 0), (.int (87) 0), (.str (Str.ofString "/claim/cut.py") 376)]), #[]⟩
noncomputable def o114 (P : Params) : Obj := ⟨(.type "function"), none, (.func (fdat (stm 14) (Str.ofString "_law_number") 3 (.str (Str.ofString "law_wo0012_02") 341) (.ref 113) 0)), #[]⟩
noncomputable def o115 (P : Params) : Obj := ⟨(.type "tuple"), none, (.seq #[] 0), #[]⟩
noncomputable def o116 (P : Params) : Obj := ⟨.none, none, (.fields #[]), #[]⟩
noncomputable def o117 (P : Params) : Obj := ⟨(.type "tuple"), none, (.seq #[(.str (Str.ofString "text") 381), (.str (Str.ofString "read") 382), (.str (Str.ofString "stream") 383)] 0), #[]⟩
noncomputable def o118 (P : Params) : Obj := ⟨(.type "tuple"), none, (.seq #[(.str (Str.ofString "signs") 384)] 0), #[]⟩
noncomputable def o119 (P : Params) : Obj := ⟨.none, none, (.func (fdat (stm 15) (Str.ofString "_law_lexer") 0 .none .none 0)), #[]⟩
noncomputable def o120 (P : Params) : Obj := ⟨(.type "code"), none, (.fields #[(.str (Str.ofString "_law_lexer") 378), (.str (Str.ofString "_law_lexer") 379), (.str (Str.ofString "/claim/cut.py") 380), (.int (95) 0), (.int (1) 0), (.int (0) 0), (.int (0) 0), (.int (3) 0), (.ref 115), (.bool true), (.int (181) 0), (.ref 116), .none, (.ref 117), (.ref 118), (.ref 119), (.int (385) 0), (.int (95) 0), (.str (Str.ofString "/claim/cut.py") 386)]), #[]⟩
noncomputable def o121 (P : Params) : Obj := ⟨(.type "function"), none, (.func (fdat (stm 15) (Str.ofString "_law_lexer") 3 (.str (Str.ofString "law_wo0012_02") 341) (.ref 120) 0)), #[]⟩
noncomputable def o122 (P : Params) : Obj := ⟨(.type "tuple"), none, (.seq #[] 0), #[]⟩
noncomputable def o123 (P : Params) : Obj := ⟨.none, none, (.fields #[]), #[]⟩
noncomputable def o124 (P : Params) : Obj := ⟨(.type "tuple"), none, (.seq #[(.str (Str.ofString "card") 391), (.str (Str.ofString "manner") 392), (.str (Str.ofString "between") 393), (.str (Str.ofString "white") 394), (.str (Str.ofString "written") 395), (.str (Str.ofString "k") 396)] 0), #[]⟩
noncomputable def o125 (P : Params) : Obj := ⟨(.type "tuple"), none, (.seq #[] 0), #[]⟩
noncomputable def o126 (P : Params) : Obj := ⟨.none, none, (.func (fdat (stm 16) (Str.ofString "_law_typed") 0 .none .none 0)), #[]⟩
noncomputable def o127 (P : Params) : Obj := ⟨(.type "code"), none, (.fields #[(.str (Str.ofString "_law_typed") 388), (.str (Str.ofString "_law_typed") 389), (.str (Str.ofString "/claim/cut.py") 390), (.int (105) 0), (.int (2) 0), (.int (0) 0), (.int (0) 0), (.int (3) 0), (.ref 122), (.bool true), (.int (181) 0), (.ref 123), .none, (.ref 124), (.ref 125), (.ref 126), (.int (397) 0), (.int (105) 0), (.str (Str.ofString "/claim/cut.py") 398)]), #[]⟩
noncomputable def o128 (P : Params) : Obj := ⟨(.type "function"), none, (.func (fdat (stm 16) (Str.ofString "_law_typed") 3 (.str (Str.ofString "law_wo0012_02") 341) (.ref 127) 0)), #[]⟩
noncomputable def o129 (P : Params) : Obj := ⟨(.type "tuple"), none, (.seq #[] 0), #[]⟩
noncomputable def o130 (P : Params) : Obj := ⟨.none, none, (.fields #[]), #[]⟩
noncomputable def o131 (P : Params) : Obj := ⟨.none, none, (.func (fdat (stm 17) (Str.ofString "_law_line") 0 .none .none 0)), #[]⟩
noncomputable def o132 (P : Params) : Obj := ⟨(.type "code"), none, (.fields #[(.str (Str.ofString "_law_line") 400), (.str (Str.ofString "_law_line") 401), (.str (Str.ofString "/claim/cut.py") 402), (.int (112) 0), (.int (2) 0), (.int (0) 0), (.int (0) 0), (.int (3) 0), (.ref 129), (.bool true), (.int (181) 0), (.ref 130), .none, .none, .none, (.ref 131), (.int (403) 0), (.int (112) 0), (.str (Str.ofString "/claim/cut.py") 404)]), #[]⟩
noncomputable def o133 (P : Params) : Obj := ⟨(.type "function"), none, (.func (fdat (stm 17) (Str.ofString "_law_line") 3 (.str (Str.ofString "law_wo0012_02") 341) (.ref 132) 0)), #[]⟩
noncomputable def o134 (P : Params) : Obj := ⟨(.type "tuple"), none, (.seq #[] 0), #[]⟩
noncomputable def o135 (P : Params) : Obj := ⟨.none, none, (.fields #[]), #[]⟩
noncomputable def o136 (P : Params) : Obj := ⟨(.type "tuple"), none, (.seq #[(.str (Str.ofString "line") 409), (.str (Str.ofString "half") 410), (.str (Str.ofString "kind") 411), (.str (Str.ofString "turn") 412), (.str (Str.ofString "heaps") 413), (.str (Str.ofString "sizes") 414), (.str (Str.ofString "size") 415), (.str (Str.ofString "k") 416), (.str (Str.ofString "one") 417), (.str (Str.ofString "other") 418)] 0), #[]⟩
noncomputable def o137 (P : Params) : Obj := ⟨(.type "tuple"), none, (.seq #[] 0), #[]⟩
noncomputable def o138 (P : Params) : Obj := ⟨.none, none, (.func (fdat (stm 18) (Str.ofString "_law_deal") 0 .none .none 0)), #[]⟩
noncomputable def o139 (P : Params) : Obj := ⟨(.type "code"), none, (.fields #[(.str (Str.ofString "_law_deal") 406), (.str (Str.ofString "_law_deal") 407), (.str (Str.ofString "/claim/cut.py") 408), (.int (120) 0), (.int (4) 0), (.int (0) 0), (.int (0) 0), (.int (3) 0), (.ref 134), (.bool true), (.int (181) 0), (.ref 135), .none, (.ref 136), (.ref 137), (.ref 138), (.int (419) 0), (.int (120) 0), (.str (Str.ofString "/claim/cut.py") 420)]), #[]⟩
noncomputable def o140 (P : Params) : Obj := ⟨(.type "function"), none, (.func (fdat (stm 18) (Str.ofString "_law_deal") 3 (.str (Str.ofString "law_wo0012_02") 341) (.ref 139) 0)), #[]⟩
noncomputable def o141 (P : Params) : Obj := ⟨(.type "tuple"), none, (.seq #[] 0), #[]⟩
noncomputable def o142 (P : Params) : Obj := ⟨.none, none, (.fields #[]), #[]⟩
noncomputable def o143 (P : Params) : Obj := ⟨.none, none, (.func (fdat (stm 19) (Str.ofString "law") 0 .none .none 0)), #[]⟩
noncomputable def o144 (P : Params) : Obj := ⟨(.type "code"), none, (.fields #[(.str (Str.ofString "law") 422), (.str (Str.ofString "law") 423), (.str (Str.ofString "/claim/cut.py") 424), (.int (137) 0), (.int (1) 0), (.int (0) 0), (.int (0) 0), (.int (3) 0), (.ref 141), (.bool true), (.int (181) 0), (.ref 142), .none, .none, .none, (.ref 143), (.int (425) 0), (.int (137) 0), (.str (Str.ofString "/claim/cut.py") 426)]), #[]⟩
noncomputable def o145 (P : Params) : Obj := ⟨(.type "function"), none, (.func (fdat (stm 19) (Str.ofString "law") 3 (.str (Str.ofString "law_wo0012_02") 341) (.ref 144) 0)), #[]⟩
noncomputable def t20 (P : Params) : BT := (.node (boot_o_0 P) (.node (boot_o_1 P) (.node (o3v2 P) (.node (boot_o_7 P) (.node (o15 P) (.node (o31 P) (.node (o63 P) (.node (o127 P) .nil .nil) .nil) (.node (o95 P) .nil .nil)) (.node (o47 P) (.node (o79 P) (.node (o143 P) .nil .nil) .nil) (.node (o111 P) .nil .nil))) (.node (o23 P) (.node (o39 P) (.node (o71 P) (.node (o135 P) .nil .nil) .nil) (.node (o103 P) .nil .nil)) (.node (o55 P) (.node (o87 P) .nil .nil) (.node (o119 P) .nil .nil)))) (.node (o11 P) (.node (o19 P) (.node (o35 P) (.node (o67 P) (.node (o131 P) .nil .nil) .nil) (.node (o99 P) .nil .nil)) (.node (o51 P) (.node (o83 P) .nil .nil) (.node (o115 P) .nil .nil))) (.node (o27 P) (.node (o43 P) (.node (o75 P) (.node (o139 P) .nil .nil) .nil) (.node (o107 P) .nil .nil)) (.node (o59 P) (.node (o91 P) .nil .nil) (.node (o123 P) .nil .nil))))) (.node (boot_o_5 P) (.node (boot_o_9 P) (.node (o17 P) (.node (o33 P) (.node (o65 P) (.node (o129 P) .nil .nil) .nil) (.node (o97 P) .nil .nil)) (.node (o49 P) (.node (o81 P) (.node (o145 P) .nil .nil) .nil) (.node (o113 P) .nil .nil))) (.node (o25 P) (.node (o41 P) (.node (o73 P) (.node (o137 P) .nil .nil) .nil) (.node (o105 P) .nil .nil)) (.node (o57 P) (.node (o89 P) .nil .nil) (.node (o121 P) .nil .nil)))) (.node (o13 P) (.node (o21 P) (.node (o37 P) (.node (o69 P) (.node (o133 P) .nil .nil) .nil) (.node (o101 P) .nil .nil)) (.node (o53 P) (.node (o85 P) .nil .nil) (.node (o117 P) .nil .nil))) (.node (o29 P) (.node (o45 P) (.node (o77 P) (.node (o141 P) .nil .nil) .nil) (.node (o109 P) .nil .nil)) (.node (o61 P) (.node (o93 P) .nil .nil) (.node (o125 P) .nil .nil)))))) (.node (boot_o_2 P) (.node (boot_o_4 P) (.node (boot_o_8 P) (.node (o16 P) (.node (o32 P) (.node (o64 P) (.node (o128 P) .nil .nil) .nil) (.node (o96 P) .nil .nil)) (.node (o48 P) (.node (o80 P) (.node (o144 P) .nil .nil) .nil) (.node (o112 P) .nil .nil))) (.node (o24 P) (.node (o40 P) (.node (o72 P) (.node (o136 P) .nil .nil) .nil) (.node (o104 P) .nil .nil)) (.node (o56 P) (.node (o88 P) .nil .nil) (.node (o120 P) .nil .nil)))) (.node (o12v2 P) (.node (o20 P) (.node (o36 P) (.node (o68 P) (.node (o132 P) .nil .nil) .nil) (.node (o100 P) .nil .nil)) (.node (o52 P) (.node (o84 P) .nil .nil) (.node (o116 P) .nil .nil))) (.node (o28 P) (.node (o44 P) (.node (o76 P) (.node (o140 P) .nil .nil) .nil) (.node (o108 P) .nil .nil)) (.node (o60 P) (.node (o92 P) .nil .nil) (.node (o124 P) .nil .nil))))) (.node (boot_o_6 P) (.node (boot_o_10 P) (.node (o18 P) (.node (o34 P) (.node (o66 P) (.node (o130 P) .nil .nil) .nil) (.node (o98 P) .nil .nil)) (.node (o50 P) (.node (o82 P) .nil .nil) (.node (o114 P) .nil .nil))) (.node (o26 P) (.node (o42 P) (.node (o74 P) (.node (o138 P) .nil .nil) .nil) (.node (o106 P) .nil .nil)) (.node (o58 P) (.node (o90 P) .nil .nil) (.node (o122 P) .nil .nil)))) (.node (o14 P) (.node (o22 P) (.node (o38 P) (.node (o70 P) (.node (o134 P) .nil .nil) .nil) (.node (o102 P) .nil .nil)) (.node (o54 P) (.node (o86 P) .nil .nil) (.node (o118 P) .nil .nil))) (.node (o30 P) (.node (o46 P) (.node (o78 P) (.node (o142 P) .nil .nil) .nil) (.node (o110 P) .nil .nil)) (.node (o62 P) (.node (o94 P) .nil .nil) (.node (o126 P) .nil .nil)))))))
noncomputable def S20 (w : World) (os : OsState) : SharedT := ⟨t20 w.params, 146, {}, #[], {}, 428, os⟩

noncomputable def env : Env := { scope := pw.main.scope, locals := mainNs, globals := mainNs, cells := [], code := .ref 13, frame := some 14 }
noncomputable def g1 : List Stmt := pw.main.body.take 8
noncomputable def g2 : List Stmt := (pw.main.body.drop 8).take 1
noncomputable def g3 : List Stmt := pw.main.body.drop 9
noncomputable abbrev p0 : Pos := ⟨0, 0, 0, 0⟩
noncomputable abbrev bd : List Stmt := behindTheImports pw
noncomputable abbrev cE : Code := .body bd env
theorem pc1 (w : World) : (fun os => segRunT treeTable pw w 11 (some (.ref 6)) 1 432 (S0 w os) (piecesOf g1 env cE p0 [topFrame p0])) = fun os => some (.next, S8 w os, cE, ⟨68, 0, 68, 8⟩) := by
  rw [PySem.W.Fast.te10110043849684766642, PySem.W.Fast.te14364793385576792824]
  kernel_rfl
noncomputable def P2 (w : World) : Prop := (fun os => Fast.tw10110043849684766642 Fast.tw14364793385576792824 pw w 11 (some (.ref 6)) 1 999 (S8 w os) (piecesOf g2 env cE ⟨68, 0, 68, 8⟩ [topFrame p0])) = fun os => some (.next, S9 w os, cE, ⟨69, 0, 69, 6⟩)
theorem p2a (w : World) : P2 ((w.withFollow "special-get-raises" false).withFollow "set-order" false) := by unfold P2; kernel_rfl
theorem p2b (w : World) : P2 ((w.withFollow "special-get-raises" true).withFollow "set-order" false) := by unfold P2; kernel_rfl
theorem p2c (w : World) : P2 ((w.withFollow "special-get-raises" false).withFollow "set-order" true) := by unfold P2; kernel_rfl
theorem p2d (w : World) : P2 ((w.withFollow "special-get-raises" true).withFollow "set-order" true) := by unfold P2; kernel_rfl
theorem pc2 (w : World) : (fun os => segRunT treeTable pw w 11 (some (.ref 6)) 1 999 (S8 w os) (piecesOf g2 env cE ⟨68, 0, 68, 8⟩ [topFrame p0])) = fun os => some (.next, S9 w os, cE, ⟨69, 0, 69, 6⟩) := by
  rw [PySem.W.Fast.te10110043849684766642, PySem.W.Fast.te14364793385576792824]
  exact byRow2 "set-order" (P := P2) (byRow2 "special-get-raises" (P := fun w => P2 (w.withFollow "set-order" false)) p2a p2b) (byRow2 "special-get-raises" (P := fun w => P2 (w.withFollow "set-order" true)) p2c p2d) w
theorem pc3 (w : World) : (fun os => segRunT treeTable pw w 11 (some (.ref 6)) 1 316 (S9 w os) (piecesOf g3 env cE ⟨69, 0, 69, 6⟩ [topFrame p0])) = fun os => some (.next, S20 w os, cE, ⟨137, 0, 161, 69⟩) := by
  kernel_rfl
end
end M02.Internal
end

section
set_option Elab.async false
set_option maxRecDepth 100000
set_option linter.all false
namespace M02.Internal
noncomputable section
open PySem PySem.W PySem.W.X PyProof.Rows PySem.Calls
theorem preL (w : World) (os : OsState) : topGo treeTable pw w 11 (some (.ref 6)) 12 ⟨boot_heap w.params, #[], boot_drawn, boot_toks, os⟩ (topStub pw) = some ((S0 w os).abs, ⟨denote treeTable cE, cE, p0, [topFrame p0]⟩) := by kernel_rfl
theorem blkL (w : World) (os : OsState) : segRun treeTable pw w 11 (some (.ref 6)) 1 1 (S0 w os).abs (blockOf bd env cE p0 [topFrame p0]) = some (.next, (S0 w os).abs, cE, p0) := by kernel_rfl
theorem finL (w : World) (os : OsState) : topRun treeTable pw w 11 (some (.ref 6)) 2 (S20 w os).abs (restOf [] env cE ⟨137, 0, 161, 69⟩ [topFrame p0]) = some (S20 w os).abs := by kernel_rfl
theorem bdE : bd = g1 ++ (g2 ++ (g3 ++ [])) := by kernel_rfl
theorem run (w : World) (os : OsState) : topRun treeTable pw w 11 (some (.ref 6)) (12 + (1 + (432 + (999 + (316 + 2))))) ⟨boot_heap w.params, #[], boot_drawn, boot_toks, os⟩ (topStub pw) = some (S20 w os).abs := by
  refine go_top (preL w os) ?_
  refine piece_block (blkL w os) ?_
  have h3 := piece_app (segRun_of (congrFun (pc3 w) os)) (finL w os)
  have h2 := piece_app (segRun_of (congrFun (pc2 w) os)) h3
  have h1 := piece_app (segRun_of (congrFun (pc1 w) os)) h2
  rw [← bdE] at h1
  exact h1
noncomputable def q : Program := { pw with main := { pw.main with body := [stm 19] } }
noncomputable def loose : List Str := [Str.ofString "Int2AP", Str.ofString "CHAR_MAX", Str.ofString "_grouping_intervals", Str.ofString "_netrclex", Str.ofString "b1_set", Str.ofString "in_table_b1", Str.ofString "_law_cells", Str.ofString "_law_sign", Str.ofString "_law_card", Str.ofString "_law_number", Str.ofString "_law_lexer", Str.ofString "_law_typed", Str.ofString "_law_line", Str.ofString "_law_deal"]
noncomputable def K (P : Params) : Frag := [(0, boot_o_0 P), (1, boot_o_1 P), (2, boot_o_2 P), (3, o3v2 P), (4, boot_o_4 P), (5, boot_o_5 P), (6, boot_o_6 P), (7, boot_o_7 P), (8, boot_o_8 P), (9, boot_o_9 P), (10, boot_o_10 P), (11, o11 P), (12, o12v2 P), (13, o13 P), (14, o14 P), (15, o15 P), (16, o16 P), (17, o17 P), (18, o18 P), (19, o19 P), (20, o20 P), (21, o21 P), (22, o22 P), (23, o23 P), (24, o24 P), (25, o25 P), (26, o26 P), (27, o27 P), (28, o28 P), (29, o29 P), (30, o30 P), (31, o31 P), (32, o32 P), (33, o33 P), (34, o34 P), (35, o35 P), (36, o36 P), (37, o37 P), (38, o38 P), (39, o39 P), (40, o40 P), (41, o41 P), (42, o42 P), (43, o43 P), (44, o44 P), (45, o45 P), (46, o46 P), (47, o47 P), (48, o48 P), (49, o49 P), (50, o50 P), (51, o51 P), (52, o52 P), (53, o53 P), (54, o54 P), (55, o55 P), (56, o56 P), (57, o57 P), (58, o58 P), (59, o59 P), (60, o60 P), (61, o61 P), (62, o62 P), (63, o63 P), (64, o64 P), (65, o65 P), (66, o66 P), (67, o67 P), (68, o68 P), (69, o69 P), (70, o70 P), (71, o71 P), (72, o72 P), (73, o73 P), (74, o74 P), (75, o75 P), (76, o76 P), (77, o77 P), (78, o78 P), (79, o79 P), (80, o80 P), (81, o81 P), (82, o82 P), (83, o83 P), (84, o84 P), (85, o85 P), (86, o86 P), (87, o87 P), (88, o88 P), (89, o89 P), (90, o90 P), (91, o91 P), (92, o92 P), (93, o93 P), (94, o94 P), (95, o95 P), (96, o96 P), (97, o97 P), (98, o98 P), (99, o99 P), (100, o100 P), (101, o101 P), (102, o102 P), (103, o103 P), (104, o104 P), (105, o105 P), (106, o106 P), (107, o107 P), (108, o108 P), (109, o109 P), (110, o110 P), (111, o111 P), (112, o112 P), (113, o113 P), (114, o114 P), (115, o115 P), (116, o116 P), (117, o117 P), (118, o118 P), (119, o119 P), (120, o120 P), (121, o121 P), (122, o122 P), (123, o123 P), (124, o124 P), (125, o125 P), (126, o126 P), (127, o127 P), (128, o128 P), (129, o129 P), (130, o130 P), (131, o131 P), (132, o132 P), (133, o133 P), (134, o134 P), (135, o135 P), (136, o136 P), (137, o137 P), (138, o138 P), (139, o139 P), (140, o140 P), (141, o141 P), (142, o142 P), (143, o143 P), (144, o144 P), (145, o145 P)]
noncomputable def H1 (P : Params) : Heap := absHeap (t20 P) 146 {}
theorem sizeL (w : World) : ((boot_heap w.params).isNs mainGlobals && (#[] : Array GenState).size == 0, (boot_heap w.params).objs.size, (boot_heap w.params).nsMap mainGlobals "__annotations__") = (true, 11, some (.ref 6)) := by kernel_rfl
theorem openL : ∀ w : World, (fencedOpening treeTable pw w 4000).map (fun s => (s.heap, s.gens, s.drawn, s.toks)) = some (boot_heap w.params, Array.mk [], boot_drawn, boot_toks) :=
  boot_open (by kernel_rfl) (by decide) (fun s => by kernel_rfl)
noncomputable def Xt (s : Shared) : Bool := xlAt q [] s && recOk [] s
theorem look1 (w : World) (os : OsState) : (staticsOk (importedModules pw.main.body) (boot_heap w.params) (H1 w.params) && namesBound pw (H1 w.params) && gensDone ⟨H1 w.params, #[], {}, 428, os⟩ && laidKept (boot_heap w.params) (H1 w.params)) = true := by kernel_rfl
theorem look2 (w : World) (os : OsState) : openSeen q loose (importedModules pw.main.body) Xt true ⟨H1 w.params, #[], {}, 428, os⟩ = openGood q loose := by kernel_rfl
theorem look3 (w : World) (os : OsState) : obsZ (List.range 146) ⟨H1 w.params, #[], {}, 428, os⟩ = valZ K 146 428 w := by kernel_rfl
theorem left : LeftO pw q loose Xt (obsZ (List.range 146)) (valZ K 146 428) 4000 :=
  LeftO.of_pieces openL sizeL run (by decide) fun w => funext fun os => Prod.ext (look1 w os) (Prod.ext (look2 w os) (look3 w os))
end
end M02.Internal
end

section
open PySem PySem.W PySem.W.X PyProof.Rows PySem.Calls
set_option Elab.async false
set_option maxRecDepth 100000
set_option maxHeartbeats 0
namespace M02.Internal
theorem dfS : (defOf q (Str.ofString "law")).isSome = true := by kernel_rfl
noncomputable def dk : DefRec × List (Str × Expr) := (defOf q (Str.ofString "law")).get dfS
theorem dk1 : defOf q (Str.ofString "law") = some (dk.1, dk.2) := by kernel_rfl
theorem dk2 : pw.theDef (Str.ofString "law") = some (dk.1.params, dk.1.body, dk.1.scope) := by kernel_rfl
theorem dk3 : kwWritten? dk.1.params.kwonlyargs dk.1.params.kw_defaults = some dk.2 := by kernel_rfl
theorem ok1 : (chainsOk q && opensWell pw && (frees PySem.Challenge.rw_wo0012_02.row.toRowW && PySem.Challenge.rw_wo0012_02.row.toRowW.within.isEmpty)) = true := by kernel_rfl
theorem said0 : PySem.Challenge.rw_wo0012_02.wellSaid = true := by
  unfold OpenLaw.wellSaid
  repeat' (with_reducible apply PySem.W.look_both)
  all_goals (try unfold OpenRow.wellSaid)
  all_goals (try unfold OpenRow.partSaid)
  all_goals (repeat' (with_reducible apply PySem.W.look_both))
  all_goals kernel_rfl
theorem top (walk : WalkX q loose (XL q []) (obsZ (List.range 146)) (valZ K 146 428) PySem.Challenge.rw_wo0012_02.row.toRowW dk.1 dk.2 fun f vs => PySem.call f vs) :
    PySem.Challenge.rw_wo0012_02.Holds := by
  w_on
  refine PySem.W.holds_law said0 fun said => ?_
  refine holds_openX (d := dk.1) (kwd := dk.2) left (fun s e => xl_of s (Bool.and_eq_true_iff.mp e).1) XL.keeps dk1 dk2 dk3 (fun s e => recFacts_of (Bool.and_eq_true_iff.mp e).2) (by rfl) (by assumption) ok1 ⟨rfl, rfl, rfl, rfl, rfl, ?hb⟩ ?hw walk
  case hw => exact ⟨[.list []], by decide +kernel, by decide +kernel⟩
  case hb => decide +kernel
end M02.Internal
end

section
set_option Elab.async false
set_option linter.all false
set_option maxRecDepth 100000
namespace MI.Internal
open PySem PySem.W PySem.Calls

/-! ### an iterator over a method's calls -/
noncomputable def citObj : Option Addr → Tok → Obj
  | some q, t => { cls := .type "callable_iterator", data := .fields #[.ref q, .str ⟨#[]⟩ t, .bool false] }
  | none, _ => { cls := .type "callable_iterator", data := .fields #[.none, .none, .bool true] }
theorem cit_slot_next : Slot "callable_iterator" "__next__" "callable_iterator.__next__" :=
  .of (owner := "callable_iterator") (n := "__next__") (by rw [typeLookup_type, builtinLookup_eq_fast]; kernel_rfl) (by decide +kernel) (by decide +kernel) (by decide +kernel)
    (by first | exact .inl (by decide +kernel) | exact .inr (by decide +kernel)) (by rw [isSubtype_type]; kernel_rfl)
theorem cit_slot_iter : Slot "callable_iterator" "__iter__" "callable_iterator.__iter__" :=
  .of (owner := "callable_iterator") (n := "__iter__") (by rw [typeLookup_type, builtinLookup_eq_fast]; kernel_rfl) (by decide +kernel) (by decide +kernel) (by decide +kernel)
    (by first | exact .inl (by decide +kernel) | exact .inr (by decide +kernel)) (by rw [isSubtype_type]; kernel_rfl)
theorem cit_entry_next : entryFor table "callable_iterator.__next__" = some Builtin.«callable_iterator.__next__» := entryFor_of_fast (by kernel_rfl)
theorem cit_entry_iter : entryFor table "callable_iterator.__iter__" = some Builtin.«dict_keyiterator.__iter__» :=
  entryFor_alias (id' := "dict_keyiterator.__iter__") (by kernel_rfl) rfl (by decide +kernel) (by kernel_rfl)
theorem cit_args_next (a : Value) : argsOk "callable_iterator.__next__" ⟨[a], []⟩ := by unfold argsOk; kernel_rfl
theorem cit_args_iter (a : Value) : argsOk "callable_iterator.__iter__" ⟨[a], []⟩ := by unfold argsOk; kernel_rfl
theorem cit_entry_builtin : entryFor table "iter" = some Builtin.«iter» := entryFor_of_fast (by kernel_rfl)
theorem cit_args_builtin (a b : Value) : argsOk "iter" ⟨[a, b], []⟩ := by unfold argsOk; kernel_rfl
theorem cit_callable : typeLookup (.type "method") "__call__" = pure (some (.builtin "method.__call__")) := by rw [typeLookup_type, builtinLookup_eq_fast]; kernel_rfl

section
variable {prog : Program} {w : World} {A : Around} {E : Value → Shared → Prop} {s : Shared}
theorem wpAny_callBorrowed {f : Value} {pos : List Value} {Q : Value → Shared → Prop}
    (hc : codeAny (model prog w) A (.call f ⟨pos, []⟩) (fun r s' => match r with | .ok (.ret v) => Q v s' | .ok _ => False | .error e => E e s') s) : wpAny (model prog w) A (callBorrowed f pos) Q E s := fun Γ p hΓ => by
  unfold callBorrowed
  rw [Sem.wp_call]
  refine wpCode_mono (fun r s' h => ?_) (hc _ p rfl (hΓ.enter _ none p (by intro x; cases x)))
  match r, h with
  | .ok (.ret v), h => exact h
  | .error e, h => exact h

theorem cit_new {q : Addr} {t : Tok} {f self : Value} {Q : Value → Shared → Prop} (hm : s.heap.get? q = some (methodObj f self))
    (h : Q (.ref s.heap.objs.size) { s with heap := s.heap.push (citObj (some q) t) }) : wpAny (model prog w) A (call (.builtin "iter") [.ref q, .str ⟨#[]⟩ t]) Q E s := by
  refine call_function_entry (by decide +kernel) (by decide +kernel) cit_entry_builtin (cit_args_builtin _ _) ?_
  unfold Builtin.«iter»
  refine wpAny_bind (m := someArgs "iter" 1 2 _) (wpAny_of_eq (a := [Value.ref q, .str ⟨#[]⟩ t]) (by first | rfl | kernel_rfl) ?_)
  refine wpAny_bind (wpAny_specialOf (T := "method") ⟨_, hm, rfl⟩ cit_callable ?_)
  show wpAny _ _ (rule "iter.sentinel" >>= _) _ _ _
  refine wpAny_bind (wpAny_rule ?_)
  simp only [newFields]
  exact wpAny_bind (wpAny_newObj_type (wpAny_pure ⟨_, rfl, h⟩) (by size_fits))

theorem cit_iter {a : Addr} {c : Option Addr} {t : Tok} {Q : Value → Shared → Prop} (ha : s.heap.get? a = some (citObj c t)) (h : Q (.ref a) s) : wpAny (model prog w) A (pyIter (.ref a)) Q E s := by
  have hT : s.TypeIs (.ref a) "callable_iterator" := ⟨_, ha, by cases c <;> rfl⟩
  refine wpAny_pyIter_slot hT cit_slot_iter (wpAny_call_entry cit_slot_iter hT cit_entry_iter ?_ (cit_args_iter _))
  show wpAny _ _ (ret (.ref a)) _ _ s
  exact wpAny_pure ⟨_, rfl, "callable_iterator", _, hT, cit_slot_next.lookup, h⟩

theorem cit_borrows {q rc : Addr} {self : Value} {o : Obj} {fd : FuncData} {Q : Bool → Shared → Prop} (hq : s.heap.get? q = some (methodObj (.ref rc) self)) (ho : s.heap.get? rc = some o) (hd : o.data = .func fd) (h : Q true s) : wpAny (model prog w) A (borrowsExactly (.ref q)) Q E s := by
  unfold borrowsExactly
  refine wpAny_bind (wpAny_load hq ?_)
  show wpAny _ _ (do match (← load rc).data with | .func _ => pure true | _ => pure false) _ _ _
  refine wpAny_bind (wpAny_load ho ?_)
  rw [hd]
  exact wpAny_pure h

end
end MI.Internal
end

section
set_option Elab.async false
set_option linter.all false
set_option maxRecDepth 100000
namespace MI.Internal
open PySem PySem.W PySem.Calls
section
variable {prog : Program} {w : World} {A : Around} {E : Value → Shared → Prop} {s : Shared}
/-- a StopIteration is laid -/
theorem stop_new {A : Around} {Q : Value → Shared → Prop} (h : ∀ e h', (∀ b o, s.heap.get? b = some o → h'.get? b = some o) → Shared.TypeIs { s with heap := h' } (.ref e) "StopIteration" → Q (.ref e) { s with heap := h' }) :
    wpAny (model prog w) A (newExc (.type "StopIteration") []) Q E s := by
  unfold newExc newTuple
  exact wpAny_bind (wpAny_newObj_type (wpAny_bind (m := firstArgMember _ _) (wpAny_of_eq (a := Value.none) rfl
    (wpAny_newObj_type (h _ _ (fun b o e => Heap.get?_push_of_some _ (Heap.get?_push_of_some _ e)) ⟨_, Heap.get?_push_size _ rfl, rfl⟩) (by size_fits)))) (by size_fits))
theorem stop_seen {e : Value} {Q : Option Value → Shared → Prop} (hT : s.TypeIs e "StopIteration") (h : Q none s) :
    wpAny (model prog w) A (do if ← isInstance e (.type "StopIteration") then pure none else throw e) Q E s :=
  wpAny_bind (wpAny_isInstance (b := true) hT isSubtype_stop (wpAny_pure h))
theorem cit_stop {β : Type} {Q' : β → Shared → Prop} {Q : Option Value → Shared → Prop} (hA : A.handled = none) (h : ∀ h', (∀ b o, s.heap.get? b = some o → h'.get? b = some o) → Q none { s with heap := h' }) :
    wpAny (model prog w) A.in1 (Builtin.SmallTypes.stopIteration : Sem β) Q' (fun e s' => wpAny (model prog w) A (do if ← isInstance e (.type "StopIteration") then pure none else throw e) Q E s') s :=
  wpAny_bind (stop_new fun e h' k t => wpAny_raiseNew_none hA (stop_seen t (h h' k)))
theorem cit_next_end {a : Addr} {t : Tok} {Q : Option Value → Shared → Prop} (hA : A.handled = none) (ha : s.heap.get? a = some (citObj none t)) (h : ∀ h', (∀ b o, s.heap.get? b = some o → h'.get? b = some o) → Q none { s with heap := h' }) :
    wpAny (model prog w) A (pyNext (.ref a)) Q E s := by
  have hT : s.TypeIs (.ref a) "callable_iterator" := ⟨_, ha, rfl⟩
  unfold pyNext
  refine wpAny_bind (wpAny_attempt (wpAny_callSpecial?_slot (name := Str.ofString "__next__") hT cit_slot_next (wpAny_call_entry cit_slot_next hT cit_entry_next ?_ (cit_args_next _))))
  unfold Builtin.«callable_iterator.__next__»
  refine wpAny_bind (wpAny_of_eq (a := (Value.ref a, [])) (by first | rfl | kernel_rfl) ?_)
  refine wpAny_bind (wpAny_field ha (x := .bool true) rfl rfl ?_)
  rw [if_pos (show ((Value.bool true == Value.bool true) = true) from rfl)]
  refine wpAny_bind (wpAny_rule (wpAny_bind ?_))
  exact cit_stop hA h
theorem cit_next {a q rc : Addr} {t : Tok} {self : Value} {o : Obj} {fd : FuncData} {Q : Option Value → Shared → Prop} (hA : A.handled = none) (ha : s.heap.get? a = some (citObj (some q) t)) (hq : s.heap.get? q = some (methodObj (.ref rc) self)) (ho : s.heap.get? rc = some o) (hd : o.data = .func fd)
    (h : codeAny (model prog w) A.in1 (.call (.ref rc) ⟨[self], []⟩) (fun r s₁ => match r with
      | .ok (.ret (.str x u)) => (∃ t, s₁.heap.get? a = some (citObj (some q) t)) ∧ s₁.heap.get? q = some (methodObj (.ref rc) self) ∧ s₁.heap.get? rc = some o ∧ (x ≠ ⟨#[]⟩ → Q (some (.str x u)) s₁) ∧
          (x = ⟨#[]⟩ → ∀ h', (∀ b o, b ≠ a → s₁.heap.get? b = some o → h'.get? b = some o) → h'.get? a = some (citObj none 0) → Q none { s₁ with heap := h' })
      | _ => False) s) : wpAny (model prog w) A (pyNext (.ref a)) Q E s := by
  have hT : s.TypeIs (.ref a) "callable_iterator" := ⟨_, ha, rfl⟩
  unfold pyNext
  refine wpAny_bind (wpAny_attempt (wpAny_callSpecial?_slot (name := Str.ofString "__next__") hT cit_slot_next (wpAny_call_entry cit_slot_next hT cit_entry_next ?_ (cit_args_next _))))
  unfold Builtin.«callable_iterator.__next__»
  refine wpAny_bind (wpAny_of_eq (a := (Value.ref a, [])) (by first | rfl | kernel_rfl) ?_)
  refine wpAny_bind (wpAny_field ha (x := .bool false) rfl rfl ?_)
  rw [if_neg (show ¬ ((Value.bool false == Value.bool true) = true) from Bool.false_ne_true)]
  refine wpAny_bind (wpAny_field ha (x := .ref q) rfl rfl ?_)
  refine wpAny_bind (wpAny_attempt ?_)
  unfold callOutOfASlot
  refine wpAny_bind (cit_borrows hq ho hd ?_)
  rw [if_pos rfl]
  refine wpAny_callBorrowed (method_call hq (codeAny_mono h fun r s₁ hr => ?_))
  match r, hr with
  | .ok (.ret (.str x u)), ⟨⟨t, ha₁⟩, hq₁, ho₁, h1, h2⟩ =>
    refine wpAny_bind (wpAny_field ha₁ (x := .bool false) rfl rfl ?_)
    rw [if_neg (show ¬ ((Value.bool false == Value.bool true) = true) from Bool.false_ne_true)]
    refine wpAny_bind (wpAny_field ha₁ (x := .str ⟨#[]⟩ t) rfl rfl ?_)
    refine wpAny_bind (wpAny_holding (wpAny_eqBool_str ?_))
    by_cases hx : x = ⟨#[]⟩
    · subst hx
      show wpAny _ _ (rule "callable_iterator.__next__.sentinel" >>= _) _ _ _
      refine wpAny_bind (wpAny_rule (wpAny_bind ?_))
      show wpAny _ _ (do
        slotLetsGo "callable_iterator.__next__" (← field (.ref a) 0) fun | .builtin "callable_iterator.__next__" x => x.pos.head? == some (.ref a) | _ => false
        setField (.ref a) 0 .none; setField (.ref a) 1 .none; setField (.ref a) 2 (.bool true)) _ _ _
      refine wpAny_bind (wpAny_field ha₁ (x := .ref q) rfl rfl ?_)
      refine wpAny_bind ?_
      unfold slotLetsGo
      refine wpAny_bind (cit_borrows hq₁ ho₁ hd ?_)
      refine wpAny_pure ?_
      refine wpAny_bind (wpAny_setField_rec ha₁ (by simp) fun h' hh' hs' => ?_)
      refine wpAny_bind (wpAny_setField_rec hh' (by simp) fun h'' hh'' hs'' => ?_)
      refine wpAny_setField_rec hh'' (by simp) fun h₃ hh₃ hs₃ => ?_
      refine cit_stop hA fun h₄ k => ?_
      refine h2 rfl h₄ (fun b o hb e => k _ _ ((hs₃.2 b hb).trans ((hs''.2 b hb).trans ((hs'.2 b hb).trans e)))) (k _ _ hh₃)
    · rw [show (decide ((⟨#[]⟩ : Str) = x)) = false from decide_eq_false fun e => hx e.symm]
      exact wpAny_pure ⟨_, rfl, wpAny_pure (h1 hx)⟩

theorem bound_ok {Kf : Frag} {x C f : Addr} {ox : Obj} {es : List DictEntry} {n : Nat} {name : Str} {expr : Bool} {Q : Value → Shared → Prop} (X : Kf.In s.heap) (I : InstAt s.heap x ox C (some (dictOf es n))) (hg : plainGet Kf C name = true) (hh : hasDictIn Kf C = true)
    (ha : findIn Kf (.ref C) name = some (some (.ref f))) (hf : isFn Kf (.ref f) = true) (hgf : specialIn Kf (.ref f) "__get__" = some (some (.builtin "function.__get__"))) (ht : takesIn Kf (.ref f) = some false) (hc : copiedNames.contains name = false)
    (hl : getL name es = some none) (h : Q (.ref s.heap.objs.size) { s with heap := s.heap.push (methodObj (.ref f) (.ref x)), toks := s.toks + 1 }) : wpAny (model prog w) A (getAttr (.ref x) name expr) Q E s :=
  get_bind X I (plainGet_of hg).1 (findObj_fn hh ha hgf ht hc (by show lookIn name (dictOf es n) = _; rw [lookIn_dict, hl])) (plainGet_of hg).2
    (wpAny_call (fn_get (s := { s with toks := s.toks + 1 }) X (beq_iff_eq.mp hf) (handed_on rfl h)))
end
end MI.Internal
end

section
set_option Elab.async false
set_option linter.all false
set_option maxRecDepth 10000
namespace MI.Internal
open PySem PySem.W PySem.Calls

/-! ## bundles -/
inductive Ex2 {α0 α1 : Sort _} (P : α0 → α1 → Prop) : Prop
  | mk (a : α0) (b : α1) (h : P a b) : Ex2 P
inductive Ex3 {α0 α1 α2 : Sort _} (P : α0 → α1 → α2 → Prop) : Prop
  | mk (a : α0) (b : α1) (c : α2) (h : P a b c) : Ex3 P
inductive Ex4 {α0 α1 α2 α3 : Sort _} (P : α0 → α1 → α2 → α3 → Prop) : Prop
  | mk (a : α0) (b : α1) (c : α2) (d : α3) (h : P a b c d) : Ex4 P
inductive Ex5 {α0 α1 α2 α3 α4 : Sort _} (P : α0 → α1 → α2 → α3 → α4 → Prop) : Prop
  | mk (a : α0) (b : α1) (c : α2) (d : α3) (e : α4) (h : P a b c d e) : Ex5 P
inductive Ex6 {α0 α1 α2 α3 α4 α5 : Sort _} (P : α0 → α1 → α2 → α3 → α4 → α5 → Prop) : Prop
  | mk (a : α0) (b : α1) (c : α2) (d : α3) (e : α4) (f : α5) (h : P a b c d e f) : Ex6 P
inductive Ex7 {α0 α1 α2 α3 α4 α5 α6 : Sort _} (P : α0 → α1 → α2 → α3 → α4 → α5 → α6 → Prop) : Prop
  | mk (a : α0) (b : α1) (c : α2) (d : α3) (e : α4) (f : α5) (g : α6) (h : P a b c d e f g) : Ex7 P
inductive Ex8 {α0 α1 α2 α3 α4 α5 α6 α7 : Sort _} (P : α0 → α1 → α2 → α3 → α4 → α5 → α6 → α7 → Prop) : Prop
  | mk (a : α0) (b : α1) (c : α2) (d : α3) (e : α4) (f : α5) (g : α6) (h : α7) (h : P a b c d e f g h) : Ex8 P
inductive A3 (p0 p1 p2 : Prop) : Prop
  | mk (h0 : p0) (h1 : p1) (h2 : p2) : A3 p0 p1 p2
inductive A4 (p0 p1 p2 p3 : Prop) : Prop
  | mk (h0 : p0) (h1 : p1) (h2 : p2) (h3 : p3) : A4 p0 p1 p2 p3
inductive A5 (p0 p1 p2 p3 p4 : Prop) : Prop
  | mk (h0 : p0) (h1 : p1) (h2 : p2) (h3 : p3) (h4 : p4) : A5 p0 p1 p2 p3 p4
inductive A6 (p0 p1 p2 p3 p4 p5 : Prop) : Prop
  | mk (h0 : p0) (h1 : p1) (h2 : p2) (h3 : p3) (h4 : p4) (h5 : p5) : A6 p0 p1 p2 p3 p4 p5
inductive A7 (p0 p1 p2 p3 p4 p5 p6 : Prop) : Prop
  | mk (h0 : p0) (h1 : p1) (h2 : p2) (h3 : p3) (h4 : p4) (h5 : p5) (h6 : p6) : A7 p0 p1 p2 p3 p4 p5 p6
inductive A8 (p0 p1 p2 p3 p4 p5 p6 p7 : Prop) : Prop
  | mk (h0 : p0) (h1 : p1) (h2 : p2) (h3 : p3) (h4 : p4) (h5 : p5) (h6 : p6) (h7 : p7) : A8 p0 p1 p2 p3 p4 p5 p6 p7
inductive A9 (p0 p1 p2 p3 p4 p5 p6 p7 p8 : Prop) : Prop
  | mk (h0 : p0) (h1 : p1) (h2 : p2) (h3 : p3) (h4 : p4) (h5 : p5) (h6 : p6) (h7 : p7) (h8 : p8) : A9 p0 p1 p2 p3 p4 p5 p6 p7 p8
inductive A10 (p0 p1 p2 p3 p4 p5 p6 p7 p8 p9 : Prop) : Prop
  | mk (h0 : p0) (h1 : p1) (h2 : p2) (h3 : p3) (h4 : p4) (h5 : p5) (h6 : p6) (h7 : p7) (h8 : p8) (h9 : p9) : A10 p0 p1 p2 p3 p4 p5 p6 p7 p8 p9
inductive A11 (p0 p1 p2 p3 p4 p5 p6 p7 p8 p9 p10 : Prop) : Prop
  | mk (h0 : p0) (h1 : p1) (h2 : p2) (h3 : p3) (h4 : p4) (h5 : p5) (h6 : p6) (h7 : p7) (h8 : p8) (h9 : p9) (h10 : p10) : A11 p0 p1 p2 p3 p4 p5 p6 p7 p8 p9 p10
inductive A12 (p0 p1 p2 p3 p4 p5 p6 p7 p8 p9 p10 p11 : Prop) : Prop
  | mk (h0 : p0) (h1 : p1) (h2 : p2) (h3 : p3) (h4 : p4) (h5 : p5) (h6 : p6) (h7 : p7) (h8 : p8) (h9 : p9) (h10 : p10) (h11 : p11) : A12 p0 p1 p2 p3 p4 p5 p6 p7 p8 p9 p10 p11
inductive A13 (p0 p1 p2 p3 p4 p5 p6 p7 p8 p9 p10 p11 p12 : Prop) : Prop
  | mk (h0 : p0) (h1 : p1) (h2 : p2) (h3 : p3) (h4 : p4) (h5 : p5) (h6 : p6) (h7 : p7) (h8 : p8) (h9 : p9) (h10 : p10) (h11 : p11) (h12 : p12) : A13 p0 p1 p2 p3 p4 p5 p6 p7 p8 p9 p10 p11 p12
inductive A14 (p0 p1 p2 p3 p4 p5 p6 p7 p8 p9 p10 p11 p12 p13 : Prop) : Prop
  | mk (h0 : p0) (h1 : p1) (h2 : p2) (h3 : p3) (h4 : p4) (h5 : p5) (h6 : p6) (h7 : p7) (h8 : p8) (h9 : p9) (h10 : p10) (h11 : p11) (h12 : p12) (h13 : p13) : A14 p0 p1 p2 p3 p4 p5 p6 p7 p8 p9 p10 p11 p12 p13
inductive A15 (p0 p1 p2 p3 p4 p5 p6 p7 p8 p9 p10 p11 p12 p13 p14 : Prop) : Prop
  | mk (h0 : p0) (h1 : p1) (h2 : p2) (h3 : p3) (h4 : p4) (h5 : p5) (h6 : p6) (h7 : p7) (h8 : p8) (h9 : p9) (h10 : p10) (h11 : p11) (h12 : p12) (h13 : p13) (h14 : p14) : A15 p0 p1 p2 p3 p4 p5 p6 p7 p8 p9 p10 p11 p12 p13 p14
/-! ## abstract values, objects, stores -/
inductive V where
  | none | bool (b : Bool) | int (i : Int) | str (l : List Nat) | bytes (l : List UInt8) | obj (r : Nat)
inductive O where
  | list (l : List V) | tup (l : List V) | inst (d : Nat) | dict (es : List (List Nat × V)) | fn (c k : Nat) | cell (v : V) | code | meth (d : Nat) | citer (m : Option Nat) | frz (l : List V)
noncomputable def V.ctorIdx (x : V) : Nat := x.casesOn 0 (fun _ => 1) (fun _ => 2) (fun _ => 3) (fun _ => 4) (fun _ => 5)
noncomputable def O.ctorIdx (x : O) : Nat := x.casesOn (fun _ => 0) (fun _ => 1) (fun _ => 2) (fun _ => 3) (fun _ _ => 4) (fun _ => 5) 6 (fun _ => 7) (fun _ => 8) (fun _ => 9)
noncomputable abbrev Sto := List O

noncomputable def VR (α : Nat → Addr) (n : Nat) : V → Value → Prop
  | .none, c => c = .none
  | .bool b, c => c = .bool b
  | .int i, c => ∃ t, c = .int i t
  | .str l, c => ∃ t, c = .str ⟨l.toArray⟩ t
  | .bytes l, c => ∃ t, c = .bytes l.toArray t
  | .obj r, c => r < n ∧ c = .ref (α r)
noncomputable def VRs (α : Nat → Addr) (n : Nat) : List V → List Value → Prop
  | [], [] => True
  | v :: vs, c :: cs => VR α n v c ∧ VRs α n vs cs
  | _, _ => False

theorem VR.mono {α α' : Nat → Addr} {n n' : Nat} (hn : n ≤ n') (ha : ∀ r, r < n → α' r = α r) : ∀ {v : V} {c : Value}, VR α n v c → VR α' n' v c
  | .none, _, h => h
  | .bool _, _, h => h
  | .int _, _, h => h
  | .str _, _, h => h
  | .bytes _, _, h => h
  | .obj r, _, ⟨h, e⟩ => ⟨Nat.lt_of_lt_of_le h hn, by rw [e, ha r h]⟩
theorem VRs.mono {α α' : Nat → Addr} {n n' : Nat} (hn : n ≤ n') (ha : ∀ r, r < n → α' r = α r) : ∀ {vs : List V} {cs : List Value}, VRs α n vs cs → VRs α' n' vs cs
  | [], [], _ => trivial
  | _ :: _, _ :: _, ⟨a, b⟩ => ⟨a.mono hn ha, VRs.mono hn ha b⟩
  | [], _ :: _, h => h.elim
  | _ :: _, [], h => h.elim
theorem VRs.length {α : Nat → Addr} {n : Nat} : ∀ {vs : List V} {cs : List Value}, VRs α n vs cs → cs.length = vs.length
  | [], [], _ => rfl
  | _ :: _, _ :: _, ⟨_, b⟩ => by simp [VRs.length b]
  | [], _ :: _, h => h.elim
  | _ :: _, [], h => h.elim
theorem VRs.append {α : Nat → Addr} {n : Nat} : ∀ {vs ws : List V} {cs ds : List Value}, VRs α n vs cs → VRs α n ws ds → VRs α n (vs ++ ws) (cs ++ ds)
  | [], _, [], _, _, h => h
  | _ :: _, _, _ :: _, _, ⟨a, b⟩, h => ⟨a, VRs.append b h⟩
  | [], _, _ :: _, _, h, _ => h.elim
  | _ :: _, _, [], _, h, _ => h.elim
theorem VRs.get {α : Nat → Addr} {n : Nat} : ∀ {vs : List V} {cs : List Value}, VRs α n vs cs → ∀ {i : Nat} {v : V}, vs[i]? = some v → ∃ c, cs[i]? = some c ∧ VR α n v c
  | [], [], _, _, _, h => by simp at h
  | _ :: _, c :: _, ⟨a, _⟩, 0, _, h => ⟨c, rfl, by simp at h; exact h ▸ a⟩
  | _ :: _, _ :: _, ⟨_, b⟩, i + 1, _, h => by simpa using VRs.get b (i := i) (by simpa using h)
  | [], _ :: _, h, _, _, _ => h.elim
  | _ :: _, [], h, _, _, _ => h.elim
theorem VRs.set {α : Nat → Addr} {n : Nat} {v : V} {c : Value} (hv : VR α n v c) : ∀ {vs : List V} {cs : List Value}, VRs α n vs cs → ∀ i : Nat, VRs α n (vs.set i v) (cs.set i c)
  | [], [], _, _ => trivial
  | _ :: _, _ :: _, ⟨_, b⟩, 0 => ⟨hv, b⟩
  | _ :: _, _ :: _, ⟨a, b⟩, i + 1 => ⟨a, VRs.set hv b i⟩
  | [], _ :: _, h, _ => h.elim
  | _ :: _, [], h, _ => h.elim
theorem VRs.drop {α : Nat → Addr} {n : Nat} : ∀ {vs : List V} {cs : List Value}, VRs α n vs cs → ∀ i : Nat, VRs α n (vs.drop i) (cs.drop i)
  | _, _, h, 0 => h
  | [], [], _, _ + 1 => trivial
  | _ :: _, _ :: _, ⟨_, b⟩, i + 1 => VRs.drop b i
  | [], _ :: _, h, _ => h.elim
  | _ :: _, [], h, _ => h.elim
theorem VRs.take {α : Nat → Addr} {n : Nat} : ∀ {vs : List V} {cs : List Value}, VRs α n vs cs → ∀ i : Nat, VRs α n (vs.take i) (cs.take i)
  | _, _, _, 0 => trivial
  | [], [], _, _ + 1 => trivial
  | _ :: _, _ :: _, ⟨a, b⟩, i + 1 => ⟨a, VRs.take b i⟩
  | [], _ :: _, h, _ => h.elim
  | _ :: _, [], h, _ => h.elim
theorem VRs.one {α : Nat → Addr} {n : Nat} {v : V} {cs : List Value} (h : VRs α n [v] cs) : ∃ c, cs = [c] ∧ VR α n v c := by
  match cs, h with
  | [c], ⟨a, _⟩ => exact ⟨c, rfl, a⟩
theorem VRs.cons_inv {α : Nat → Addr} {n : Nat} {v : V} {vs : List V} {cs : List Value} (h : VRs α n (v :: vs) cs) : ∃ c cs', cs = c :: cs' ∧ VR α n v c ∧ VRs α n vs cs' := by
  match cs, h with
  | c :: cs', ⟨a, b⟩ => exact ⟨c, cs', rfl, a, b⟩
theorem VRs.nil_inv {α : Nat → Addr} {n : Nat} {cs : List Value} (h : VRs α n [] cs) : cs = [] := by
  match cs, h with
  | [], _ => rfl

/-! ## what stands for a store -/
/-- the fixed ground: the heap behind the top, its size, the one code table that may grow -/
structure Base where
  p : Program
  w : World
  h₀ : Heap
  tb : Addr
  os : OsState
  cls : Addr
  fd : Addr → Value → FuncData
  qn : Str
  rc : Addr
  pos : Pos
  scr : Obj

noncomputable def DR (α : Nat → Addr) (n : Nat) : List (List Nat × V) → List DictEntry → Prop
  | [], [] => True
  | e :: es, c :: cs => (∃ t, c.key = .str ⟨e.1.toArray⟩ t) ∧ VR α n e.2 c.val ∧ DR α n es cs
  | _, _ => False
theorem DR.mono {α α' : Nat → Addr} {n n' : Nat} (hn : n ≤ n') (ha : ∀ r, r < n → α' r = α r) : ∀ {vs : List (List Nat × V)} {cs : List DictEntry}, DR α n vs cs → DR α' n' vs cs
  | [], [], _ => trivial
  | _ :: _, _ :: _, ⟨a, b, c⟩ => ⟨a, b.mono hn ha, DR.mono hn ha c⟩
  | [], _ :: _, h => h.elim
  | _ :: _, [], h => h.elim

noncomputable def OR (B : Base) (α : Nat → Addr) (n : Nat) : O → Obj → Prop
  | .list l, o => ∃ cs ep, VRs α n l cs ∧ o = { cls := .type "list", data := .seq cs.toArray ep }
  | .tup l, o => ∃ cs ep, VRs α n l cs ∧ o = { cls := .type "tuple", data := .seq cs.toArray ep }
  | .inst d, o => d < n ∧ o = { cls := .ref B.cls, dict := some (α d), data := .plain }
  | .dict es, o => ∃ cs ep, DR α n es cs ∧ o = { cls := .type "dict", data := .dict cs.toArray ep }
  | .fn c k, o => c < n ∧ k < n ∧ ∃ dc dd sl, o = { cls := .type "function", data := .func { B.fd (α c) (.ref (α k)) with closureTuple := dc, doc := dd }, slots := sl }
  | .cell v, o => ∃ c, VR α n v c ∧ o.data = .cell (some c)
  | .code, o => ∃ vs t, o.data = .fields vs ∧ vs[1]? = some (.str B.qn t)
  | .frz l, o => o = B.scr ∧ ∃ cs ep, VRs α n l cs ∧ o = { cls := .type "list", data := .seq cs.toArray ep }
  | .meth d, o => d < n ∧ o = methodObj (.ref B.rc) (.ref (α d))
  | .citer none, o => ∃ t, o = citObj none t
  | .citer (some m), o => m < n ∧ ∃ t, o = citObj (some (α m)) t
theorem OR.mono {B : Base} {α α' : Nat → Addr} {n n' : Nat} (hn : n ≤ n') (ha : ∀ r, r < n → α' r = α r) : ∀ {x : O} {o : Obj}, OR B α n x o → OR B α' n' x o
  | .list _, _, ⟨cs, ep, a, b⟩ => ⟨cs, ep, a.mono hn ha, b⟩
  | .tup _, _, ⟨cs, ep, a, b⟩ => ⟨cs, ep, a.mono hn ha, b⟩
  | .inst _, _, ⟨a, b⟩ => ⟨Nat.lt_of_lt_of_le a hn, by rw [b, ha _ a]⟩
  | .dict _, _, ⟨cs, ep, a, b⟩ => ⟨cs, ep, a.mono hn ha, b⟩
  | .fn _ _, _, ⟨a, b, dc, dd, sl, c⟩ => ⟨Nat.lt_of_lt_of_le a hn, Nat.lt_of_lt_of_le b hn, dc, dd, sl, by rw [c, ha _ a, ha _ b]⟩
  | .cell _, _, ⟨c, a, b⟩ => ⟨c, a.mono hn ha, b⟩
  | .code, _, h => h
  | .frz _, _, ⟨e, cs, ep, a, b⟩ => ⟨e, cs, ep, a.mono hn ha, b⟩
  | .meth _, _, ⟨a, b⟩ => ⟨Nat.lt_of_lt_of_le a hn, by rw [b, ha _ a]⟩
  | .citer none, _, h => h
  | .citer (some _), _, ⟨a, t, b⟩ => ⟨Nat.lt_of_lt_of_le a hn, t, by rw [b, ha _ a]⟩

/-- the table of an inner def's code: empty, or of the one code object, that is in the store -/
noncomputable def TabAt (B : Base) (α : Nat → Addr) (σ : Sto) (h : Heap) : Prop := B.h₀.get? B.tb = some { cls := .none, data := .fields #[] } ∧
  ∃ ps, h.get? B.tb = some { cls := .none, data := .fields ps } ∧ (ps = #[] ∨ ∃ r, σ[r]? = some .code ∧ ps = #[rawInt B.pos.line, rawInt B.pos.col, .ref (α r)])
theorem TabAt.keep {B : Base} {α : Nat → Addr} {σ : Sto} {h h' : Heap} (x : TabAt B α σ h) (hk : ∀ o, h.get? B.tb = some o → h'.get? B.tb = some o) : TabAt B α σ h' :=
  let ⟨a, ps, b, c⟩ := x; ⟨a, ps, hk _ b, c⟩
theorem TabAt.more {B : Base} {α α' : Nat → Addr} {σ : Sto} {h : Heap} {xs : List O} (x : TabAt B α σ h) (ha : ∀ r, r < σ.length → α' r = α r) : TabAt B α' (σ ++ xs) h := by
  obtain ⟨a, ps, b, c⟩ := x
  refine ⟨a, ps, b, c.imp_right fun ⟨r, h1, h2⟩ => ?_⟩
  have l := (List.getElem?_eq_some_iff.mp h1).1
  exact ⟨r, by rw [List.getElem?_append_left l]; exact h1, by rw [ha r l]; exact h2⟩
theorem TabAt.set {B : Base} {α : Nat → Addr} {σ : Sto} {h : Heap} {r : Nat} {x y : O} (T : TabAt B α σ h) (hr : σ[r]? = some y) (hy : y ≠ .code) : TabAt B α (σ.set r x) h := by
  obtain ⟨a, ps, b, c⟩ := T
  refine ⟨a, ps, b, c.imp_right fun ⟨q, h1, h2⟩ => ⟨q, ?_, h2⟩⟩
  have : r ≠ q := fun e => by rw [e, h1] at hr; cases hr; exact hy rfl
  rw [List.getElem?_set_ne this]; exact h1
structure SInv (B : Base) (α : Nat → Addr) (σ : Sto) (s : Shared) : Prop where
  inj : ∀ r r', r < σ.length → r' < σ.length → α r = α r' → r = r'
  top : ∀ r, r < σ.length → B.h₀.get? (α r) = none
  objs : ∀ r x, σ[r]? = some x → ∃ o, s.heap.get? (α r) = some o ∧ OR B α σ.length x o
  base : ∀ b o, b ≠ B.tb → B.h₀.get? b = some o → s.heap.get? b = some o
  tab : TabAt B α σ s.heap
  bare : PyProof.Rows.AllBare s.gens
  os : s.os = B.os

/-- from (α, σ, s) to (α', σ', s'): nothing that stood is turned, but the store's own objects, the table, and what `own` lets -/
structure Ext (B : Base) (own : Addr → Prop) (α : Nat → Addr) (σ : Sto) (s : Shared) (α' : Nat → Addr) (σ' : Sto) (s' : Shared) : Prop where
  agree : ∀ r, r < σ.length → α' r = α r
  len : σ.length ≤ σ'.length
  fresh : ∀ r, σ.length ≤ r → r < σ'.length → s.heap.get? (α' r) = none ∨ own (α' r)
  keep : ∀ b o, s.heap.get? b = some o → (∀ r, r < σ.length → α r ≠ b) → ¬ own b → b ≠ B.tb → s'.heap.get? b = some o
  live : ∀ b o, s.heap.get? b = some o → ¬ own b → ∃ o', s'.heap.get? b = some o'
  gens : s.gens.size ≤ s'.gens.size ∧ ∀ g, g < s.gens.size → s'.gens[g]? = s.gens[g]?

noncomputable def noOwn : Addr → Prop := fun _ => False

theorem Ext.refl {B : Base} {own : Addr → Prop} {α : Nat → Addr} {σ : Sto} {s : Shared} : Ext B own α σ s α σ s :=
  ⟨fun _ _ => rfl, Nat.le_refl _, fun _ a b => absurd b (Nat.not_lt.mpr a), fun _ _ e _ _ _ => e, fun _ o e _ => ⟨o, e⟩, Nat.le_refl _, fun _ _ => rfl⟩
theorem Ext.trans {B : Base} {own : Addr → Prop} {α α' α'' : Nat → Addr} {σ σ' σ'' : Sto} {s s' s'' : Shared}
    (x : Ext B own α σ s α' σ' s') (y : Ext B own α' σ' s' α'' σ'' s'') : Ext B own α σ s α'' σ'' s'' := by
  refine ⟨fun r h => (y.agree r (Nat.lt_of_lt_of_le h x.len)).trans (x.agree r h), Nat.le_trans x.len y.len, fun r h1 h2 => ?_, fun b o h1 h2 h3 h4 => ?_, fun b o e hn => ?_,
    Nat.le_trans x.gens.1 y.gens.1, fun g hg => (y.gens.2 g (Nat.lt_of_lt_of_le hg x.gens.1)).trans (x.gens.2 g hg)⟩
  · by_cases h : r < σ'.length
    · rw [y.agree r h]; exact x.fresh r h1 h
    · rcases y.fresh r (Nat.le_of_not_lt h) h2 with e | e
      · by_cases q : own (α'' r)
        · exact .inr q
        · refine .inl ?_
          cases p : s.heap.get? (α'' r) with
          | none => rfl
          | some o =>
            obtain ⟨o', e'⟩ := x.live _ o p q
            rw [e] at e'; cases e'
      · exact .inr e
  · refine y.keep b o (x.keep b o h1 h2 h3 h4) (fun r hr e => ?_) h3 h4
    by_cases h : r < σ.length
    · rw [x.agree r h] at e; exact h2 r h e
    · rcases x.fresh r (Nat.le_of_not_lt h) hr with q | q
      · rw [e, h1] at q
        cases q
      · exact h3 (e ▸ q)
  · obtain ⟨o', e'⟩ := x.live b o e hn
    exact y.live b o' e' hn
theorem Ext.weaken {B : Base} {own own' : Addr → Prop} (h : ∀ b, own b → own' b) {α α' : Nat → Addr} {σ σ' : Sto} {s s' : Shared} (x : Ext B own α σ s α' σ' s') : Ext B own' α σ s α' σ' s' :=
  ⟨x.agree, x.len, fun r a b => (x.fresh r a b).imp_right (h _), fun b o h1 h2 h3 h4 => x.keep b o h1 h2 (fun q => h3 (h b q)) h4, fun b o e hn => x.live b o e fun q => hn (h b q), x.gens⟩
theorem Ext.lift {B : Base} {own : Addr → Prop} {α α' : Nat → Addr} {σ σ' : Sto} {s s' : Shared} (x : Ext B noOwn α σ s α' σ' s') : Ext B own α σ s α' σ' s' := x.weaken fun _ h => h.elim
/-- what is own stood not before: the caller sees nothing of it -/
theorem Ext.forget {B : Base} {own own' : Addr → Prop} {α α' : Nat → Addr} {σ σ' : Sto} {s s' : Shared} (h : ∀ b, own b → own' b ∨ s.heap.get? b = none) (x : Ext B own α σ s α' σ' s') : Ext B own' α σ s α' σ' s' :=
  ⟨x.agree, x.len, fun r a b => (x.fresh r a b).elim .inl fun q => (h _ q).symm, fun b o h1 h2 h3 h4 => x.keep b o h1 h2 (fun q => (h b q).elim h3 fun e => by rw [h1] at e; cases e) h4,
    fun b o e hn => x.live b o e fun q => (h b q).elim hn fun e' => (by rw [e] at e'; cases e'), x.gens⟩

theorem VR.ext {B : Base} {own : Addr → Prop} {α α' : Nat → Addr} {σ σ' : Sto} {s s' : Shared} {v : V} {c : Value} (h : VR α σ.length v c) (x : Ext B own α σ s α' σ' s') : VR α' σ'.length v c := h.mono x.len x.agree
theorem VRs.ext {B : Base} {own : Addr → Prop} {α α' : Nat → Addr} {σ σ' : Sto} {s s' : Shared} {v : List V} {c : List Value} (h : VRs α σ.length v c) (x : Ext B own α σ s α' σ' s') : VRs α' σ'.length v c := h.mono x.len x.agree

/-- an evaluation's end: the values, a store that holds for the state, and K of both -/
inductive Out (B : Base) (own : Addr → Prop) (α : Nat → Addr) (σ : Sto) (s : Shared) (K : List V → Sto → Prop) (cs : List Value) (s' : Shared) : Prop
  | mk (vs : List V) (σ' : Sto) (α' : Nat → Addr) (a : K vs σ') (b : VRs α' σ'.length vs cs) (c : SInv B α' σ' s') (d : Ext B own α σ s α' σ' s')

noncomputable abbrev W {α : Type} (B : Base) (A : Around) (t : Sem α) (s : Shared) (Q : α → Shared → Prop) : Prop := wpAny (model B.p B.w) A t Q (fun _ _ => False) s

theorem W.mono {α : Type} {B : Base} {A : Around} {t : Sem α} {s : Shared} {Q Q' : α → Shared → Prop} (h : W B A t s Q) (k : ∀ a s', Q a s' → Q' a s') : W B A t s Q' := wpAny_mono h k fun _ _ x => x
theorem W.lift {α : Type} {B : Base} {A : Around} {t : Sem α} {s : Shared} {Q : α → Shared → Prop} {E : Value → Shared → Prop} (h : W B A t s Q) : wpAny (model B.p B.w) A t Q E s := wpAny_mono h (fun _ _ x => x) fun _ _ x => x.elim

/-! ## steps on stores -/
section
variable {B : Base} {own : Addr → Prop} {α : Nat → Addr} {σ : Sto} {s : Shared}

theorem SInv.get (I : SInv B α σ s) {r : Nat} {x : O} (h : σ[r]? = some x) : r < σ.length := (List.getElem?_eq_some_iff.mp h).1

/-- the heap grew, nothing that stood was turned -/
theorem SInv.grow (I : SInv B α σ s) {h' : Heap} {tk : Nat} {d : Drawn} (hk : ∀ b o, s.heap.get? b = some o → h'.get? b = some o) :
    SInv B α σ { s with heap := h', toks := tk, drawn := d } := by
  refine ⟨I.inj, I.top, fun r x h => ?_, fun b o h2 h3 => hk _ _ (I.base b o h2 h3), ?_, I.bare, I.os⟩
  · obtain ⟨o, e, q⟩ := I.objs r x h
    exact ⟨o, hk _ _ e, q⟩
  · exact I.tab.keep fun o e => hk _ _ e
theorem Ext.grow {h' : Heap} {tk : Nat} {d : Drawn} (hk : ∀ b o, s.heap.get? b = some o → h'.get? b = some o) :
    Ext B own α σ s α σ { s with heap := h', toks := tk, drawn := d } :=
  ⟨fun _ _ => rfl, Nat.le_refl _, fun _ a b => absurd b (Nat.not_lt.mpr a), fun b o e _ _ _ => hk b o e, fun b o e _ => ⟨o, hk b o e⟩, Nat.le_refl _, fun _ _ => rfl⟩
theorem SInv.tok (I : SInv B α σ s) {tk : Nat} : SInv B α σ { s with toks := tk } := I.grow fun _ _ e => e
theorem Ext.tok {tk : Nat} : Ext B own α σ s α σ { s with toks := tk } := Ext.grow fun _ _ e => e

noncomputable def put (α : Nat → Addr) (n : Nat) (a : Addr) : Nat → Addr := fun r => if r = n then a else α r
theorem put_lt {n r : Nat} {a : Addr} (h : r < n) : put α n a r = α r := if_neg (Nat.ne_of_lt h)
theorem put_self {n : Nat} {a : Addr} : put α n a n = a := if_pos rfl

/-- a new object joins the store -/
theorem SInv.off (I : SInv B α σ s) {a : Addr} (ha : s.heap.get? a = none) : ∀ r, r < σ.length → α r ≠ a := fun r h e => by
  obtain ⟨o, e', _⟩ := I.objs r _ (List.getElem?_eq_getElem h)
  rw [e, ha] at e'; cases e'
theorem SInv.offTop (I : SInv B α σ s) {a : Addr} (ha : s.heap.get? a = none) : B.h₀.get? a = none := by
  cases q : B.h₀.get? a with
  | none => rfl
  | some o =>
    by_cases h : a = B.tb
    · subst h
      obtain ⟨_, ps, b, _⟩ := I.tab
      rw [ha] at b; cases b
    · have := I.base a o h q
      rw [ha] at this; cases this
theorem SInv.alloc (I : SInv B α σ s) {h' : Heap} {tk : Nat} {a : Addr} {x : O} {o : Obj} (hk : ∀ b o, s.heap.get? b = some o → h'.get? b = some o) (ha : s.heap.get? a = none)
    (ho : h'.get? a = some o) (hx : OR B (put α σ.length a) (σ.length + 1) x o) : SInv B (put α σ.length a) (σ ++ [x]) { s with heap := h', toks := tk } := by
  have J := I.grow (tk := tk) (d := s.drawn) hk
  have hl : (σ ++ [x]).length = σ.length + 1 := by simp
  have off := I.off ha
  refine ⟨fun r r' h1 h2 e => ?_, fun r h => ?_, fun r y h => ?_, J.base, J.tab.more fun r h => put_lt h, J.bare, J.os⟩
  · rw [hl] at h1 h2
    by_cases q : r = σ.length
    · by_cases q' : r' = σ.length
      · rw [q, q']
      · have l' : r' < σ.length := by lia
        subst q
        rw [put_self, put_lt l'] at e
        exact absurd e.symm (off r' l')
    · have l : r < σ.length := by lia
      by_cases q' : r' = σ.length
      · subst q'
        rw [put_self, put_lt l] at e
        exact absurd e (off r l)
      · have l' : r' < σ.length := by lia
        rw [put_lt l, put_lt l'] at e
        exact I.inj r r' l l' e
  · rw [hl] at h
    by_cases q : r = σ.length
    · subst q
      rw [put_self]
      exact I.offTop ha
    · rw [put_lt (by lia)]
      exact I.top r (by lia)
  · rw [hl]
    by_cases q : r = σ.length
    · subst q
      have : y = x := by simpa using h.symm
      subst this
      exact ⟨o, by rw [put_self]; exact ho, hx⟩
    · have l : r < σ.length := by
        have := (List.getElem?_eq_some_iff.mp h).1
        rw [hl] at this
        lia
      have h' : σ[r]? = some y := by rwa [List.getElem?_append_left l] at h
      obtain ⟨o', e, z⟩ := I.objs r y h'
      exact ⟨o', by rw [put_lt l]; exact hk _ _ e, z.mono (Nat.le_succ _) fun r hr => put_lt hr⟩
theorem Ext.alloc {h' : Heap} {tk : Nat} {a : Addr} {x : O} (hk : ∀ b o, s.heap.get? b = some o → h'.get? b = some o) (ha : s.heap.get? a = none) :
    Ext B own α σ s (put α σ.length a) (σ ++ [x]) { s with heap := h', toks := tk } := by
  refine ⟨fun r h => put_lt h, by simp, fun r h1 h2 => ?_, fun b o e _ _ _ => hk b o e, fun b o e _ => ⟨o, hk b o e⟩, Nat.le_refl _, fun _ _ => rfl⟩
  have : r = σ.length := by simp at h2; lia
  subst this
  rw [put_self]
  exact .inl ha

/-- one object of the store is turned -/
theorem SInv.turn (I : SInv B α σ s) {h' : Heap} {tk : Nat} {r : Nat} {x y : O} {o : Obj} (hr : σ[r]? = some y) (hy : y ≠ .code) (hs : ∀ b, b ≠ α r → ∀ o, s.heap.get? b = some o → h'.get? b = some o)
    (ho : h'.get? (α r) = some o) (hx : OR B α σ.length x o) : SInv B α (σ.set r x) { s with heap := h', toks := tk } := by
  have lr := I.get hr
  have hl : (σ.set r x).length = σ.length := by simp
  have hne : ∀ b o, B.h₀.get? b = some o → b ≠ α r := fun b o hb e => by
    have := I.top r lr
    rw [← e, hb] at this; cases this
  refine ⟨fun a b h1 h2 => I.inj a b (by rwa [hl] at h1) (by rwa [hl] at h2), fun a h => I.top a (by rwa [hl] at h), fun a z h => ?_, fun b o h2 h3 => hs b (hne b o h3) _ (I.base b o h2 h3), ?_, I.bare, I.os⟩
  · rw [hl]
    by_cases q : r = a
    · subst q
      rw [List.getElem?_set_self lr] at h
      cases h
      exact ⟨o, ho, hx⟩
    · rw [List.getElem?_set_ne q] at h
      obtain ⟨o', e, z'⟩ := I.objs a z h
      exact ⟨o', hs _ (fun e => q (I.inj _ _ lr (I.get h) e.symm)) _ e, z'⟩
  · exact (I.tab.keep fun o e => hs _ (hne _ _ I.tab.1) _ e).set hr hy
theorem Ext.turn {h' : Heap} {tk : Nat} {r : Nat} {x : O} {o : Obj} (hr : r < σ.length) (hs : ∀ b, b ≠ α r → ∀ o, s.heap.get? b = some o → h'.get? b = some o) (ho : h'.get? (α r) = some o) :
    Ext B own α σ s α (σ.set r x) { s with heap := h', toks := tk } :=
  ⟨fun _ _ => rfl, by simp, fun r h1 h2 => absurd h2 (by simp; lia), fun b o e h _ _ => hs b (fun q => h r hr q.symm) o e, fun b o' e _ => by
    by_cases q : b = α r
    · exact ⟨o, q ▸ ho⟩
    · exact ⟨o', hs b q o' e⟩, Nat.le_refl _, fun _ _ => rfl⟩

theorem Out.trans {α' : Nat → Addr} {σ' : Sto} {s' s'' : Shared} {K : List V → Sto → Prop} {cs : List Value} (x : Ext B own α σ s α' σ' s') (h : Out B own α' σ' s' K cs s'') : Out B own α σ s K cs s'' := by
  obtain ⟨vs, σ₂, α₂, a, b, c, d⟩ := h
  exact ⟨vs, σ₂, α₂, a, b, c, x.trans d⟩
theorem Out.one {K : List V → Sto → Prop} {v : V} {c : Value} (I : SInv B α σ s) (hk : K [v] σ) (hv : VR α σ.length v c) : Out B own α σ s K [c] s := ⟨[v], σ, α, hk, ⟨hv, trivial⟩, I, .refl⟩
/-- a value of no heap, made with fresh tokens -/
theorem Out.tok {K : List V → Sto → Prop} {v : V} {c : Value} {tk : Nat} (I : SInv B α σ s) (hk : K [v] σ) (hv : VR α σ.length v c) : Out B own α σ s K [c] { s with toks := tk } := ⟨[v], σ, α, hk, ⟨hv, trivial⟩, I.tok, .tok⟩
theorem Out.same {K : List V → Sto → Prop} {v : V} {c : Value} (I : SInv B α σ s) (hk : K [v] σ) (hv : VR α σ.length v c) : Out B own α σ s K [c] s := Out.one I hk hv
/-- a value of no heap, garbage behind it -/
theorem Out.grow {K : List V → Sto → Prop} {v : V} {c : Value} {h' : Heap} {tk : Nat} (I : SInv B α σ s) (hk : K [v] σ) (hv : VR α σ.length v c) (hh : ∀ b o, s.heap.get? b = some o → h'.get? b = some o) :
    Out B own α σ s K [c] { s with heap := h', toks := tk } := ⟨[v], σ, α, hk, ⟨hv, trivial⟩, I.grow (d := s.drawn) hh, .grow (d := s.drawn) hh⟩
theorem Out.alloc {K : List V → Sto → Prop} {h' : Heap} {tk : Nat} {a : Addr} {x : O} {o : Obj} (I : SInv B α σ s) (hk : K [.obj σ.length] (σ ++ [x])) (hh : ∀ b o, s.heap.get? b = some o → h'.get? b = some o)
    (ha : s.heap.get? a = none) (ho : h'.get? a = some o) (hx : OR B (put α σ.length a) (σ.length + 1) x o) : Out B own α σ s K [.ref a] { s with heap := h', toks := tk } :=
  ⟨_, _, _, hk, ⟨⟨by simp, by rw [put_self]⟩, trivial⟩, I.alloc hh ha ho hx, .alloc hh ha⟩
/-- something beside the store is turned -/
theorem SInv.aside (I : SInv B α σ s) {h' : Heap} {tk : Nat} {d : Drawn} {a : Addr} (ht : B.h₀.get? a = none) (ho : ∀ r, r < σ.length → α r ≠ a) (hs : ∀ b o, b ≠ a → s.heap.get? b = some o → h'.get? b = some o) :
    SInv B α σ { s with heap := h', toks := tk, drawn := d } ∧ Ext B (fun b => b = a) α σ s α σ { s with heap := h', toks := tk, drawn := d } := by
  refine ⟨⟨I.inj, I.top, fun r y e => ?_, fun b o h2 h3 => ?_, ?_, I.bare, I.os⟩, ⟨fun _ _ => rfl, Nat.le_refl _, fun _ a b => absurd b (Nat.not_lt.mpr a), fun b o e h1 h2 h3 => hs b o h2 e, fun b o e hn => ⟨o, hs b o hn e⟩, Nat.le_refl _, fun _ _ => rfl⟩⟩
  · obtain ⟨o, e', z⟩ := I.objs r y e
    exact ⟨o, hs _ _ (ho r (I.get e)) e', z⟩
  · exact hs _ _ (fun e : b = a => by rw [e, ht] at h3; cases h3) (I.base b o h2 h3)
  · exact I.tab.keep fun o e => hs _ _ (fun e' : B.tb = a => by have := I.tab.1; rw [e', ht] at this; cases this) e
/-- what is live beside the store stays off it -/
theorem Ext.off (I : SInv B α σ s) {α' : Nat → Addr} {σ' : Sto} {s' : Shared} (x : Ext B own α σ s α' σ' s') {a : Addr} {o : Obj} (ha : s.heap.get? a = some o) (ho : ∀ r, r < σ.length → α r ≠ a) (hn : ¬ own a) : ∀ r, r < σ'.length → α' r ≠ a := fun r h1 e => by
  by_cases q : r < σ.length
  · rw [x.agree r q] at e; exact ho r q e
  · rcases x.fresh r (Nat.le_of_not_lt q) h1 with p | p
    · rw [e, ha] at p; cases p
    · exact hn (e ▸ p)
theorem SInv.ntb (I : SInv B α σ s) {b : Addr} (hb : B.h₀.get? b = none) : b ≠ B.tb := fun e => by
  have a := I.tab.1
  rw [← e, hb] at a; cases a
theorem none_at (h : Heap) : h.get? h.objs.size = none := by simp [Heap.get?]
end
end MI.Internal
end

section
set_option Elab.async false
set_option linter.all false
set_option maxRecDepth 10000
namespace MI.Internal
open PySem PySem.W PySem.Calls

/-! ## the small language -/
set_option genCtorIdx true in
inductive Bf where
  | len | chr | ord | sum | max | list | abs | int | divmod
set_option genCtorIdx true in
inductive Bm where
  | append | pop0 | join | lindex | sindex
inductive X where
  | none | tru | fls | int (i : Int) | str (l : List Nat) | bytes (l : List UInt8)
  | var (i : Nat)
  | nil | cons (a b : X)
  | bin (op : Operator) (a b : X)
  | neg (a : X) | not (a : X)
  | cmp (op : CmpOp) (a b : X)
  | boolop (op : PySem.BoolOp) (es : X)
  | ife (t a b : X)
  | idx (a i : X)
  | slice (a lo hi : X)
  | list (es : X) | tup (es : X)
  | comp (elt : X) (n : Nat) (iter cond : X)
  | range (es : X)
  | call (f : Nat) (es : X) | new (es : X)
  | bcall (b : Bf) (es : X)
  | bm (m : Bm) (o es : X)
  | cm (m : Nat) (name : List Nat) (o es : X) | cr (name : List Nat) (o es : X)
  | attr (a : X) (name : List Nat)
  | isb (a : X)
  | citer (o : X)
inductive S where
  | nil | cons (a b : S)
  | asg (i : Nat) (e : X) | asgT (is : List Nat) (e : X) | asgA (o : X) (name : List Nat) (e : X)
  | aug (i : Nat) (op : Operator) (e : X) | augI (o i : X) (op : Operator) (e : X) | augA (o : X) (name : List Nat) (op : Operator) (e : X)
  | expr (e : X)
  | ret (e : X) | retN
  | ife (t : X) (a b : S)
  | for_ (is : List Nat) (iter : X) (b : S)
  | forG (i : Nat) (g : X) (b : S)
  | forC (i : Nat) (c : X) (b : S)
  | while_ (t : X) (b : S)
  | brk | cont
inductive Fl where
  | next | brk | cont | ret (v : V)
noncomputable def X.ctorIdx (x : X) : Nat := x.casesOn 0 1 2 (fun _ => 3) (fun _ => 4) (fun _ => 5) (fun _ => 6) 7 (fun _ _ => 8) (fun _ _ _ => 9) (fun _ => 10) (fun _ => 11) (fun _ _ _ => 12) (fun _ _ => 13) (fun _ _ _ => 14) (fun _ _ => 15) (fun _ _ _ => 16) (fun _ => 17) (fun _ => 18) (fun _ _ _ _ => 19) (fun _ => 20) (fun _ _ => 21) (fun _ => 22) (fun _ _ => 23) (fun _ _ _ => 24) (fun _ _ _ _ => 25) (fun _ _ _ => 26) (fun _ _ => 27) (fun _ => 28) (fun _ => 29)
noncomputable def S.ctorIdx (x : S) : Nat := x.casesOn 0 (fun _ _ => 1) (fun _ _ => 2) (fun _ _ => 3) (fun _ _ _ => 4) (fun _ _ _ => 5) (fun _ _ _ _ => 6) (fun _ _ _ _ => 7) (fun _ => 8) (fun _ => 9) 10 (fun _ _ _ => 11) (fun _ _ _ => 12) (fun _ _ _ => 13) (fun _ _ _ => 14) (fun _ _ => 15) 16 17
noncomputable def Fl.ctorIdx (x : Fl) : Nat := x.casesOn 0 1 2 (fun _ => 3)
noncomputable abbrev Lv := List (Option V)

/-! ## what is asked of numbers and sizes -/
noncomputable def Sm (a : Int) : Prop := -(2 ^ 400 : Int) < a ∧ a < 2 ^ 400
noncomputable def Lo (a : Int) : Prop := -(1000000000000 : Int) < a ∧ a < 1000000000000
noncomputable def Fits (n : Nat) : Prop := n ≤ 1000000

/-! ## operators -/
noncomputable abbrev VK := V → Sto → Prop
/-! ### views of values -/
noncomputable def tInt (v : V) (f : Int → Prop) : Prop := match v with | .int i => f i | _ => False
noncomputable def tStr (v : V) (f : List Nat → Prop) : Prop := match v with | .str i => f i | _ => False
noncomputable def tByt (v : V) (f : List UInt8 → Prop) : Prop := match v with | .bytes i => f i | _ => False
noncomputable def tObj (v : V) (f : Nat → Prop) : Prop := match v with | .obj i => f i | _ => False
noncomputable def tBoo (v : V) (f : Bool → Prop) : Prop := match v with | .bool i => f i | _ => False
noncomputable def oLst (o : Option O) (f : List V → Prop) : Prop := match o with | some (.list l) => f l | _ => False
noncomputable def a1 {β : Type} (vs : List β) (f : β → Prop) : Prop := match vs with | [a] => f a | _ => False
noncomputable def a2 {β : Type} (vs : List β) (f : β → β → Prop) : Prop := match vs with | [a, b] => f a b | _ => False
theorem tInt_ok {v : V} {f : Int → Prop} (h : tInt v f) : ∃ i, v = .int i ∧ f i := by cases v <;> first | exact ⟨_, rfl, h⟩ | exact h.elim
theorem tStr_ok {v : V} {f : List Nat → Prop} (h : tStr v f) : ∃ i, v = .str i ∧ f i := by cases v <;> first | exact ⟨_, rfl, h⟩ | exact h.elim
theorem tByt_ok {v : V} {f : List UInt8 → Prop} (h : tByt v f) : ∃ i, v = .bytes i ∧ f i := by cases v <;> first | exact ⟨_, rfl, h⟩ | exact h.elim
theorem tObj_ok {v : V} {f : Nat → Prop} (h : tObj v f) : ∃ i, v = .obj i ∧ f i := by cases v <;> first | exact ⟨_, rfl, h⟩ | exact h.elim
theorem tBoo_ok {v : V} {f : Bool → Prop} (h : tBoo v f) : ∃ i, v = .bool i ∧ f i := by cases v <;> first | exact ⟨_, rfl, h⟩ | exact h.elim
theorem oLst_ok {o : Option O} {f : List V → Prop} (h : oLst o f) : ∃ l, o = some (.list l) ∧ f l := by
  cases o with
  | none => exact h.elim
  | some x => cases x <;> first | exact ⟨_, rfl, h⟩ | exact h.elim
theorem oLst_of {o : Option O} {l : List V} {f : List V → Prop} (h : o = some (.list l)) : oLst o f = f l := by subst h; rfl
theorem a1_ok {β : Type} {vs : List β} {f : β → Prop} (h : a1 vs f) : ∃ a, vs = [a] ∧ f a := by
  cases vs with
  | nil => exact h.elim
  | cons a vs => cases vs with
    | nil => exact ⟨_, rfl, h⟩
    | cons _ _ => exact h.elim
theorem a2_ok {β : Type} {vs : List β} {f : β → β → Prop} (h : a2 vs f) : ∃ a b, vs = [a, b] ∧ f a b := by
  cases vs with
  | nil => exact h.elim
  | cons a vs => cases vs with
    | nil => exact h.elim
    | cons b vs => cases vs with
      | nil => exact ⟨_, _, rfl, h⟩
      | cons _ _ => exact h.elim
noncomputable def addS (a b : V) (σ : Sto) (K : VK) : Prop := match a with
  | .int a => tInt b fun b => K (.int (a + b)) σ
  | .str a => tStr b fun b => Fits (a.length + b.length) ∧ K (.str (a ++ b)) σ
  | .bytes a => tByt b fun b => Fits (a.length + b.length) ∧ K (.bytes (a ++ b)) σ
  | .obj r => tObj b fun q => oLst σ[r]? fun l => oLst σ[q]? fun m => Fits (l.length + m.length) ∧ K (.obj σ.length) (σ ++ [.list (l ++ m)])
  | _ => False
noncomputable def mulS (a b : V) (σ : Sto) (K : VK) : Prop := match a with
  | .int a => tInt b fun b => Sm a ∧ Sm b ∧ K (.int (a * b)) σ
  | .str a => tInt b fun n => 1 ≤ n ∧ n < 1000 ∧ a.length < 1000 ∧ K (.str (List.replicate n.toNat a).flatten) σ
  | .obj r => tInt b fun n => oLst σ[r]? fun l => -1000 < n ∧ n < 1000 ∧ l.length < 1000 ∧ K (.obj σ.length) (σ ++ [.list (List.replicate n.toNat l).flatten])
  | _ => False
noncomputable def binS (op : Operator) (a b : V) (σ : Sto) (K : VK) : Prop :=
  match op with
  | .Add => addS a b σ K
  | .Mult => mulS a b σ K
  | .Sub => tInt a fun a => tInt b fun b => K (.int (a - b)) σ
  | .FloorDiv => tInt a fun a => tInt b fun b => 0 < b ∧ Sm b ∧ K (.int (a / b)) σ
  | .Mod => tInt a fun a => tInt b fun b => 0 < b ∧ K (.int (a % b)) σ
  | .Pow => tInt a fun a => tInt b fun b => 0 ≤ b ∧ b ≤ 1000 ∧ Sm a ∧ K (.int (a ^ b.toNat)) σ
  | .BitXor => tInt a fun a => tInt b fun b => K (.int (Builtin.bitXor a b)) σ
  | _ => False
/-- the operators with a place of their own -/
noncomputable def iadS (a b : V) (σ : Sto) (K : VK) : Prop := match a with
  | .int a => tInt b fun b => K (.int (a + b)) σ
  | .str a => tStr b fun b => Fits (a.length + b.length) ∧ K (.str (a ++ b)) σ
  | _ => False
noncomputable def augS (op : Operator) (a b : V) (σ : Sto) (K : VK) : Prop :=
  match op with
  | .Add => iadS a b σ K
  | .Sub => tInt a fun a => tInt b fun b => K (.int (a - b)) σ
  | _ => False
noncomputable def truS (v : V) (σ : Sto) (K : Bool → Sto → Prop) : Prop := match v with
  | .none => K false σ
  | .bool b => K b σ
  | .int i => K (decide (i ≠ 0)) σ
  | .str _ => False
  | .bytes _ => False
  | .obj r => match σ[r]? with
    | some (.list l) => Fits l.length ∧ K (!l.isEmpty) σ
    | _ => False

noncomputable def datL (f : V → Option Dat) : List V → Option (List Dat)
  | [] => some []
  | v :: l => match f v, datL f l with
    | some d, some ds => some (d :: ds)
    | _, _ => none
noncomputable def datF : V → Option Dat
  | .none => some .none
  | .int i => some (.int i)
  | .str l => some (.str ⟨l.toArray⟩)
  | _ => none
noncomputable def datV (σ : Sto) : Nat → V → Option Dat
  | 0, v => datF v
  | n + 1, v => match v with
    | .obj r => (match σ[r]? with
      | some (.list l) => (datL (datV σ n) l).map .list
      | _ => none)
    | v => datF v
noncomputable def sameD (a b : V) (σ : Sto) (f : List Dat → List Dat → Prop) : Prop :=
  ∃ ds es, datV σ 9 a = some (.list ds) ∧ datV σ 9 b = some (.list es) ∧ (∀ d ∈ ds, kqdOk 8 d = true) ∧ (∀ d ∈ es, kqdOk 8 d = true) ∧ f ds es
noncomputable def eqS (a b : V) (σ : Sto) (K : Bool → Sto → Prop) : Prop := match a with
  | .int a => tInt b fun b => K (decide (a = b)) σ
  | .str a => tStr b fun b => K (decide (a = b)) σ
  | .obj r => tObj b fun q => sameD (.obj r) (.obj q) σ fun ds es => ∀ b, (b = true ↔ ds = es) → K b σ
  | _ => False
noncomputable def neS (a b : V) (σ : Sto) (K : Bool → Sto → Prop) : Prop := match a with
  | .int a => tInt b fun b => K (!decide (a = b)) σ
  | .str a => tStr b fun b => K (!decide (a = b)) σ
  | .obj r => tObj b fun q => sameD (.obj r) (.obj q) σ fun ds es => ∀ b, (b = false ↔ ds = es) → K b σ
  | _ => False
noncomputable def isNone : V → Bool
  | .none => true
  | _ => false
noncomputable def isS (a b : V) (σ : Sto) (K : Bool → Sto → Prop) : Prop := match b with
  | .none => K (isNone a) σ
  | .bool b => tBoo a fun c => K (decide (c = b)) σ
  | _ => False
noncomputable def isntS (a b : V) (σ : Sto) (K : Bool → Sto → Prop) : Prop := match b with
  | .none => K (!isNone a) σ
  | .bool b => tBoo a fun c => K (!decide (c = b)) σ
  | _ => False
noncomputable def cmpS (op : CmpOp) (a b : V) (σ : Sto) (K : Bool → Sto → Prop) : Prop :=
  match op with
  | .Eq => eqS a b σ K
  | .NotEq => neS a b σ K
  | .Lt => tInt a fun a => tInt b fun b => K (decide (a < b)) σ
  | .LtE => tInt a fun a => tInt b fun b => K (decide (a ≤ b)) σ
  | .Gt => tInt a fun a => tInt b fun b => K (decide (b < a)) σ
  | .GtE => tInt a fun a => tInt b fun b => K (decide (b ≤ a)) σ
  | .In => tStr a fun s => a1 s fun c => tStr b fun l => K (l.contains c) σ
  | .Is => isS a b σ K
  | .IsNot => isntS a b σ K
  | _ => False

noncomputable def intsV : List V → Option (List Int)
  | [] => some []
  | .int i :: l => (intsV l).map (i :: ·)
  | _ => none
noncomputable def strsV : List V → Option (List (List Nat))
  | [] => some []
  | .str i :: l => (strsV l).map (i :: ·)
  | _ => none
noncomputable def maxL : List Int → Int
  | [] => 0
  | [a] => a
  | a :: l => let m := maxL l; if m > a then m else a

noncomputable def lenO (o : Option O) (σ : Sto) (K : VK) : Prop := match o with
  | some (.list l) => Fits l.length ∧ K (.int l.length) σ
  | some (.frz l) => Fits l.length ∧ K (.int l.length) σ
  | _ => False
noncomputable def lenS (v : V) (σ : Sto) (K : VK) : Prop := match v with
  | .str l => Fits l.length ∧ K (.int l.length) σ
  | .bytes l => Fits l.length ∧ K (.int l.length) σ
  | .obj r => lenO σ[r]? σ K
  | _ => False
noncomputable def maxS (a : V) (vs : List V) (σ : Sto) (K : VK) : Prop := match vs with
  | [] => tObj a fun r => oLst σ[r]? fun l => ∃ ns, intsV l = some ns ∧ ns ≠ [] ∧ ∀ m, m ∈ ns → (∀ a, a ∈ ns → a ≤ m) → K (.int m) σ
  | vs => a1 vs fun b => tInt a fun a => tInt b fun b => K (.int (if b > a then b else a)) σ
noncomputable def listS (v : V) (σ : Sto) (K : VK) : Prop := match v with
  | .str l => Fits l.length ∧ K (.obj σ.length) (σ ++ [.list (l.map fun c => .str [c])])
  | .obj r => oLst σ[r]? fun l => Fits l.length ∧ K (.obj σ.length) (σ ++ [.list l])
  | _ => False
noncomputable def bfS (f : Bf) (vs : List V) (σ : Sto) (K : VK) : Prop :=
  match f with
  | .len => a1 vs fun v => lenS v σ K
  | .chr => a1 vs fun v => tInt v fun i => 0 ≤ i ∧ i < 0x110000 ∧ K (.str [i.toNat]) σ
  | .ord => a1 vs fun v => tStr v fun s => a1 s fun c => K (.int c) σ
  | .sum => a1 vs fun v => tObj v fun r => oLst σ[r]? fun l => ∃ ns, intsV l = some ns ∧ K (.int ns.sum) σ
  | .max => (match vs with | a :: vs => maxS a vs σ K | [] => False)
  | .list => a1 vs fun v => listS v σ K
  | .abs => a1 vs fun v => tInt v fun a => K (.int (if a < 0 then -a else a)) σ
  | .int => a1 vs fun v => tInt v fun a => K (.int a) σ
  | .divmod => a2 vs fun a b => tInt a fun a => tInt b fun b => 0 < b ∧ Sm b ∧ K (.obj σ.length) (σ ++ [.tup [.int (a / b), .int (a % b)]])
noncomputable def popS (r : Nat) (σ : Sto) (K : VK) : List V → Prop
  | v :: l => Fits l.length ∧ K v (σ.set r (.list l))
  | [] => False
noncomputable def bmS (m : Bm) (o : V) (vs : List V) (σ : Sto) (K : VK) : Prop :=
  match m with
  | .append => tObj o fun r => a1 vs fun v => oLst σ[r]? fun l => Fits l.length ∧ K .none (σ.set r (.list (l ++ [v])))
  | .pop0 => tObj o fun r => a1 vs fun v => tInt v fun i => i = 0 ∧ oLst σ[r]? (popS r σ K)
  | .join => tStr o fun s => s = [] ∧ a1 vs fun v => tObj v fun r => oLst σ[r]? fun l => ∃ ss, strsV l = some ss ∧ ss.flatten.length + ss.length ≤ 1000000 ∧ K (.str ss.flatten) σ
  | .lindex => tObj o fun r => a1 vs fun v => tInt v fun a => oLst σ[r]? fun l => ∃ ns, intsV l = some ns ∧ a ∈ ns ∧ PyData.layable0 (.list (ns.map .int)) = true ∧ K (.int (ns.idxOf a)) σ
  | .sindex => tStr o fun l => a1 vs fun v => tStr v fun s => a1 s fun c => l = [65, 66, 67, 68, 69, 70, 71, 72, 73, 74, 75, 76, 77, 78, 79, 80] ∧ 65 ≤ c ∧ c < 81 ∧ K (.int ((c : Int) - 65)) σ
/-- what the method's object must be, ahead of the arguments -/
noncomputable def bmT (m : Bm) (o : V) (σ : Sto) : Prop := match m with
  | .append | .pop0 | .lindex => tObj o fun r => ∃ l, σ[r]? = some (.list l)
  | .join | .sindex => tStr o fun _ => True
/-- an item -/
noncomputable def idxS (a i : V) (σ : Sto) (K : VK) : Prop :=
  match a, i with
  | .str l, .int i => Fits l.length ∧ ((0 ≤ i ∧ ∃ c, l[i.toNat]? = some c ∧ K (.str [c]) σ) ∨ (i < 0 ∧ -i ≤ l.length ∧ ∃ c, l[((l.length : Int) + i).toNat]? = some c ∧ K (.str [c]) σ))
  | .bytes l, .int i => Fits l.length ∧ 0 ≤ i ∧ ∃ c, l[i.toNat]? = some c ∧ K (.int c.toNat) σ
  | .obj r, .int i => (match σ[r]? with
      | some (.list l) => Fits l.length ∧ ((0 ≤ i ∧ ∃ c, l[i.toNat]? = some c ∧ K c σ) ∨ (i < 0 ∧ -i ≤ l.length ∧ ∃ c, l[((l.length : Int) + i).toNat]? = some c ∧ K c σ))
      | some (.frz l) => Fits l.length ∧ 0 ≤ i ∧ ∃ c, l[i.toNat]? = some c ∧ K c σ
      | _ => False)
  | _, _ => False
/-- a slice's bound: none or an int; where it lies -/
noncomputable def cut (n : Nat) (d : Nat) : List V → Option Nat
  | [] => some d
  | [.int i] => some (clipAt n i)
  | _ => none
noncomputable def sliceS (a : V) (lo hi : List V) (σ : Sto) (K : VK) : Prop :=
  match a with
  | .str l => ∃ i j, Fits l.length ∧ cut l.length 0 lo = some i ∧ cut l.length l.length hi = some j ∧ K (.str ((l.take j).drop i)) σ
  | .bytes l => ∃ i j, Fits l.length ∧ cut l.length 0 lo = some i ∧ cut l.length l.length hi = some j ∧ K (.bytes ((l.take j).drop i)) σ
  | .obj r => (match σ[r]? with
      | some (.list l) => ∃ i j, Fits l.length ∧ cut l.length 0 lo = some i ∧ cut l.length l.length hi = some j ∧ K (.obj σ.length) (σ ++ [.list ((l.take j).drop i)])
      | _ => False)
  | _ => False
noncomputable def attS (a : V) (name : List Nat) (σ : Sto) (K : VK) : Prop := match a with
  | .obj r => (match σ[r]? with
    | some (.inst d) => (match σ[d]? with
      | some (.dict es) => (match es.lookup name with
        | some v => K v σ
        | none => False)
      | _ => False)
    | _ => False)
  | _ => False
/-- an object whose own names hold not this one -/
noncomputable def mthS (a : V) (name : List Nat) (σ : Sto) : Prop := match a with
  | .obj r => (match σ[r]? with
    | some (.inst d) => (match σ[d]? with
      | some (.dict es) => es.lookup name = none
      | _ => False)
    | _ => False)
  | _ => False
noncomputable def putD (name : List Nat) (v : V) : List (List Nat × V) → List (List Nat × V)
  | [] => [(name, v)]
  | e :: es => if e.1 = name then (e.1, v) :: es else e :: putD name v es
noncomputable def attP (a : V) (name : List Nat) (v : V) (σ : Sto) (K : Sto → Prop) : Prop := match a with
  | .obj r => (match σ[r]? with
    | some (.inst d) => (match σ[d]? with
      | some (.dict es) => es.length < 100 ∧ K (σ.set d (.dict (putD name v es)))
      | _ => False)
    | _ => False)
  | _ => False
noncomputable def putS (a i v : V) (σ : Sto) (K : Sto → Prop) : Prop := match a, i with
  | .obj r, .int i => (match σ[r]? with
      | some (.list l) => Fits l.length ∧ 0 ≤ i ∧ i < l.length ∧ K (σ.set r (.list (l.set i.toNat v)))
      | _ => False)
  | _, _ => False

/-! ## iterators -/
inductive It where
  | lst (r i : Nat) | tp (r i : Nat) | str (l : List Nat) | byt (l : List UInt8) | rng (cur step : Int) (left : Nat)
noncomputable def It.ctorIdx (x : It) : Nat := x.casesOn (fun _ _ => 0) (fun _ _ => 1) (fun _ => 2) (fun _ => 3) (fun _ _ _ => 4)
noncomputable def oLs (o : Option O) : Option (List V) := match o with | some (.list l) => some l | _ => none
noncomputable def oTu (o : Option O) : Option (List V) := match o with | some (.tup l) => some l | _ => none
theorem oLs_ok {o : Option O} {l : List V} (h : oLs o = some l) : o = some (.list l) := by
  cases o with
  | none => cases h
  | some x => cases x <;> first | exact congrArg (fun l => some (O.list l)) (Option.some.inj h) | cases h
theorem oTu_ok {o : Option O} {l : List V} (h : oTu o = some l) : o = some (.tup l) := by
  cases o with
  | none => cases h
  | some x => cases x <;> first | exact congrArg (fun l => some (O.tup l)) (Option.some.inj h) | cases h
noncomputable def itNext (σ : Sto) : It → Option (Option (V × It))
  | .lst r i => (oLs σ[r]?).map fun l => l[i]?.map fun v => (v, .lst r (i + 1))
  | .tp r i => (oTu σ[r]?).map fun l => l[i]?.map fun v => (v, .tp r (i + 1))
  | .str [] => some none
  | .str (c :: l) => some (some (.str [c], .str l))
  | .byt [] => some none
  | .byt (c :: l) => some (some (.int c.toNat, .byt l))
  | .rng _ _ 0 => some none
  | .rng c d (n + 1) => some (some (.int c, .rng (c + d) d n))
noncomputable def iterR2 (a b : Int) (vs : List V) (σ : Sto) (K : It → Sto → Prop) : Prop := match vs with
  | [] => Lo a ∧ Lo b ∧ K (.rng a 1 (b - a).toNat) σ
  | vs => a1 vs fun c => tInt c fun c => Lo a ∧ Lo b ∧ c = -1 ∧ K (.rng a (-1) (a - b).toNat) σ
noncomputable def iterR1 (a : Int) (vs : List V) (σ : Sto) (K : It → Sto → Prop) : Prop := match vs with
  | [] => Lo a ∧ K (.rng 0 1 a.toNat) σ
  | b :: vs => tInt b fun b => iterR2 a b vs σ K
noncomputable def iterR (vs : List V) (σ : Sto) (K : It → Sto → Prop) : Prop := match vs with
  | [] => False
  | a :: vs => tInt a fun a => iterR1 a vs σ K
noncomputable def iterV (v : V) (σ : Sto) (K : It → Sto → Prop) : Prop :=
  match v with
  | .str l => Fits l.length ∧ K (.str l) σ
  | .bytes l => Fits l.length ∧ K (.byt l) σ
  | .obj r => (match σ[r]? with
    | some (.list _) => K (.lst r 0) σ
    | some (.tup _) => K (.tp r 0) σ
    | _ => False)
  | _ => False
/-- the items that are bound: one name, or as many names as the tuple has places -/
noncomputable def bindV (n : Nat) (v : V) (σ : Sto) (K : List V → Sto → Prop) : Prop := match n with
  | 1 => K [v] σ
  | n => match v with
    | .obj r => (match σ[r]? with
      | some (.tup l) => l.length = n ∧ K l σ
      | some (.list l) => l.length = n ∧ K l σ
      | _ => False)
    | _ => False
/-- after a turn -/
noncomputable def flK (again : Lv → Sto → Prop) (K : Fl → Lv → Sto → Prop) : Fl → Lv → Sto → Prop := fun f ρ σ => match f with
  | .next => again ρ σ
  | .cont => again ρ σ
  | .brk => K .next ρ σ
  | .ret v => K (.ret v) ρ σ
noncomputable def loopS (step : V → Lv → Sto → (Fl → Lv → Sto → Prop) → Prop) : Nat → It → Lv → Sto → (Fl → Lv → Sto → Prop) → Prop
  | 0, _, _, _, _ => False
  | n + 1, it, ρ, σ, K => match itNext σ it with
    | none => False
    | some none => K .next ρ σ
    | some (some (v, it')) => step v ρ σ (flK (fun ρ' σ' => loopS step n it' ρ' σ' K) K)
noncomputable def compS (step : V → Sto → (Option V → Sto → Prop) → Prop) : Nat → It → List V → Sto → (List V → Sto → Prop) → Prop
  | 0, _, _, _, _ => False
  | n + 1, it, acc, σ, K => match itNext σ it with
    | none => False
    | some none => K acc σ
    | some (some (v, it')) => step v σ fun o σ' => match o with
      | some x => Fits acc.length ∧ compS step n it' (acc ++ [x]) σ' K
      | none => compS step n it' acc σ' K
noncomputable def whileS (test : Lv → Sto → (Bool → Sto → Prop) → Prop) (body : Lv → Sto → (Fl → Lv → Sto → Prop) → Prop) : Nat → Lv → Sto → (Fl → Lv → Sto → Prop) → Prop
  | 0, _, _, _ => False
  | n + 1, ρ, σ, K => test ρ σ fun b σ' => (b = false → K .next ρ σ') ∧ (b = true → body ρ σ' (flK (fun ρ' σ' => whileS test body n ρ' σ' K) K))

/-! a turn or the end -/
section
variable {n : Nat} {it : It} {acc : List V} {σ : Sto} {ρ : Lv}
theorem nx_lst {r i : Nat} {l : List V} (h : σ[r]? = some (.list l)) : itNext σ (.lst r i) = some (l[i]?.map fun v => (v, .lst r (i + 1))) := by
  show (oLs σ[r]?).map _ = _
  rw [h]; rfl
theorem loop_cases {step : V → Lv → Sto → (Fl → Lv → Sto → Prop) → Prop} {K : Fl → Lv → Sto → Prop} (h : loopS step (n + 1) it ρ σ K) : (itNext σ it = some none ∧ K .next ρ σ) ∨ Ex2 fun v it' => itNext σ it = some (some (v, it')) ∧ step v ρ σ (flK (fun ρ' σ' => loopS step n it' ρ' σ' K) K) := by
  have h : (match itNext σ it with
    | none => False
    | some none => K .next ρ σ
    | some (some (v, it')) => step v ρ σ (flK (fun ρ' σ' => loopS step n it' ρ' σ' K) K)) := h
  generalize itNext σ it = o at h
  cases o with
  | none => exact h.elim
  | some o => cases o with
    | none => exact .inl ⟨rfl, h⟩
    | some p => exact .inr ⟨p.1, p.2, rfl, h⟩
theorem comp_cases {step : V → Sto → (Option V → Sto → Prop) → Prop} {K : List V → Sto → Prop} (h : compS step (n + 1) it acc σ K) : (itNext σ it = some none ∧ K acc σ) ∨ Ex2 fun v it' => itNext σ it = some (some (v, it')) ∧ step v σ fun o σ' => match o with
      | some x => Fits acc.length ∧ compS step n it' (acc ++ [x]) σ' K
      | none => compS step n it' acc σ' K := by
  have h : (match itNext σ it with
    | none => False
    | some none => K acc σ
    | some (some (v, it')) => step v σ fun o σ' => match o with
      | some x => Fits acc.length ∧ compS step n it' (acc ++ [x]) σ' K
      | none => compS step n it' acc σ' K) := h
  generalize itNext σ it = o at h
  cases o with
  | none => exact h.elim
  | some o => cases o with
    | none => exact .inl ⟨rfl, h⟩
    | some p => exact .inr ⟨p.1, p.2, rfl, h⟩
theorem loop_end {step : V → Lv → Sto → (Fl → Lv → Sto → Prop) → Prop} {K : Fl → Lv → Sto → Prop} (e : itNext σ it = some none) (h : K .next ρ σ) : loopS step (n + 1) it ρ σ K := by
  show (match itNext σ it with | none => _ | some none => _ | some (some (_, _)) => _)
  rw [e]; exact h
theorem loop_turn {step : V → Lv → Sto → (Fl → Lv → Sto → Prop) → Prop} {K : Fl → Lv → Sto → Prop} {v : V} {it' : It} (e : itNext σ it = some (some (v, it'))) (h : step v ρ σ (flK (fun ρ' σ' => loopS step n it' ρ' σ' K) K)) : loopS step (n + 1) it ρ σ K := by
  show (match itNext σ it with | none => _ | some none => _ | some (some (_, _)) => _)
  rw [e]; exact h
theorem comp_end {step : V → Sto → (Option V → Sto → Prop) → Prop} {K : List V → Sto → Prop} (e : itNext σ it = some none) (h : K acc σ) : compS step (n + 1) it acc σ K := by
  show (match itNext σ it with | none => _ | some none => _ | some (some (_, _)) => _)
  rw [e]; exact h
theorem comp_turn {step : V → Sto → (Option V → Sto → Prop) → Prop} {K : List V → Sto → Prop} {v : V} {it' : It} (e : itNext σ it = some (some (v, it'))) (h : step v σ fun o σ' => match o with
      | some x => Fits acc.length ∧ compS step n it' (acc ++ [x]) σ' K
      | none => compS step n it' acc σ' K) : compS step (n + 1) it acc σ K := by
  show (match itNext σ it with | none => _ | some none => _ | some (some (_, _)) => _)
  rw [e]; exact h
end

/-- the contracts: a function's (by its number) and a method's -/
structure Con where
  fn : Nat → List V → Sto → VK → Prop
  me : Nat → V → List V → Sto → VK → Prop
  nw : List V → Sto → VK → Prop
  rd : Nat → List V → Sto → VK → Prop
noncomputable def inB1 (c : Nat) : Bool := [173, 847, 6150, 6155, 6156, 6157, 8203, 8204, 8205, 8288, 65279].contains c || (Nat.ble 65024 c && Nat.blt c 65040)

noncomputable abbrev LK := List V → Sto → Prop
noncomputable def one (K : VK) : LK := fun vs σ => match vs with | [v] => K v σ | _ => False

/-- a turn of a comprehension -/
noncomputable def stepC (ct : Lv → Sto → (Bool → Sto → Prop) → Prop) (ev : Lv → Sto → LK → Prop) (n : Nat) (ρ : Lv) (v : V) (σ : Sto) (K : Option V → Sto → Prop) : Prop :=
  bindV n v σ fun xs σ => ct (ρ ++ xs.map some) σ fun b σ => (b = false → K none σ) ∧ (b = true → ev (ρ ++ xs.map some) σ (one fun x σ => K (some x) σ))
noncomputable def rcName : List Nat := [95, 114, 101, 97, 100, 95, 99, 104, 97, 114]
structure Mean where
  v : Lv → Sto → LK → Prop
  t : Lv → Sto → (Bool → Sto → Prop) → Prop
  ts : PySem.BoolOp → Lv → Sto → (Bool → Sto → Prop) → Prop
  it : Lv → Sto → (It → Sto → Prop) → Prop
noncomputable def ofV (v : Lv → Sto → LK → Prop) : Mean :=
  ⟨v, fun ρ σ K => v ρ σ (one fun x σ => truS x σ K), fun _ _ _ _ => False, fun ρ σ K => v ρ σ (one fun x σ => iterV x σ K)⟩
noncomputable def mean (Φ : Con) : X → Mean
  | .none => ofV fun _ σ K => K [.none] σ
  | .tru => ofV fun _ σ K => K [.bool true] σ
  | .fls => ofV fun _ σ K => K [.bool false] σ
  | .int i => ofV fun _ σ K => K [.int i] σ
  | .str l => ofV fun _ σ K => K [.str l] σ
  | .bytes l => ofV fun _ σ K => K [.bytes l] σ
  | .var i => ofV fun ρ σ K => (match ρ[i]? with | some (some v) => K [v] σ | _ => False)
  | .nil => ⟨fun _ σ K => K [] σ, fun _ σ K => K true σ, fun op _ σ K => K (op == .And) σ, fun _ _ _ => False⟩
  | .cons a b => ⟨fun ρ σ K => (mean Φ a).v ρ σ (one fun x σ => (mean Φ b).v ρ σ fun vb σ => K (x :: vb) σ),
      fun _ _ _ => False,
      fun op ρ σ K => (mean Φ a).t ρ σ fun c σ => (match op with
        | .And => (c = false → K false σ) ∧ (c = true → (mean Φ b).ts op ρ σ K)
        | .Or => (c = true → K true σ) ∧ (c = false → (mean Φ b).ts op ρ σ K)),
      fun _ _ _ => False⟩
  | .bin op a b => ofV fun ρ σ K => (mean Φ a).v ρ σ (one fun x σ => (mean Φ b).v ρ σ (one fun y σ => binS op x y σ fun v σ => K [v] σ))
  | .neg a => ofV fun ρ σ K => (mean Φ a).v ρ σ (one fun x σ => match x with | .int i => K [.int (-i)] σ | _ => False)
  | .not a => { ofV (fun ρ σ K => (mean Φ a).v ρ σ (one fun x σ => truS x σ fun b σ => K [.bool (!b)] σ)) with t := fun ρ σ K => (mean Φ a).t ρ σ fun b σ => K (!b) σ }
  | .cmp op a b => { ofV (fun ρ σ K => (mean Φ a).v ρ σ (one fun x σ => (mean Φ b).v ρ σ (one fun y σ => cmpS op x y σ fun v σ => K [.bool v] σ))) with
      t := fun ρ σ K => (mean Φ a).v ρ σ (one fun x σ => (mean Φ b).v ρ σ (one fun y σ => cmpS op x y σ K)) }
  | .boolop op es => ⟨fun _ _ _ => False, (mean Φ es).ts op, fun _ _ _ _ => False, fun _ _ _ => False⟩
  | .ife t a b => ofV fun ρ σ K => (mean Φ t).t ρ σ fun c σ => (c = true → (mean Φ a).v ρ σ K) ∧ (c = false → (mean Φ b).v ρ σ K)
  | .idx a i => ofV fun ρ σ K => (mean Φ a).v ρ σ (one fun x σ => (mean Φ i).v ρ σ (one fun y σ => idxS x y σ fun v σ => K [v] σ))
  | .slice a lo hi => ofV fun ρ σ K => (mean Φ a).v ρ σ (one fun x σ => (mean Φ lo).v ρ σ fun l σ => (mean Φ hi).v ρ σ fun h σ => sliceS x l h σ fun v σ => K [v] σ)
  | .list es => ofV fun ρ σ K => (mean Φ es).v ρ σ fun vs σ => Fits vs.length ∧ K [.obj σ.length] (σ ++ [.list vs])
  | .tup es => ofV fun ρ σ K => (mean Φ es).v ρ σ fun vs σ => Fits vs.length ∧ K [.obj σ.length] (σ ++ [.tup vs])
  | .comp elt n iter cond => ofV fun ρ σ K => (mean Φ iter).it ρ σ fun it σ => ∃ k, compS (stepC (mean Φ cond).t (mean Φ elt).v n ρ) k it [] σ fun acc σ => K [.obj σ.length] (σ ++ [.list acc])
  | .range es => ⟨fun _ _ _ => False, fun _ _ _ => False, fun _ _ _ _ => False, fun ρ σ K => (mean Φ es).v ρ σ fun vs σ => iterR vs σ K⟩
  | .call f es => ofV fun ρ σ K => (mean Φ es).v ρ σ fun vs σ => Φ.fn f vs σ fun v σ => K [v] σ
  | .new es => ofV fun ρ σ K => (mean Φ es).v ρ σ fun vs σ => Φ.nw vs σ fun v σ => K [v] σ
  | .bcall f es => ofV fun ρ σ K => (mean Φ es).v ρ σ fun vs σ => bfS f vs σ fun v σ => K [v] σ
  | .bm m o es => ofV fun ρ σ K => (mean Φ o).v ρ σ (one fun x σ => bmT m x σ ∧ (mean Φ es).v ρ σ fun vs σ => bmS m x vs σ fun v σ => K [v] σ)
  | .cm m name o es => ofV fun ρ σ K => (mean Φ o).v ρ σ (one fun x σ => mthS x name σ ∧ (mean Φ es).v ρ σ fun vs σ => Φ.me m x vs σ fun v σ => K [v] σ)
  | .cr name o es => ofV fun ρ σ K => (mean Φ o).v ρ σ (one fun x σ => attS x name σ fun f σ => (match f with
      | .obj q => (mean Φ es).v ρ σ fun vs σ => Φ.rd q vs σ fun v σ => K [v] σ
      | _ => False))
  | .attr a name => ofV fun ρ σ K => (mean Φ a).v ρ σ (one fun x σ => attS x name σ fun v σ => K [v] σ)
  | .isb a => ofV fun ρ σ K => (mean Φ a).v ρ σ (one fun x σ => match x with | .bytes _ => K [.bool true] σ | _ => False)
  | .citer o => ofV fun ρ σ K => (mean Φ o).v ρ σ (one fun x σ => mthS x rcName σ ∧ match x with | .obj d => K [.obj (σ.length + 1)] ((σ ++ [.meth d]) ++ [.citer (some σ.length)]) | _ => False)

theorem one_ok {K : VK} {vs : List V} {σ : Sto} (h : one K vs σ) : ∃ v, vs = [v] ∧ K v σ := by
  cases vs with
  | nil => exact h.elim
  | cons v vs => cases vs with
    | nil => exact ⟨v, rfl, h⟩
    | cons _ _ => exact h.elim
/-! ## statements -/
noncomputable abbrev FK := Fl → Lv → Sto → Prop
noncomputable def setsL : List Nat → List V → Lv → Lv
  | i :: is, v :: vs, ρ => setsL is vs (ρ.set i (some v))
  | _, _, ρ => ρ
/-- the generator of locale: the j-th one it tells -/
noncomputable def genSeq : List Int → Option Int → Nat → Option Int
  | [], _, _ => none
  | x :: l, last, j => if x = 127 then none else if x = 0 then last else match j with
    | 0 => some x
    | j + 1 => genSeq l (some x) j
noncomputable def genL (step : V → Lv → Sto → FK → Prop) (r : Nat) (ns : List Int) (l : List V) : Nat → Nat → Lv → Sto → FK → Prop
  | 0, _, _, _, _ => False
  | n + 1, j, ρ, σ, K => σ[r]? = some (.list l) ∧ match genSeq ns none j with
    | none => K .next ρ σ
    | some x => step (.int x) ρ σ (flK (fun ρ' σ' => genL step r ns l n (j + 1) ρ' σ' K) K)
/-- a walk over a callable iterator: the calls of the method, till one gives the empty text -/
noncomputable def citZ (step : V → Lv → Sto → FK → Prop) (again : Lv → Sto → Prop) (q m d : Nat) (ρ : Lv) (K : FK) : VK := fun v σ => tStr v fun l =>
  σ[q]? = some (.citer (some m)) ∧ σ[m]? = some (.meth d) ∧ (l = [] → K .next ρ (σ.set q (.citer none))) ∧ (l ≠ [] → step (.str l) ρ σ (flK again K))
noncomputable def citM (me : V → List V → Sto → VK → Prop) (step : V → Lv → Sto → FK → Prop) (again : Lv → Sto → Prop) (q m : Nat) (ρ : Lv) (σ : Sto) (K : FK) : Prop := match σ[m]? with
  | some (.meth d) => me (.obj d) [] σ (citZ step again q m d ρ K)
  | _ => False
noncomputable def citT (me : V → List V → Sto → VK → Prop) (step : V → Lv → Sto → FK → Prop) (again : Lv → Sto → Prop) (q : Nat) (ρ : Lv) (σ : Sto) (K : FK) : Prop := match σ[q]? with
  | some (.citer none) => K .next ρ σ
  | some (.citer (some m)) => citM me step again q m ρ σ K
  | _ => False
noncomputable def citS (me : V → List V → Sto → VK → Prop) (step : V → Lv → Sto → FK → Prop) : Nat → Nat → Lv → Sto → FK → Prop
  | 0, _, _, _, _ => False
  | n + 1, q, ρ, σ, K => citT me step (fun ρ' σ' => citS me step n q ρ' σ' K) q ρ σ K
theorem citM_ok {me : V → List V → Sto → VK → Prop} {step : V → Lv → Sto → FK → Prop} {again : Lv → Sto → Prop} {q m : Nat} {ρ : Lv} {σ : Sto} {K : FK} (h : citM me step again q m ρ σ K) : ∃ d, σ[m]? = some (.meth d) ∧ me (.obj d) [] σ (citZ step again q m d ρ K) := by
  have h : (match σ[m]? with
    | some (.meth d) => me (.obj d) [] σ (citZ step again q m d ρ K)
    | _ => False) := h
  generalize σ[m]? = o at h
  cases o with
  | none => exact h.elim
  | some o => cases o <;> first | exact ⟨_, rfl, h⟩ | exact h.elim
theorem cit_cases {me : V → List V → Sto → VK → Prop} {step : V → Lv → Sto → FK → Prop} {again : Lv → Sto → Prop} {q : Nat} {ρ : Lv} {σ : Sto} {K : FK} (h : citT me step again q ρ σ K) : (σ[q]? = some (.citer none) ∧ K .next ρ σ) ∨ ∃ m, σ[q]? = some (.citer (some m)) ∧ citM me step again q m ρ σ K := by
  have h : (match σ[q]? with
    | some (.citer none) => K .next ρ σ
    | some (.citer (some m)) => citM me step again q m ρ σ K
    | _ => False) := h
  generalize σ[q]? = o at h
  cases o with
  | none => exact h.elim
  | some o => cases o with
    | citer m => cases m with
      | none => exact .inl ⟨rfl, h⟩
      | some m => exact .inr ⟨m, rfl, h⟩
    | _ => exact h.elim
theorem cit_run {me : V → List V → Sto → VK → Prop} {step : V → Lv → Sto → FK → Prop} {n q m d : Nat} {ρ : Lv} {σ : Sto} {K : FK} (h1 : σ[q]? = some (.citer (some m))) (h2 : σ[m]? = some (.meth d))
    (h : me (.obj d) [] σ (citZ step (fun ρ' σ' => citS me step n q ρ' σ' K) q m d ρ K)) : citS me step (n + 1) q ρ σ K := by
  show (match σ[q]? with
    | some (.citer none) => _
    | some (.citer (some m)) => _
    | _ => _)
  rw [h1]
  show (match σ[m]? with
    | some (.meth d) => _
    | _ => _)
  rw [h2]; exact h
noncomputable def wS (Φ : Con) : S → Lv → Sto → FK → Prop
  | .nil, ρ, σ, K => K .next ρ σ
  | .cons a b, ρ, σ, K => wS Φ a ρ σ fun f ρ σ => match f with
    | .next => wS Φ b ρ σ K
    | f => K f ρ σ
  | .asg i e, ρ, σ, K => (mean Φ e).v ρ σ (one fun v σ => K .next (ρ.set i (some v)) σ)
  | .asgT is e, ρ, σ, K => (mean Φ e).v ρ σ (one fun v σ => bindV is.length v σ fun xs σ => K .next (setsL is xs ρ) σ)
  | .asgA o name e, ρ, σ, K => (mean Φ e).v ρ σ (one fun v σ => (mean Φ o).v ρ σ (one fun a σ => attP a name v σ fun σ => K .next ρ σ))
  | .aug i op e, ρ, σ, K => (match ρ[i]? with
    | some (some x) => (mean Φ e).v ρ σ (one fun y σ => augS op x y σ fun v σ => K .next (ρ.set i (some v)) σ)
    | _ => False)
  | .augI o i op e, ρ, σ, K => (mean Φ o).v ρ σ (one fun a σ => (mean Φ i).v ρ σ (one fun j σ => idxS a j σ fun x σ => (mean Φ e).v ρ σ (one fun y σ => augS op x y σ fun v σ => putS a j v σ fun σ => K .next ρ σ)))
  | .augA o name op e, ρ, σ, K => (mean Φ o).v ρ σ (one fun a σ => attS a name σ fun x σ => (mean Φ e).v ρ σ (one fun y σ => augS op x y σ fun v σ => attP a name v σ fun σ => K .next ρ σ))
  | .expr e, ρ, σ, K => (mean Φ e).v ρ σ (one fun _ σ => K .next ρ σ)
  | .ret e, ρ, σ, K => (mean Φ e).v ρ σ (one fun v σ => K (.ret v) ρ σ)
  | .retN, ρ, σ, K => K (.ret .none) ρ σ
  | .ife t a b, ρ, σ, K => (mean Φ t).t ρ σ fun c σ => (c = true → wS Φ a ρ σ K) ∧ (c = false → wS Φ b ρ σ K)
  | .for_ is iter b, ρ, σ, K => (mean Φ iter).it ρ σ fun it σ => ∃ n, loopS (fun v ρ σ K => bindV is.length v σ fun xs σ => wS Φ b (setsL is xs ρ) σ K) n it ρ σ K
  | .forG i g b, ρ, σ, K => (mean Φ g).v ρ σ (one fun v σ => match v with
    | .obj r => ∃ l ns, σ[r]? = some (.list l) ∧ intsV l = some ns ∧ ns.head? ≠ some 0 ∧ ∃ n, genL (fun v ρ σ K => wS Φ b (ρ.set i (some v)) σ K) r ns l n 0 ρ σ K
    | _ => False)
  | .forC i c b, ρ, σ, K => (mean Φ c).v ρ σ (one fun v σ => match v with
    | .obj q => ∃ n, citS (Φ.me 0) (fun v ρ σ K => wS Φ b (ρ.set i (some v)) σ K) n q ρ σ K
    | _ => False)
  | .while_ t b, ρ, σ, K => ∃ n, whileS (fun ρ σ K => (mean Φ t).t ρ σ K) (fun ρ σ K => wS Φ b ρ σ K) n ρ σ K
  | .brk, ρ, σ, K => K .brk ρ σ
  | .cont, ρ, σ, K => K .cont ρ σ
end MI.Internal
end

section
set_option Elab.async false
set_option linter.all false
set_option maxRecDepth 10000
namespace MI.Internal
open PySem PySem.W PySem.Calls

/-! ## the ground -/
structure Gr (B : Base) (mg mb : Str → Option Value) (K : Frag) : Prop where
  tb3 : B.tb ≠ mainGlobals ∧ B.tb ≠ builtinsNs ∧ B.tb ≠ cStatics
  ng : B.h₀.Ns mainGlobals mg
  nb : B.h₀.Ns builtinsNs mb
  lim : B.h₀.NoLimit
  kin : K.In B.h₀
  klo : ∀ a o, K.lookup a = some o → a ≠ B.tb
section
variable {B : Base} {mg mb : Str → Option Value} {K : Frag} {α : Nat → Addr} {σ : Sto} {s : Shared}
theorem SInv.ns (G : Gr B mg mb K) (I : SInv B α σ s) {a : Addr} {m : Str → Option Value} (h2 : B.tb ≠ a) (h : B.h₀.Ns a m) : s.heap.Ns a m := by
  obtain ⟨o, es, ep, ho, r⟩ := h
  exact ⟨o, es, ep, I.base a o (Ne.symm h2) ho, r⟩
theorem SInv.nsG (G : Gr B mg mb K) (I : SInv B α σ s) : s.heap.Ns mainGlobals mg := I.ns G G.tb3.1 G.ng
theorem SInv.nsB (G : Gr B mg mb K) (I : SInv B α σ s) : s.heap.Ns builtinsNs mb := I.ns G G.tb3.2.1 G.nb
theorem SInv.lim (G : Gr B mg mb K) (I : SInv B α σ s) : s.heap.NoLimit := by
  obtain ⟨mc, a, b⟩ := G.lim
  exact ⟨mc, I.ns G G.tb3.2.2 a, b⟩
theorem SInv.kin (G : Gr B mg mb K) (I : SInv B α σ s) : K.In s.heap := fun a o e => by
  exact I.base a o (G.klo a o e) (G.kin a o e)
end

structure AOk (A : Around) (n : Nat) : Prop where
  h : A.handled = none
  d : A.depth + n ≤ 600
  u : A.units + 10 * n ≤ 5000
theorem AOk.room {A : Around} {n : Nat} (h : AOk A n) : A.depth < recursionLimit := by have := h.d; show A.depth < 1000; lia
theorem AOk.units {A : Around} {n : Nat} (h : AOk A n) {k : Nat} (hk : k ≤ 4000) : A.units + k < cLine := by have := h.u; show A.units + k < 9900; lia
theorem AOk.in1 {A : Around} {n : Nat} (h : AOk A (n + 1)) : AOk A.in1 n := ⟨h.h, by have := h.d; show A.depth + n ≤ 600; lia, by have := h.u; show A.units + 1 + 10 * n ≤ 5000; lia⟩
theorem AOk.deeper {A : Around} {n : Nat} (h : AOk A (n + 1)) {env : Env} : AOk (A.deeper env) n := ⟨h.h, by have := h.d; show A.depth + 1 + n ≤ 600; lia, by have := h.u; show A.units + 3 + 10 * n ≤ 5000; lia⟩
theorem AOk.less {A : Around} {n m : Nat} (h : AOk A n) (hm : m ≤ n) : AOk A m := ⟨h.h, by have := h.d; lia, by have := h.u; lia⟩

/-! ## names -/
structure Fm where
  names : List Str
  sc : Scope
  st : List Str
noncomputable def Fm.kind (Γ : Fm) (x : Str) : Option NameKind := Γ.sc.names.lookup x
noncomputable def Fm.uniq (Γ : Fm) (i : Nat) (x : Str) : Bool := (List.range Γ.names.length).all fun j => j == i || Γ.names[j]? != some x
noncomputable def isCell (k : Option NameKind) : Prop := k = some .cell ∨ k = some .free

structure EnvOk (B : Base) (Γ : Fm) (ρ : Lv) (α : Nat → Addr) (n : Nat) (env : Env) (h : Heap) : Prop where
  sc : env.scope = Γ.sc
  fn : Γ.sc.kind = .function
  glob : env.globals = mainGlobals
  blt : env.builtins = builtinsNs
  len : ρ.length = Γ.names.length
  loc : ∃ m, h.Ns env.locals m ∧ ∀ (i : Nat) (x : Str), Γ.names[i]? = some x → Γ.kind x = some .local → ∀ v : V, ρ[i]? = some (some v) → ∃ c, m x = some c ∧ VR α n v c
  cell : ∀ (i : Nat) (x : Str), Γ.names[i]? = some x → isCell (Γ.kind x) → ∃ c v₀, env.cells.lookup x = some c ∧ h.IsCell c v₀ ∧ ∀ v : V, ρ[i]? = some (some v) → ∃ cv, v₀ = some cv ∧ VR α n v cv
  locT : B.h₀.get? env.locals = none
  locO : ∀ r : Nat, r < n → α r ≠ env.locals
  cellT : ∀ (i : Nat) (x : Str) (c : Addr), Γ.names[i]? = some x → isCell (Γ.kind x) → env.cells.lookup x = some c → B.h₀.get? c = none ∧ (∀ r : Nat, r < n → α r ≠ c) ∧ c ≠ env.locals
  apart : ∀ (x y : Str) (c : Addr), env.cells.lookup x = some c → env.cells.lookup y = some c → x = y

/-- what a statement of the block may turn beside the store -/
noncomputable def ownOf (Γ : Fm) (env : Env) : Addr → Prop := fun b => b = env.locals ∨ ∃ (i : Nat) (x : Str), Γ.names[i]? = some x ∧ x ∈ Γ.st ∧ Γ.kind x = some .cell ∧ env.cells.lookup x = some b
noncomputable def OffEnv (Γ : Fm) (env : Env) (b : Addr) : Prop := b ≠ env.locals ∧ ∀ (i : Nat) (x : Str) (c : Addr), Γ.names[i]? = some x → isCell (Γ.kind x) → env.cells.lookup x = some c → b ≠ c
theorem OffEnv.own {Γ : Fm} {env : Env} {b : Addr} (h : OffEnv Γ env b) : ¬ ownOf Γ env b := fun q => by
  rcases q with q | ⟨i, x, h1, _, h2, h3⟩
  · exact h.1 q
  · exact h.2 i x b h1 (.inl h2) h3 rfl

section
variable {B : Base} {mg mb : Str → Option Value} {K : Frag} {Γ : Fm} {ρ : Lv} {α α' : Nat → Addr} {σ σ' : Sto} {s s' : Shared} {env : Env}


theorem EnvOk.extOwn {own : Addr → Prop} (I : SInv B α σ s) (h : EnvOk B Γ ρ α σ.length env s.heap) (x : Ext B own α σ s α' σ' s') (ho : ∀ b, own b → OffEnv Γ env b) : EnvOk B Γ ρ α' σ'.length env s'.heap := by
  have off : ∀ b o, s.heap.get? b = some o → (∀ r, r < σ.length → α r ≠ b) → ¬ own b → ∀ r, r < σ'.length → α' r ≠ b := fun b o hb hr hn => x.off I hb hr hn
  obtain ⟨lo, hlo⟩ : ∃ o, s.heap.get? env.locals = some o := let ⟨_, ⟨o, _, _, ho, _⟩, _⟩ := h.loc; ⟨o, ho⟩
  have nL : ¬ own env.locals := fun q => (ho _ q).1 rfl
  have nC : ∀ (i : Nat) (y : Str) c, Γ.names[i]? = some y → isCell (Γ.kind y) → env.cells.lookup y = some c → ¬ own c := fun i y c h1 h2 e q => (ho _ q).2 i y c h1 h2 e rfl
  refine ⟨h.sc, h.fn, h.glob, h.blt, h.len, ?_, ?_, h.locT, off _ _ hlo h.locO nL, ?_, h.apart⟩
  · obtain ⟨m, ⟨o, es, ep, ho, r⟩, q⟩ := h.loc
    refine ⟨m, ⟨o, es, ep, x.keep _ o ho h.locO nL (I.ntb h.locT), r⟩, fun i y h1 h2 v h3 => ?_⟩
    obtain ⟨c, a, b⟩ := q i y h1 h2 v h3
    exact ⟨c, a, b.ext x⟩
  · intro i y h1 h2
    obtain ⟨c, v₀, a, ⟨o, ho, hd⟩, q⟩ := h.cell i y h1 h2
    obtain ⟨t1, t2, _⟩ := h.cellT i y c h1 h2 a
    refine ⟨c, v₀, a, ⟨o, x.keep _ o ho t2 (nC i y c h1 h2 a) (I.ntb t1), hd⟩, fun v h3 => ?_⟩
    obtain ⟨cv, e, z⟩ := q v h3
    exact ⟨cv, e, z.ext x⟩
  · intro i y c h1 h2 h3
    obtain ⟨c', v₀, a, ⟨o, ho, hd⟩, q⟩ := h.cell i y h1 h2
    obtain ⟨t1, t2, t3⟩ := h.cellT i y c h1 h2 h3
    have : c' = c := Option.some.inj (a.symm.trans h3)
    subst this
    exact ⟨t1, off _ _ ho t2 (nC i y c' h1 h2 a), t3⟩
theorem EnvOk.ext (I : SInv B α σ s) (h : EnvOk B Γ ρ α σ.length env s.heap) (x : Ext B noOwn α σ s α' σ' s') : EnvOk B Γ ρ α' σ'.length env s'.heap := h.extOwn I x fun _ q => q.elim

theorem kindOf_eq (h : EnvOk B Γ ρ α σ.length env s.heap) (x : Str) : env.kindOf x = Γ.kind x := by unfold Env.kindOf Fm.kind; rw [h.sc]

/-- a name is read -/
theorem name_ok (h : EnvOk B Γ ρ α σ.length env s.heap) {A : Around} {i : Nat} {x : Str} {pos : Pos} {v : V} {Q : Value → Shared → Prop} (hx : Γ.names[i]? = some x) (hk : Γ.kind x = some .local ∨ isCell (Γ.kind x)) (hv : ρ[i]? = some (some v))
    (hd : (x == ("__debug__" : Str)) = false) (hcd : (x == ("__classdict__" : Str)) = false) (k : ∀ c, VR α σ.length v c → Q c s) : W B A (eval (.Name x pos) env) s Q := by
  have kf : env.scope.kind = .function := by rw [h.sc]; exact h.fn
  refine wpAny_Name ?_ hd
  rcases hk with hk | hk | hk
  · obtain ⟨m, hn, q⟩ := h.loc
    obtain ⟨c, e, z⟩ := q i x hx hk v hv
    exact wpAny_loadName_local kf ((kindOf_eq h x).trans hk) hn e (k c z)
  · obtain ⟨c, v₀, a, b, q⟩ := h.cell i x hx (.inl hk)
    obtain ⟨cv, e, z⟩ := q v hv
    subst e
    exact wpAny_loadName_cell kf ((kindOf_eq h x).trans hk) a b (k cv z)
  · obtain ⟨c, v₀, a, b, q⟩ := h.cell i x hx (.inr hk)
    obtain ⟨cv, e, z⟩ := q v hv
    subst e
    exact wpAny_loadName_free kf ((kindOf_eq h x).trans hk) a b (k cv z) hcd
/-- a name of the top's is read -/
theorem glob_ok (G : Gr B mg mb K) (I : SInv B α σ s) (h : EnvOk B Γ ρ α σ.length env s.heap) {A : Around} {x : Str} {pos : Pos} {v : Value} {Q : Value → Shared → Prop} (hk : Γ.kind x = some .globalImplicit) (hv : mg x = some v)
    (hd : (x == ("__debug__" : Str)) = false) (k : Q v s) : W B A (eval (.Name x pos) env) s Q :=
  Name_function_global (by rw [h.sc]; exact h.fn) ((kindOf_eq h x).trans hk) (loadGlobal_global (by rw [h.glob]; exact I.nsG G) hv k) hd
theorem bltn_ok (G : Gr B mg mb K) (I : SInv B α σ s) (h : EnvOk B Γ ρ α σ.length env s.heap) {A : Around} {x : Str} {pos : Pos} {v : Value} {Q : Value → Shared → Prop} (hk : Γ.kind x = some .globalImplicit) (hn : mg x = none) (hv : mb x = some v)
    (hd : (x == ("__debug__" : Str)) = false) (k : Q v s) : W B A (eval (.Name x pos) env) s Q :=
  Name_function_global (by rw [h.sc]; exact h.fn) ((kindOf_eq h x).trans hk) (loadGlobal_builtin (by rw [h.glob]; exact I.nsG G) hn (by rw [h.blt]; exact I.nsB G) hv k) hd

theorem uniq_ne {i j : Nat} {x y : Str} (hu : Γ.uniq i x = true) (hij : j ≠ i) (hy : Γ.names[j]? = some y) : y ≠ x := by
  have hl : j < Γ.names.length := (List.getElem?_eq_some_iff.mp hy).1
  have := List.all_eq_true.mp hu j (List.mem_range.mpr hl)
  rcases Bool.or_eq_true_iff.mp this with q | q
  · exact absurd (by simpa using q) hij
  · rintro rfl
    rw [hy] at q
    simp at q

/-- a name is stored -/
theorem store_ok (G : Gr B mg mb K) (I : SInv B α σ s) (h : EnvOk B Γ ρ α σ.length env s.heap) {A : Around} {i : Nat} {x : Str} {v : V} {c : Value} {Q : Unit → Shared → Prop} (hx : Γ.names[i]? = some x) (hk : Γ.kind x = some .local ∨ Γ.kind x = some .cell)
    (hu : Γ.uniq i x = true) (hst : x ∈ Γ.st) (hv : VR α σ.length v c)
    (k : ∀ s', SInv B α σ s' → EnvOk B Γ (ρ.set i (some v)) α σ.length env s'.heap → Ext B (ownOf Γ env) α σ s α σ s' → Q () s') : W B A (storeName env x c) s Q := by
  have kf : env.scope.kind = .function := by rw [h.sc]; exact h.fn
  have il : i < ρ.length := by rw [h.len]; exact (List.getElem?_eq_some_iff.mp hx).1
  have hval : ∀ j y w, Γ.names[j]? = some y → (ρ.set i (some v))[j]? = some (some w) → (j = i ∧ w = v) ∨ (j ≠ i ∧ y ≠ x ∧ ρ[j]? = some (some w)) := fun j y w hy hw => by
    by_cases q : j = i
    · subst q
      rw [List.getElem?_set_self il] at hw
      simp at hw
      exact .inl ⟨rfl, hw.symm⟩
    · rw [List.getElem?_set_ne (Ne.symm q)] at hw
      exact .inr ⟨q, uniq_ne hu q hy, hw⟩
  -- what is common: the turned address lies off the store and off the top
  have common : ∀ (a : Addr) (h' : Heap) (tk : Nat) (o' : Obj), h'.get? a = some o' → B.h₀.get? a = none → (∀ r, r < σ.length → α r ≠ a) → ownOf Γ env a → Heap.SameBut a s.heap h' →
      SInv B α σ { s with heap := h', toks := tk } ∧ Ext B (ownOf Γ env) α σ s α σ { s with heap := h', toks := tk } := fun a h' tk o' ho' t1 t2 t3 hs => by
    refine ⟨⟨I.inj, I.top, fun r y e => ?_, fun b o h2 h3 => ?_, ?_, I.bare, I.os⟩, ⟨fun _ _ => rfl, Nat.le_refl _, fun _ a b => absurd b (Nat.not_lt.mpr a), fun b o e h1 h2 h3 => ?_, fun b o e _ => ?_, Nat.le_refl _, fun _ _ => rfl⟩⟩
    · obtain ⟨o, e', z⟩ := I.objs r y e
      exact ⟨o, (hs.2 _ (t2 r (I.get e))).trans e', z⟩
    · exact (hs.2 b (fun e : b = a => by rw [e, t1] at h3; cases h3)).trans (I.base b o h2 h3)
    · exact I.tab.keep fun o e => (hs.2 _ (fun e' : B.tb = a => by have := I.tab.1; rw [e', t1] at this; cases this)).trans e
    · exact (hs.2 b (fun e => h2 (e ▸ t3))).trans e
    · by_cases q : b = a
      · exact ⟨o', q ▸ ho'⟩
      · exact ⟨o, (hs.2 b q).trans e⟩
  rcases hk with hk | hk
  · obtain ⟨m, hn, q⟩ := h.loc
    refine wpAny_storeName_local ((kindOf_eq h x).trans hk) hn (fun h' hn' hs => ?_) (by rw [kf]; rfl)
    obtain ⟨o', ho'⟩ : ∃ o', h'.get? env.locals = some o' := let ⟨o, _, _, ho, _⟩ := hn'; ⟨o, ho⟩
    obtain ⟨J, X⟩ := common env.locals h' (s.toks + 1) o' ho' h.locT h.locO (.inl rfl) hs
    refine k _ J ⟨h.sc, h.fn, h.glob, h.blt, by rw [List.length_set]; exact h.len, ⟨_, hn', fun j y h1 h2 w h3 => ?_⟩, fun j y h1 h2 => ?_, h.locT, h.locO, h.cellT, h.apart⟩ X
    · rcases hval j y w h1 h3 with ⟨e1, e2⟩ | ⟨e1, e2, e3⟩
      · subst e1 e2
        have : y = x := Option.some.inj (h1.symm.trans hx)
        subst this
        exact ⟨c, if_pos rfl, hv⟩
      · obtain ⟨c', a, b⟩ := q j y h1 h2 w e3
        exact ⟨c', by rw [if_neg e2]; exact a, b⟩
    · obtain ⟨c', v₀, a, b, z⟩ := h.cell j y h1 h2
      obtain ⟨_, _, t3⟩ := h.cellT j y c' h1 h2 a
      refine ⟨c', v₀, a, b.sameBut hs t3, fun w hw => ?_⟩
      rcases hval j y w h1 hw with ⟨e1, e2⟩ | ⟨e1, e2, e3⟩
      · subst e1
        have : y = x := Option.some.inj (h1.symm.trans hx)
        subst this
        rcases h2 with h2 | h2 <;> rw [hk] at h2 <;> cases h2
      · exact z w e3
  · obtain ⟨c', v₀, a, b, z⟩ := h.cell i x hx (.inl hk)
    obtain ⟨t1, t2, t3⟩ := h.cellT i x c' hx (.inl hk) a
    refine wpAny_storeName_cell kf ((kindOf_eq h x).trans hk) a b (fun h' hc hs => ?_)
    obtain ⟨o', ho', _⟩ := id hc
    obtain ⟨J, X⟩ := common c' h' s.toks o' ho' t1 t2 (.inr ⟨i, x, hx, hst, hk, a⟩) hs
    obtain ⟨m, hn, q⟩ := h.loc
    refine k _ J ⟨h.sc, h.fn, h.glob, h.blt, by rw [List.length_set]; exact h.len, ⟨m, hn.sameBut hs (Ne.symm t3), fun j y h1 h2 w h3 => ?_⟩, fun j y h1 h2 => ?_, h.locT, h.locO, h.cellT, h.apart⟩ X
    · rcases hval j y w h1 h3 with ⟨e1, e2⟩ | ⟨e1, e2, e3⟩
      · subst e1
        have : y = x := Option.some.inj (h1.symm.trans hx)
        subst this
        rw [hk] at h2; cases h2
      · exact q j y h1 h2 w e3
    · obtain ⟨c₂, v₂, a₂, b₂, z₂⟩ := h.cell j y h1 h2
      by_cases e : y = x
      · subst e
        have : c₂ = c' := Option.some.inj (a₂.symm.trans a)
        subst this
        refine ⟨c₂, some c, a, hc, fun w hw => ?_⟩
        rcases hval j y w h1 hw with ⟨e1, e2⟩ | ⟨e1, e2, e3⟩
        · subst e2; exact ⟨c, rfl, hv⟩
        · exact absurd rfl e2
      · have ne : c₂ ≠ c' := fun q => e (h.apart y x c' (q ▸ a₂) a)
        refine ⟨c₂, v₂, a₂, b₂.sameBut hs ne, fun w hw => ?_⟩
        rcases hval j y w h1 hw with ⟨e1, e2⟩ | ⟨e1, e2, e3⟩
        · subst e1; exact absurd (Option.some.inj (h1.symm.trans hx)) e
        · exact z₂ w e3
end
end MI.Internal
end

section
set_option Elab.async false
set_option linter.all false
set_option maxRecDepth 10000
namespace MI.Internal
open PySem PySem.W PySem.Calls

section
variable {B : Base} {own : Addr → Prop} {α : Nat → Addr} {σ : Sto} {s : Shared} {A : Around} {K : VK}

theorem one_k {K : VK} {v : V} {σ : Sto} (h : K v σ) : one K [v] σ := h

theorem Fits.line {n : Nat} (h : Fits n) : n ≤ sizeLine := by unfold Fits at h; show n ≤ 16777216; lia
theorem Sm.log {a : Int} (h : Sm a) : a.natAbs.log2 < 400 := by
  unfold Sm at h
  by_cases h0 : a.natAbs = 0
  · rw [h0]; decide
  · rw [Nat.log2_lt h0]
    have : (a.natAbs : Int) < ((2 ^ 400 : Nat) : Int) := by
      rw [Int.natCast_pow]
      have e : ((2 : Nat) : Int) = 2 := rfl
      rw [e]
      lia
    exact Int.ofNat_lt.mp this
theorem Sm.bits {a : Int} (h : Sm a) : Builtin.Int.intBits a ≤ 400 := by
  have := h.log
  unfold Builtin.Int.intBits
  split <;> lia
theorem Sm.pylong {a b : Int} (h : Sm b) : Builtin.divisionGoesByPylong a b = false := PyProof.noPylong_of_log2 (by have := h.log; lia)
theorem Sm.mul {a b : Int} (h : Sm a) (h' : Sm b) : IntMulOk a b := by
  have h1 := h.bits
  have h2 := h'.bits
  unfold IntMulOk Builtin.Int.intTooBig
  have : ¬ ((Builtin.Int.intBits a : Int) + Builtin.Int.intBits b > bitsLine) := by show ¬ (_ > (134217728 : Int)); lia
  simp [this]
theorem strAdd (a b : List Nat) : (⟨a.toArray⟩ ++ ⟨b.toArray⟩ : Str) = ⟨(a ++ b).toArray⟩ := by
  show Str.append _ _ = _
  simp [Str.append]
theorem strLen (a : List Nat) : Str.length ⟨a.toArray⟩ = a.length := by simp [Str.length]
theorem listAt (I : SInv B α σ s) {r : Nat} {l : List V} {c : Value} (hr : σ[r]? = some (.list l)) (hc : VR α σ.length (.obj r) c) :
    Ex2 fun cs n => A3 (c = .ref (α r)) (VRs α σ.length l cs) (IsL s.heap (α r) cs.toArray n) := by
  obtain ⟨o, e, cs, ep, h1, h2⟩ := I.objs r _ hr
  subst h2
  exact ⟨cs, ep, hc.2, h1, e⟩
theorem frzAt (I : SInv B α σ s) {r : Nat} {l : List V} {c : Value} (hr : σ[r]? = some (.frz l)) (hc : VR α σ.length (.obj r) c) :
    Ex2 fun cs n => A3 (c = .ref (α r)) (VRs α σ.length l cs) (IsL s.heap (α r) cs.toArray n) := by
  obtain ⟨o, e, h0, cs, ep, h1, h2⟩ := I.objs r _ hr
  rw [h2] at e
  exact ⟨cs, ep, hc.2, h1, e⟩
theorem newO (I : SInv B α σ s) {x : O} {o : Obj} {K : VK} {tk : Nat} (hx : OR B α σ.length x o) (hf : o.isFreed = false) (k : K (.obj σ.length) (σ ++ [x])) :
    Out B own α σ s (one K) [.ref s.heap.objs.size] { s with heap := s.heap.push o, toks := tk } :=
  Out.alloc I k (fun b o e => Heap.get?_push_of_some _ e) (none_at _) (Heap.get?_push_size _ hf) (hx.mono (Nat.le_succ _) fun r hr => put_lt hr)
theorem newL (I : SInv B α σ s) {vs : List V} {cs : List Value} {K : VK} {tk : Nat} (hv : VRs α σ.length vs cs) (k : K (.obj σ.length) (σ ++ [.list vs])) :
    Out B own α σ s (one K) [.ref s.heap.objs.size] { s with heap := s.heap.push { cls := .type "list", data := .seq cs.toArray }, toks := tk } :=
  newO I (x := .list vs) ⟨cs, 0, hv, rfl⟩ rfl k
theorem newT (I : SInv B α σ s) {vs : List V} {cs : List Value} {K : VK} {tk : Nat} (hv : VRs α σ.length vs cs) (k : K (.obj σ.length) (σ ++ [.tup vs])) :
    Out B own α σ s (one K) [.ref s.heap.objs.size] { s with heap := s.heap.push { cls := .type "tuple", data := .seq cs.toArray }, toks := tk } :=
  newO I (x := .tup vs) ⟨cs, 0, hv, rfl⟩ rfl k
theorem VRs.repl {n k : Nat} {vs : List V} {cs : List Value} (h : VRs α n vs cs) : VRs α n (List.replicate k vs).flatten (List.replicate k cs).flatten := by
  induction k with
  | zero => trivial
  | succ k ih => simpa [List.replicate_succ] using h.append ih

theorem foldl_app {β : Type} (a : List β) (x : Array β) : ∀ n : Nat, (List.replicate n a.toArray).foldl (· ++ ·) x = x ++ (List.replicate n a).flatten.toArray
  | 0 => by simp
  | n + 1 => by
    rw [List.replicate_succ, List.foldl_cons, foldl_app a _ n, List.replicate_succ, List.flatten_cons]
    apply Array.ext'
    simp

theorem int_view {n : Nat} {v : V} {c : Value} {f : Int → Prop} (hv : VR α n v c) (h : tInt v f) : Ex2 fun i t => c = .int i t ∧ f i := by
  obtain ⟨i, rfl, h⟩ := tInt_ok h
  obtain ⟨t, rfl⟩ := hv
  exact ⟨i, t, rfl, h⟩
theorem str_view {n : Nat} {v : V} {c : Value} {f : List Nat → Prop} (hv : VR α n v c) (h : tStr v f) : Ex2 fun i t => c = .str ⟨i.toArray⟩ t ∧ f i := by
  obtain ⟨i, rfl, h⟩ := tStr_ok h
  obtain ⟨t, rfl⟩ := hv
  exact ⟨i, t, rfl, h⟩
theorem byt_view {n : Nat} {v : V} {c : Value} {f : List UInt8 → Prop} (hv : VR α n v c) (h : tByt v f) : Ex2 fun i t => c = .bytes i.toArray t ∧ f i := by
  obtain ⟨i, rfl, h⟩ := tByt_ok h
  obtain ⟨t, rfl⟩ := hv
  exact ⟨i, t, rfl, h⟩
theorem boo_view {n : Nat} {v : V} {c : Value} {f : Bool → Prop} (hv : VR α n v c) (h : tBoo v f) : ∃ i, c = .bool i ∧ f i := by
  obtain ⟨i, rfl, h⟩ := tBoo_ok h
  exact ⟨i, hv, h⟩
theorem one_view {n : Nat} {vs : List V} {cs : List Value} {f : V → Prop} (hv : VRs α n vs cs) (h : a1 vs f) : Ex2 fun v c => A3 (cs = [c]) (VR α n v c) (f v) := by
  obtain ⟨v, rfl, h⟩ := a1_ok h
  obtain ⟨c, rfl, hc⟩ := hv.one
  exact ⟨v, c, rfl, hc, h⟩
theorem lst_view (I : SInv B α σ s) {r : Nat} {c : Value} {f : List V → Prop} (hc : VR α σ.length (.obj r) c) (h : oLst σ[r]? f) : Ex3 fun l cs n => A5 (σ[r]? = some (.list l)) (c = .ref (α r)) (VRs α σ.length l cs) (IsL s.heap (α r) cs.toArray n) (f l) := by
  obtain ⟨l, e, h⟩ := oLst_ok h
  obtain ⟨cs, n, a, b, c⟩ := listAt I e hc
  exact ⟨l, cs, n, e, a, b, c, h⟩
theorem addS_ok {a b : V} {ca cb : Value} (I : SInv B α σ s) (ha : VR α σ.length a ca) (hb : VR α σ.length b cb) (h : addS a b σ K) :
    W B A (binaryOp .Add ca cb) s fun c s' => Out B own α σ s (one K) [c] s' := by
  cases a with
  | none => exact h.elim
  | bool _ => exact h.elim
  | int a =>
    obtain ⟨t, rfl⟩ := ha
    obtain ⟨b, u, rfl, h⟩ := int_view hb h
    exact P.add_int (Out.tok I (one_k h) ⟨_, rfl⟩)
  | str a =>
    obtain ⟨t, rfl⟩ := ha
    obtain ⟨b, u, rfl, h⟩ := str_view hb h
    refine SB.add (fun t' tk => ?_) (by rw [strLen, strLen]; exact h.1.line)
    rw [strAdd]
    exact Out.tok I (one_k h.2) ⟨_, rfl⟩
  | bytes a =>
    obtain ⟨t, rfl⟩ := ha
    obtain ⟨b, u, rfl, h⟩ := byt_view hb h
    refine KBy.add_bytes (by have := h.1; unfold Fits at this; simp; lia) (fun t' tk => ?_)
    exact Out.tok I (one_k h.2) ⟨t', by simp⟩
  | obj r =>
    obtain ⟨q, rfl, h⟩ := tObj_ok h
    obtain ⟨l, cs, n, hr, rfl, h1, h2, h⟩ := lst_view I ha h
    obtain ⟨m, ds, n2, hq, rfl, h3, h4, h⟩ := lst_view I hb h
    refine P.add_list h2 h4 ?_ (by have := h.1.line; rw [List.size_toArray, List.size_toArray, h1.length, h3.length]; exact this)
    have := newL (own := own) (tk := s.toks) I (h1.append h3) h.2
    simpa using this
theorem mul_str (a : List Nat) {n : Int} (h : 1 ≤ n) : Txt.mul ⟨a.toArray⟩ n = ⟨(List.replicate n.toNat a).flatten.toArray⟩ := by
  unfold Txt.mul
  rw [if_neg (by lia)]
  split
  · rename_i q
    rw [strLen] at q
    rcases (by simpa using q : n = 1 ∨ a = []) with e | e
    · subst e; simp
    · subst e; simp
  · congr 1
    rw [foldl_app]
    simp
theorem mul_fit {a : Nat} {n : Int} (h1 : 1 ≤ n) (h2 : n < 1000) (h3 : a < 1000) : (a : Int) ≤ ((2 : Int) ^ 63 - 1) / n := by
  have : (2 ^ 63 - 1) / 1000 ≤ ((2 : Int) ^ 63 - 1) / n := by
    rw [Int.le_ediv_iff_mul_le (by lia)]
    lia
  lia
theorem mulS_ok {a b : V} {ca cb : Value} (I : SInv B α σ s) (ha : VR α σ.length a ca) (hb : VR α σ.length b cb) (h : mulS a b σ K) :
    W B A (binaryOp .Mult ca cb) s fun c s' => Out B own α σ s (one K) [c] s' := by
  cases a with
  | none => exact h.elim
  | bool _ => exact h.elim
  | bytes _ => exact h.elim
  | int a =>
    obtain ⟨t, rfl⟩ := ha
    obtain ⟨b, u, rfl, h⟩ := int_view hb h
    exact P.mul_int (Out.tok I (one_k h.2.2) ⟨_, rfl⟩) (h.1.mul h.2.1)
  | str a =>
    obtain ⟨t, rfl⟩ := ha
    obtain ⟨n, u, rfl, h0, h1, h2, h⟩ := int_view hb h
    have hp : a.length * n.toNat ≤ 1000 * 1000 := Nat.mul_le_mul (by lia) (by lia)
    refine SB.mul ⟨?_, fun _ _ => ?_, fun _ _ => ?_⟩ fun t' k => ?_
    · simp; lia
    · rw [strLen]; exact Int.not_lt.mpr (mul_fit h0 h1 h2)
    · rw [strLen]
      simp [Builtin.Str.tooLong, sizeLine]
      lia
    · rw [mul_str a h0]
      exact Out.tok I (one_k h) ⟨_, rfl⟩
  | obj r =>
    obtain ⟨x, u, rfl, h⟩ := int_view hb h
    obtain ⟨l, cs, n, hr, rfl, h1, ho, h2, h3, h4, h⟩ := lst_view I ha h
    have hz : cs.toArray.size * x.toNat ≤ 1000 * 1000 := by rw [List.size_toArray, h1.length]; exact Nat.mul_le_mul (by lia) (by lia)
    refine wpAny_binaryOp_repeat_ref (T := "list") (U := "int") (by decide) ⟨_, ho, rfl⟩ (fun s' => typeIs_int s' x u) noFill_list_mul F.fills_int_mul F.slot_int_rmul repeat_list F.slot_int_index.lookup
      (PySem.call_meets F.slot_int_rmul (typeIs_int s x u) F.entry_int_rmul (F.args_int_rmul_2 _ _) (lm_int_rmul_list_any x u (α r) cs.toArray n none #[])
        ⟨ho, rfl, ⟨_, ho, rfl⟩, PySem.call_meets F.slot_list_mul ⟨_, ho, rfl⟩ F.entry_list_mul (F.args_list_mul_2 _ _)
          (lm_list_mul_any (α r) cs.toArray n none #[] x u (by simp [Builtin.List.listFitsIndex]; lia) (by lia) (by unfold Builtin.List.listTooLong; simp only [decide_eq_true_eq]; show ¬ _ > 16777216; lia))
          ⟨ho, ?_⟩⟩)
    rw [PyProof.Rows.listMul_foldl_if]
    exact newL (tk := s.toks) I h1.repl h
theorem binS_ok {op : Operator} {a b : V} {ca cb : Value} (I : SInv B α σ s) (ha : VR α σ.length a ca) (hb : VR α σ.length b cb) (h : binS op a b σ K) :
    W B A (binaryOp op ca cb) s fun c s' => Out B own α σ s (one K) [c] s' := by
  cases op with
  | Add => exact addS_ok I ha hb h
  | Mult => exact mulS_ok I ha hb h
  | Sub =>
    obtain ⟨a, t, rfl, h⟩ := int_view ha h
    obtain ⟨b, u, rfl, h⟩ := int_view hb h
    exact P.sub_int (Out.tok I (one_k h) ⟨_, rfl⟩)
  | FloorDiv =>
    obtain ⟨a, t, rfl, h⟩ := int_view ha h
    obtain ⟨b, u, rfl, h⟩ := int_view hb h
    refine PyProof.Rows.floordiv_int (by lia) (Out.tok I (one_k h.2.2) ⟨s.toks, ?_⟩) (.inl h.2.1.pylong)
    rw [Int.fdiv_eq_ediv_of_nonneg _ (by lia)]
  | Mod =>
    obtain ⟨a, t, rfl, h⟩ := int_view ha h
    obtain ⟨b, u, rfl, h⟩ := int_view hb h
    refine PyProof.Rows.mod_int' (by lia) (Out.tok I (one_k h.2) ⟨s.toks, ?_⟩)
    rw [Int.fmod_eq_emod_of_nonneg _ (by lia)]
  | Pow =>
    obtain ⟨a, t, rfl, h⟩ := int_view ha h
    obtain ⟨b, u, rfl, h⟩ := int_view hb h
    refine PyProof.Rows.pow_int h.1 ?_ (Out.tok I (one_k h.2.2.2) ⟨_, rfl⟩)
    have h1 := h.2.2.1.bits
    have h2 : (Builtin.Int.intBits a : Int) * b ≤ 400 * 1000 := Int.mul_le_mul (by lia) h.2.1 h.1 (by lia)
    lia
  | BitXor =>
    obtain ⟨a, t, rfl, h⟩ := int_view ha h
    obtain ⟨b, u, rfl, h⟩ := int_view hb h
    exact PyProof.Rows.xor_int (Out.tok I (one_k h) ⟨_, rfl⟩)
  | _ => exact h.elim
theorem augS_ok {op : Operator} {a b : V} {ca cb : Value} (I : SInv B α σ s) (ha : VR α σ.length a ca) (hb : VR α σ.length b cb) (h : augS op a b σ K) :
    W B A (inplaceOp op ca cb) s fun c s' => Out B own α σ s (one K) [c] s' := by
  cases op with
  | Add =>
    cases a with
    | int a =>
      obtain ⟨t, rfl⟩ := ha
      obtain ⟨b, u, rfl, h⟩ := int_view hb h
      exact P.iadd_int (Out.tok I (one_k h) ⟨_, rfl⟩)
    | str a =>
      obtain ⟨t, rfl⟩ := ha
      obtain ⟨b, u, rfl, h⟩ := str_view hb h
      refine SB.iadd (fun t' tk => ?_) (by rw [strLen, strLen]; exact h.1.line)
      rw [strAdd]
      exact Out.tok I (one_k h.2) ⟨_, rfl⟩
    | _ => exact h.elim
  | Sub =>
    obtain ⟨a, t, rfl, h⟩ := int_view ha h
    obtain ⟨b, u, rfl, h⟩ := int_view hb h
    exact P.isub_int (Out.tok I (one_k h) ⟨_, rfl⟩)
  | _ => exact h.elim
end
end MI.Internal
end

section
set_option Elab.async false
set_option linter.all false
set_option maxRecDepth 10000
namespace MI.Internal
open PySem PySem.W PySem.Calls

section
variable {B : Base} {own : Addr → Prop} {α : Nat → Addr} {σ : Sto} {s : Shared} {A : Around}

/-- a truth value's end -/
inductive OutB (B : Base) (own : Addr → Prop) (α : Nat → Addr) (σ : Sto) (s : Shared) (K : Bool → Sto → Prop) (b : Bool) (s' : Shared) : Prop
  | mk (σ' : Sto) (α' : Nat → Addr) (a : K b σ') (c : SInv B α' σ' s') (d : Ext B own α σ s α' σ' s')
theorem OutB.tok {K : Bool → Sto → Prop} {b : Bool} {tk : Nat} (I : SInv B α σ s) (hk : K b σ) : OutB B own α σ s K b { s with toks := tk } := ⟨σ, α, hk, I.tok, .tok⟩
theorem OutB.same {K : Bool → Sto → Prop} {b : Bool} (I : SInv B α σ s) (hk : K b σ) : OutB B own α σ s K b s := ⟨σ, α, hk, I, .refl⟩
theorem Fits.long {n : Nat} (h : Fits n) : (n : Int) < 2 ^ 63 := by unfold Fits at h; lia
theorem VRs.isEmpty {n : Nat} {vs : List V} {cs : List Value} (h : VRs α n vs cs) : cs.toArray.isEmpty = vs.isEmpty := by
  cases vs <;> cases cs <;> simp_all [VRs]

theorem truS_ok {v : V} {c : Value} {K : Bool → Sto → Prop} (I : SInv B α σ s) (hv : VR α σ.length v c) (h : truS v σ K) :
    W B A (truthy c) s fun b s' => OutB B own α σ s K b s' := by
  unfold truS at h
  cases v with
  | none => subst hv; exact PyProof.Rows.truthy_none (OutB.same I h)
  | bool b => subst hv; exact wpAny_truthy_bool (OutB.same I h)
  | int i =>
    obtain ⟨t, rfl⟩ := hv
    refine P.truthy_int (OutB.same I ?_)
    have e : (i != 0) = decide (i ≠ 0) := by by_cases q : i = 0 <;> simp [q]
    rw [e]; exact h
  | str l => exact h.elim
  | bytes l => exact h.elim
  | obj r =>
    simp only at h
    split at h
    · rename_i l hr
      obtain ⟨cs, n, rfl, h1, ho⟩ := listAt I hr hv
      refine wpAny_truthy_list ho.isList (by rw [List.size_toArray, h1.length]; exact h.1.long) ?_
      rw [h1.isEmpty]
      exact OutB.tok I h.2
    · exact h.elim

/-! ### what is compared as data -/
theorem dat_flat {σ : Sto} {n : Nat} {v : V} {d : Dat} (h : datF v = some d) {c : Value} (hv : VR α n v c) (N : List (Addr × Obj)) : DatIn N c d := by
  cases v with
  | none => subst hv; cases h; exact .none
  | int i => obtain ⟨t, rfl⟩ := hv; cases h; exact .int _ _
  | str l => obtain ⟨t, rfl⟩ := hv; cases h; exact .str _ _
  | bool b => cases h
  | bytes b => cases h
  | obj r => cases h
noncomputable def Inn (s : Shared) (N : List (Addr × Obj)) : Prop := ∀ p ∈ N, s.heap.get? p.1 = some p.2
theorem dat_list {f : V → Option Dat} (hf : ∀ v d c, f v = some d → VR α σ.length v c → ∃ N, Inn s N ∧ DatIn N c d) :
    ∀ {l : List V} {ds : List Dat} {cs : List Value}, datL f l = some ds → VRs α σ.length l cs → ∃ N, Inn s N ∧ DatAll N cs ds
  | [], ds, cs, h, hc => by
    cases VRs.nil_inv hc
    have h : some [] = some ds := h
    cases h
    exact ⟨[], fun _ h => (List.not_mem_nil h).elim, .nil⟩
  | v :: l, ds, cs, h, hc => by
    obtain ⟨c, cs', rfl, h1, h2⟩ := hc.cons_inv
    have h : (match f v, datL f l with
      | some d, some ds => some (d :: ds)
      | _, _ => none) = some ds := h
    cases e1 : f v with
    | none => rw [e1] at h; cases h
    | some d =>
      cases e2 : datL f l with
      | none => rw [e1, e2] at h; cases h
      | some ds' =>
      rw [e1, e2] at h
      obtain ⟨N, a, b⟩ := hf _ _ _ e1 h1
      obtain ⟨M, a', b'⟩ := dat_list hf e2 h2
      cases h
      exact ⟨N ++ M, fun p hp => (List.mem_append.mp hp).elim (a p) (a' p), .cons (b.mono fun p hp => List.mem_append_left _ hp) (b'.mono fun p hp => List.mem_append_right _ hp)⟩
theorem dat_in (I : SInv B α σ s) : ∀ (n : Nat) (v : V) (d : Dat) (c : Value), datV σ n v = some d → VR α σ.length v c → ∃ N, Inn s N ∧ DatIn N c d
  | 0, v, d, c, h, hc => ⟨[], fun _ h => (List.not_mem_nil h).elim, dat_flat (σ := σ) h hc _⟩
  | n + 1, v, d, c, h, hc => by
    cases v with
    | obj r =>
      have h : (match σ[r]? with
        | some (.list l) => (datL (datV σ n) l).map .list
        | _ => none) = some d := h
      cases hr : σ[r]? with
      | none => rw [hr] at h; cases h
      | some o =>
      rw [hr] at h
      cases o with
      | list l =>
        obtain ⟨cs, k, rfl, h1, ho⟩ := listAt I hr hc
        obtain ⟨ds, e, rfl⟩ := Option.map_eq_some_iff.mp h
        obtain ⟨N, a, b⟩ := dat_list (dat_in I n) e h1
        refine ⟨(α r, listOf cs.toArray k) :: N, fun p hp => ?_, .list (.head _) (b.mono fun p hp => .tail _ hp)⟩
        rcases List.mem_cons.mp hp with rfl | hp
        · exact ho
        · exact a p hp
      | _ => cases h
    | none => exact ⟨[], fun _ h => (List.not_mem_nil h).elim, dat_flat (σ := σ) (show datF (.none) = some d from h) hc _⟩
    | int i => exact ⟨[], fun _ h => (List.not_mem_nil h).elim, dat_flat (σ := σ) (show datF (.int i) = some d from h) hc _⟩
    | str i => exact ⟨[], fun _ h => (List.not_mem_nil h).elim, dat_flat (σ := σ) (show datF (.str i) = some d from h) hc _⟩
    | bool i => exact ⟨[], fun _ h => (List.not_mem_nil h).elim, dat_flat (σ := σ) (show datF (.bool i) = some d from h) hc _⟩
    | bytes i => exact ⟨[], fun _ h => (List.not_mem_nil h).elim, dat_flat (σ := σ) (show datF (.bytes i) = some d from h) hc _⟩
theorem Inn.news {N : List (Addr × Obj)} (h : Inn s N) : PyProof.Rows.News {} s.heap.objs.size s.heap N := fun p hp =>
  ⟨h p hp, fun e => absurd (Heap.lt_size (h p hp)) (by rw [e]; exact Nat.lt_irrefl _), by simp [Heap.get?]⟩

theorem strs_eq (a b : List Nat) : (a == b) = decide (a = b) := by by_cases h : a = b <;> simp [h]
theorem contains_one (x : Nat) (y : List Nat) : Txt.contains ⟨y.toArray⟩ ⟨[x].toArray⟩ = y.contains x := by
  show (!(Builtin.Str.occurrences _ _ 0 _ 1).isEmpty) = _
  have := StrLaws.found_one ⟨y.toArray⟩ x
  simp only [] at this ⊢
  rw [show ([x].toArray) = #[x] from rfl, this]
  by_cases q : x ∈ y <;> simp [q]
theorem beq_dec (x y : Int) : (x == y) = decide (x = y) := by by_cases q : x = y <;> simp [q]
theorem bne_dec (x y : Int) : (x != y) = !decide (x = y) := by by_cases q : x = y <;> simp [q]
theorem bne_str (x y : List Nat) : ((⟨x.toArray⟩ : Str).cps.toList != (⟨y.toArray⟩ : Str).cps.toList) = !decide (x = y) := by by_cases q : x = y <;> simp [q]
theorem eqS_ok {a b : V} {ca cb : Value} {K : Bool → Sto → Prop} (hu : A.units + 64 < cLine) (I : SInv B α σ s) (ha : VR α σ.length a ca) (hb : VR α σ.length b cb) (h : eqS a b σ K) :
    W B A (compareOp .Eq ca cb) s fun c s' => ∃ b, c = .bool b ∧ OutB B own α σ s K b s' := by
  cases a with
  | int x =>
    obtain ⟨t, rfl⟩ := ha
    obtain ⟨y, u, rfl, h⟩ := int_view hb h
    exact P.eq_int ⟨_, rfl, OutB.same I (by rw [beq_dec]; exact h)⟩
  | str x =>
    obtain ⟨t, rfl⟩ := ha
    obtain ⟨y, u, rfl, h⟩ := str_view hb h
    exact P.eq_str ⟨_, rfl, OutB.same I (by rw [strs_eq]; simpa using h)⟩
  | obj r =>
    obtain ⟨q, rfl, ds, es, h1, h2, h3, h4, hk⟩ := tObj_ok h
    obtain ⟨N, a1, a2⟩ := dat_in I _ _ _ _ h1 ha
    obtain ⟨M, b1, b2⟩ := dat_in I _ _ _ _ h2 hb
    cases a2 with
    | list m1 D1 => cases b2 with
      | list m2 D2 =>
        have X : Inn s (N ++ M) := fun p hp => (List.mem_append.mp hp).elim (a1 p) (b1 p)
        exact kqd_eq X.news (List.mem_append_left _ m1) rfl rfl D1 (fun p hp => List.mem_append_left _ hp) (List.mem_append_right _ m2) rfl rfl D2 (fun p hp => List.mem_append_right _ hp) h3 h4 hu ⟨_, rfl, OutB.same I (hk _ (by simp))⟩
  | _ => exact h.elim
theorem neS_ok {a b : V} {ca cb : Value} {K : Bool → Sto → Prop} (hu : A.units + 64 < cLine) (I : SInv B α σ s) (ha : VR α σ.length a ca) (hb : VR α σ.length b cb) (h : neS a b σ K) :
    W B A (compareOp .NotEq ca cb) s fun c s' => ∃ b, c = .bool b ∧ OutB B own α σ s K b s' := by
  cases a with
  | int x =>
    obtain ⟨t, rfl⟩ := ha
    obtain ⟨y, u, rfl, h⟩ := int_view hb h
    exact P.ne_int ⟨_, rfl, OutB.same I (by rw [bne_dec]; exact h)⟩
  | str x =>
    obtain ⟨t, rfl⟩ := ha
    obtain ⟨y, u, rfl, h⟩ := str_view hb h
    exact P.ne_str ⟨_, rfl, OutB.same I (by rw [bne_str]; exact h)⟩
  | obj r =>
    obtain ⟨q, rfl, ds, es, h1, h2, h3, h4, hk⟩ := tObj_ok h
    obtain ⟨N, a1, a2⟩ := dat_in I _ _ _ _ h1 ha
    obtain ⟨M, b1, b2⟩ := dat_in I _ _ _ _ h2 hb
    cases a2 with
    | list m1 D1 => cases b2 with
      | list m2 D2 =>
        have X : Inn s (N ++ M) := fun p hp => (List.mem_append.mp hp).elim (a1 p) (b1 p)
        exact kqd_ne X.news (List.mem_append_left _ m1) rfl rfl D1 (fun p hp => List.mem_append_left _ hp) (List.mem_append_right _ m2) rfl rfl D2 (fun p hp => List.mem_append_right _ hp) h3 h4 hu ⟨_, rfl, OutB.same I (hk _ (by simp))⟩
  | _ => exact h.elim
theorem none_view {n : Nat} {a : V} {ca : Value} (ha : VR α n a ca) : plainIs ca .none = true ∧ (ca == .none) = isNone a := by
  cases a <;> first | (obtain ⟨_, rfl⟩ := ha; exact ⟨rfl, rfl⟩) | (cases ha; exact ⟨rfl, rfl⟩)
theorem boo_eq (x y : Bool) : (Value.bool x == Value.bool y) = decide (x = y) := by cases x <;> cases y <;> rfl
theorem isS_ok {a b : V} {ca cb : Value} {K : Bool → Sto → Prop} (I : SInv B α σ s) (ha : VR α σ.length a ca) (hb : VR α σ.length b cb) (h : isS a b σ K) :
    W B A (compareOp .Is ca cb) s fun c s' => ∃ b, c = .bool b ∧ OutB B own α σ s K b s' := by
  cases b with
  | none =>
    cases hb
    refine wpAny_is_plain (none_view ha).1 ⟨_, rfl, OutB.same I ?_⟩
    rw [(none_view ha).2]; exact h
  | bool y =>
    cases hb
    obtain ⟨x, rfl, h⟩ := boo_view ha h
    refine wpAny_is_plain rfl ⟨_, rfl, OutB.same I ?_⟩
    rw [boo_eq]; exact h
  | _ => exact h.elim
theorem isntS_ok {a b : V} {ca cb : Value} {K : Bool → Sto → Prop} (I : SInv B α σ s) (ha : VR α σ.length a ca) (hb : VR α σ.length b cb) (h : isntS a b σ K) :
    W B A (compareOp .IsNot ca cb) s fun c s' => ∃ b, c = .bool b ∧ OutB B own α σ s K b s' := by
  cases b with
  | none =>
    cases hb
    refine wpAny_isNot_plain (none_view ha).1 ⟨_, rfl, OutB.same I ?_⟩
    show K (!(ca == .none)) σ
    rw [(none_view ha).2]; exact h
  | bool y =>
    cases hb
    obtain ⟨x, rfl, h⟩ := boo_view ha h
    refine wpAny_isNot_plain rfl ⟨_, rfl, OutB.same I ?_⟩
    show K (!(Value.bool x == Value.bool y)) σ
    rw [boo_eq]; exact h
  | _ => exact h.elim
theorem cmpS_ok {op : CmpOp} {a b : V} {ca cb : Value} {K : Bool → Sto → Prop} (hA : AOk A 0) (I : SInv B α σ s) (ha : VR α σ.length a ca) (hb : VR α σ.length b cb) (h : cmpS op a b σ K) :
    W B A (compareOp op ca cb) s fun c s' => ∃ b, c = .bool b ∧ OutB B own α σ s K b s' := by
  have hu : A.units + 64 < cLine := by have := hA.u; show _ < 9900; lia
  cases op with
  | Eq => exact eqS_ok hu I ha hb h
  | NotEq => exact neS_ok hu I ha hb h
  | Is => exact isS_ok I ha hb h
  | IsNot => exact isntS_ok I ha hb h
  | Lt =>
    obtain ⟨x, t, rfl, h⟩ := int_view ha h
    obtain ⟨y, u, rfl, h⟩ := int_view hb h
    exact P.lt_int ⟨_, rfl, OutB.same I h⟩
  | LtE =>
    obtain ⟨x, t, rfl, h⟩ := int_view ha h
    obtain ⟨y, u, rfl, h⟩ := int_view hb h
    exact P.le_int ⟨_, rfl, OutB.same I h⟩
  | Gt =>
    obtain ⟨x, t, rfl, h⟩ := int_view ha h
    obtain ⟨y, u, rfl, h⟩ := int_view hb h
    exact P.gt_int ⟨_, rfl, OutB.same I h⟩
  | GtE =>
    obtain ⟨x, t, rfl, h⟩ := int_view ha h
    obtain ⟨y, u, rfl, h⟩ := int_view hb h
    exact P.ge_int ⟨_, rfl, OutB.same I h⟩
  | In =>
    obtain ⟨x, t, rfl, h⟩ := str_view ha h
    obtain ⟨x, rfl, h⟩ := a1_ok h
    obtain ⟨y, u, rfl, h⟩ := str_view hb h
    exact SB.contains ⟨_, rfl, OutB.same I (by rw [contains_one]; exact h)⟩
  | _ => exact h.elim
end
end MI.Internal
end

section
set_option Elab.async false
set_option linter.all false
set_option maxRecDepth 10000
namespace MI.Internal
open PySem PySem.W PySem.Calls

section
variable {B : Base} {own : Addr → Prop} {α : Nat → Addr} {σ : Sto} {s : Shared} {A : Around} {K : VK}

noncomputable def bfV : Bf → Value
  | .len => .builtin "len" | .chr => .builtin "chr" | .ord => .builtin "ord" | .sum => .builtin "sum" | .max => .builtin "max" | .list => .type "list" | .abs => .builtin "abs"
  | .int => .type "int" | .divmod => .builtin "divmod"
noncomputable def bfName : Bf → Str
  | .len => "len" | .chr => "chr" | .ord => "ord" | .sum => "sum" | .max => "max" | .list => "list" | .abs => "abs" | .int => "int" | .divmod => "divmod"

theorem intsV_are {n : Nat} : ∀ {l : List V} {ns : List Int} {cs : List Value}, intsV l = some ns → VRs α n l cs → PyProof.Rows.IntsAre cs ns
  | [], ns, cs, h, hc => by
    cases VRs.nil_inv hc
    cases (show some [] = some ns from h)
    exact .nil
  | .int i :: l, ns, cs, h, hc => by
    obtain ⟨c, cs', rfl, ⟨t, rfl⟩, h2⟩ := hc.cons_inv
    have h : (intsV l).map (i :: ·) = some ns := h
    obtain ⟨ms, e, rfl⟩ := Option.map_eq_some_iff.mp h
    exact .cons _ _ (intsV_are e h2)
  | .none :: _, _, _, h, _ => by cases h
  | .bool _ :: _, _, _, h, _ => by cases h
  | .str _ :: _, _, _, h, _ => by cases h
  | .bytes _ :: _, _, _, h, _ => by cases h
  | .obj _ :: _, _, _, h, _ => by cases h
theorem strsV_are {n : Nat} : ∀ {l : List V} {ns : List (List Nat)} {cs : List Value}, strsV l = some ns → VRs α n l cs → PyProof.Rows.StrsAre cs (ns.map fun x => ⟨x.toArray⟩)
  | [], ns, cs, h, hc => by
    cases VRs.nil_inv hc
    cases (show some [] = some ns from h)
    exact .nil
  | .str i :: l, ns, cs, h, hc => by
    obtain ⟨c, cs', rfl, ⟨t, rfl⟩, h2⟩ := hc.cons_inv
    have h : (strsV l).map (i :: ·) = some ns := h
    obtain ⟨ms, e, rfl⟩ := Option.map_eq_some_iff.mp h
    exact .cons _ _ (strsV_are e h2)
  | .none :: _, _, _, h, _ => by cases h
  | .bool _ :: _, _, _, h, _ => by cases h
  | .int _ :: _, _, _, h, _ => by cases h
  | .bytes _ :: _, _, _, h, _ => by cases h
  | .obj _ :: _, _, _, h, _ => by cases h
theorem ints_all {cs : List Value} {ns : List Int} (h : PyProof.Rows.IntsAre cs ns) : AllInts cs.toArray ∧ numsOf cs = ns := ⟨h.allInts, h.numsOf⟩

theorem signs_are {n : Nat} (l : List Nat) : ∀ (k : Nat) (cs : List Value), cs.length + k = l.length → (∀ j v, cs[j]? = some v → SignAt ⟨l.toArray⟩ (k + j) v) → VRs α n ((l.drop k).map fun c => .str [c]) cs
  | k, [], e, _ => by
    have : l.drop k = [] := List.drop_eq_nil_iff.mpr (by simp at e; lia)
    rw [this]; trivial
  | k, v :: cs, e, h => by
    have hk : k < l.length := by simp at e; lia
    rw [List.drop_eq_getElem_cons hk]
    obtain ⟨c, u, h1, h2⟩ := h 0 v rfl
    have h1' : l[k]? = some c := by simpa using h1
    rw [List.getElem?_eq_getElem hk] at h1'
    cases h1'
    refine ⟨⟨u, h2⟩, signs_are l (k + 1) cs (by simp at e; lia) fun j w hj => ?_⟩
    have := h (j + 1) w (by simpa using hj)
    rwa [show k + (j + 1) = k + 1 + j by lia] at this

theorem lenS_ok {v : V} {c : Value} (I : SInv B α σ s) (hv : VR α σ.length v c) (h : lenS v σ K) :
    W B A (call (.builtin "len") [c]) s fun c s' => Out B own α σ s (one K) [c] s' := by
  cases v with
  | str l =>
    obtain ⟨t, rfl⟩ := hv
    refine P.len_str (by rw [strLen]; have := h.1.long; lia) (Out.tok I (one_k h.2) ⟨s.toks + 1, ?_⟩)
    rw [strLen]
  | bytes l =>
    obtain ⟨t, rfl⟩ := hv
    refine len_bytes (by have := h.1; unfold Fits at this; simp; lia) (Out.tok I (one_k h.2) ⟨s.toks + 1, ?_⟩)
    simp
  | obj r =>
    have fin : ∀ {l : List V} {cs : List Value} {n : Nat}, VRs α σ.length l cs → IsL s.heap (α r) cs.toArray n → Fits l.length ∧ K (.int l.length) σ → W B A (call (.builtin "len") [.ref (α r)]) s fun c s' => Out B own α σ s (one K) [c] s' := fun {l cs n} h1 ho h => by
      refine call_len_list ho.isList (by rw [List.size_toArray, h1.length]; exact h.1.long) (Out.tok I (one_k h.2) ⟨s.toks + 1, ?_⟩)
      rw [List.size_toArray, h1.length]
    have h : lenO σ[r]? σ K := h
    generalize hr : σ[r]? = o at h
    cases o with
    | none => exact h.elim
    | some o => cases o with
      | list l =>
        obtain ⟨cs, n, rfl, h1, ho⟩ := listAt I hr hv
        exact fin h1 ho h
      | frz l =>
        obtain ⟨cs, n, rfl, h1, ho⟩ := frzAt I hr hv
        exact fin h1 ho h
      | _ => exact h.elim
  | _ => exact h.elim
theorem ints_at {l : List V} {cs : List Value} {ns : List Int} {r n k : Nat} (e : intsV l = some ns) (h1 : VRs α k l cs) (ho : IsL s.heap (α r) cs.toArray n) : ∃ xs, s.heap.IsList (α r) (intItems xs) ∧ xs.toList.map (·.1) = ns := by
  obtain ⟨xs, e2⟩ := (ints_all (intsV_are e h1)).1.items
  refine ⟨xs, e2 ▸ ho.isList, ?_⟩
  have e3 : numsOf (intItems xs).toList = ns := by rw [← e2]; exact (ints_all (intsV_are e h1)).2
  rwa [nums_intItems] at e3
theorem maxS_ok {v : V} {vs : List V} {c : Value} {cs : List Value} (hA : AOk A 0) (I : SInv B α σ s) (hv : VR α σ.length v c) (hvs : VRs α σ.length vs cs) (h : maxS v vs σ K) :
    W B A (call (.builtin "max") (c :: cs)) s fun c s' => Out B own α σ s (one K) [c] s' := by
  cases vs with
  | nil =>
    cases VRs.nil_inv hvs
    obtain ⟨r, rfl, h⟩ := tObj_ok h
    obtain ⟨l, cs, n, hr, rfl, h1, ho, ns, e, hne, hk⟩ := lst_view I hv h
    obtain ⟨xs, hl, e3⟩ := ints_at e h1 ho
    have hsz : 0 < xs.size := by
      rcases Nat.eq_zero_or_pos xs.size with q | q
      · exact absurd (by rw [← e3]; simp [Array.size_eq_zero_iff.mp q]) hne
      · exact q
    refine max_intList hA.h hl hsz fun v h' tk hv hkeep => ?_
    obtain ⟨t, rfl⟩ := intItems_at hv
    obtain ⟨h1, h2⟩ := argBest_gt (numAt xs) (xs.size - 1)
    refine Out.grow I (one_k (hk _ ?_ fun a ha => ?_)) ⟨t, rfl⟩ hkeep
    · rw [← e3, numAt_eq]; exact getD_mem (by rw [List.length_map, Array.length_toList]; lia)
    · rw [← e3] at ha
      obtain ⟨j, hj, rfl⟩ := mem_getD ha
      rw [List.length_map, Array.length_toList] at hj
      rw [← numAt_eq]; exact h2 j (by lia)
  | cons b vs =>
    obtain ⟨b, c', rfl, hb, h⟩ := one_view hvs h
    obtain ⟨i, t, rfl, h⟩ := int_view hv h
    obtain ⟨j, u, rfl, h⟩ := int_view hb h
    refine max_two_ints hA.h fun h' tk hkeep => Out.grow I (one_k h) ?_ hkeep
    split <;> exact ⟨_, rfl⟩
theorem listS_ok {v : V} {c : Value} (hA : AOk A 0) (I : SInv B α σ s) (hv : VR α σ.length v c) (h : listS v σ K) :
    W B A (call (.type "list") [c]) s fun c s' => Out B own α σ s (one K) [c] s' := by
  cases v with
  | str l =>
    obtain ⟨t, rfl⟩ := hv
    refine call_list_str hA.h _ t (fun h' tk acc' c' hkeep ho hi => ?_) (by simpa using h.1.line)
    have hcs : VRs α σ.length (l.map fun c => .str [c]) acc'.toList := by
      have := signs_are (α := α) (n := σ.length) l 0 acc'.toList (by rw [Array.length_toList, hi.1]; simp) (fun j v hj => by
        have := hi.2 j v (by simpa using hj)
        rwa [Nat.zero_add])
      simpa using this
    exact Out.alloc I (x := .list _) h.2 hkeep (none_at _) ho ⟨acc'.toList, c', hcs.mono (Nat.le_succ _) fun r hr => put_lt hr, by simp⟩
  | obj r =>
    obtain ⟨l, cs, n, hr, rfl, h1, ho, h⟩ := lst_view I hv h
    refine call_list_seq (α _) (.inl rfl) ho rfl rfl (fun h' c' hkeep ho' => ?_) (by rw [List.size_toArray, h1.length]; exact h.1.line)
    exact Out.alloc (tk := s.toks) I (x := .list l) h.2 hkeep (none_at _) ho' ⟨cs, c', h1.mono (Nat.le_succ _) fun r hr => put_lt hr, rfl⟩
  | _ => exact h.elim
theorem bfS_ok {f : Bf} {vs : List V} {cs : List Value} (hA : AOk A 0) (I : SInv B α σ s) (hv : VRs α σ.length vs cs) (h : bfS f vs σ K) :
    W B A (call (bfV f) cs) s fun c s' => Out B own α σ s (one K) [c] s' := by
  cases f with
  | len =>
    obtain ⟨v, c, rfl, hc, h⟩ := one_view hv h
    exact lenS_ok I hc h
  | chr =>
    obtain ⟨v, c, rfl, hc, h⟩ := one_view hv h
    obtain ⟨i, t, rfl, h⟩ := int_view hc h
    exact PyProof.Rows.chr_of_range h.1 (by lia) (Out.tok I (one_k h.2.2) ⟨_, rfl⟩)
  | ord =>
    obtain ⟨v, c, rfl, hc, h⟩ := one_view hv h
    obtain ⟨l, t, rfl, h⟩ := str_view hc h
    obtain ⟨x, rfl, h⟩ := a1_ok h
    exact P.ord_of_char (Out.tok I (one_k h) ⟨_, rfl⟩)
  | sum =>
    obtain ⟨v, c, rfl, hc, h⟩ := one_view hv h
    obtain ⟨r, rfl, h⟩ := tObj_ok h
    obtain ⟨l, cs, n, hr, rfl, h1, ho, ns, e, hk⟩ := lst_view I hc h
    obtain ⟨xs, hl, e3⟩ := ints_at e h1 ho
    refine PySem.sum_intListG hA.h hl fun h' tk t' hkeep => Out.grow I (one_k hk) ⟨t', ?_⟩ hkeep
    rw [preSum_eq, List.take_of_length_le (by simp), e3]
  | max =>
    cases vs with
    | nil => exact h.elim
    | cons v vs =>
      obtain ⟨c, cs', rfl, hc, h2⟩ := hv.cons_inv
      exact maxS_ok hA I hc h2 h
  | list =>
    obtain ⟨v, c, rfl, hc, h⟩ := one_view hv h
    exact listS_ok hA I hc h
  | abs =>
    obtain ⟨v, c, rfl, hc, h⟩ := one_view hv h
    obtain ⟨i, t, rfl, h⟩ := int_view hc h
    exact PyProof.Rows.call_abs_int fun u tk => Out.tok I (one_k h) ⟨_, rfl⟩
  | int =>
    obtain ⟨v, c, rfl, hc, h⟩ := one_view hv h
    obtain ⟨i, t, rfl, h⟩ := int_view hc h
    exact call_int_int (Out.same I (one_k h) ⟨_, rfl⟩)
  | divmod =>
    obtain ⟨v, w, rfl, h⟩ := a2_ok h
    obtain ⟨c, cs', rfl, hc, h2⟩ := hv.cons_inv
    obtain ⟨d, rfl, hd⟩ := h2.one
    obtain ⟨a, t, rfl, h⟩ := int_view hc h
    obtain ⟨b, u, rfl, h⟩ := int_view hd h
    refine PyProof.Rows.divmod_int (by lia) ?_ (.inl h.2.1.pylong)
    have := newT (own := own) (tk := s.toks + 1 + 1) I (vs := [.int _, .int _]) (cs := [.int _ s.toks, .int _ (s.toks + 1)]) ⟨⟨_, rfl⟩, ⟨_, rfl⟩, trivial⟩ h.2.2
    rw [Int.fdiv_eq_ediv_of_nonneg _ (by lia), Int.fmod_eq_emod_of_nonneg _ (by lia)]
    exact this
end
end MI.Internal
end

section
set_option Elab.async false
set_option linter.all false
set_option maxRecDepth 10000
namespace MI.Internal
open PySem PySem.W PySem.Calls

section
variable {B : Base} {own : Addr → Prop} {α : Nat → Addr} {σ : Sto} {s : Shared} {A : Around} {K : VK}

noncomputable def isSl : Expr → Bool
  | .Slice .. => true
  | _ => false
theorem sub_plain {slice : Expr} (h : isSl slice = false) (o i : Value) : subscripted slice false o i = operate [o, i] (getItem o i) := by
  cases slice <;> first | rfl | cases h
theorem sub_slice (lo hi : Option Expr) (p : Pos) (o i : Value) : subscripted (.Slice lo hi none p) false o i = operate [i, o] (getItem o i) := rfl

theorem tail_ok {value slice : Expr} {o i : Value} {ops : List Value} {Q : Value → Shared → Prop} {T id : String} (hl : typeLookup (.type T) "__getitem__" = pure (some (.builtin id))) (hT : s.TypeIs o T)
    (hg : W B A (getItem o i) s Q) (hs : subscripted slice false o i = operate ops (getItem o i)) : W B A (PyProof.Rows.subscriptTail value slice o i) s Q :=
  PyProof.Rows.tail_any hT hl hg hs

/-- a sequence whose items are asked for -/
noncomputable def Seqd (s : Shared) (c : Value) : Prop := ∃ T id, typeLookup (.type T) "__getitem__" = pure (some (.builtin id)) ∧ s.TypeIs c T
theorem seqd_str {l : Str} {t : Tok} : Seqd s (.str l t) := ⟨"str", _, PySem.F.slot_str_getitem.lookup, typeIs_str _ _ _⟩
theorem seqd_bytes {l : Array UInt8} {t : Tok} : Seqd s (.bytes l t) := ⟨"bytes", _, FB.slot_bytes_getitem.lookup, typeIs_bytes _ _ _⟩
theorem seqd_list {a : Addr} {l : Array Value} {n : Nat} (h : IsL s.heap a l n) : Seqd s (.ref a) := ⟨"list", _, PySem.F.slot_list_getitem.lookup, ⟨_, h, rfl⟩⟩

theorem seqIndex_pos {n : Nat} {i : Int} (h0 : 0 ≤ i) (h1 : i.toNat < n) : seqIndex? i n = some i.toNat := by
  unfold seqIndex?
  split <;> rename_i q <;> simp at q ⊢ <;> lia
theorem seqIndex_neg {n : Nat} {i : Int} (h0 : i < 0) (h1 : -i ≤ n) : seqIndex? i n = some ((n : Int) + i).toNat := by
  unfold seqIndex?
  split <;> rename_i q <;> simp at q ⊢ <;> lia

theorem idxS_ok {a i : V} {ca ci : Value} (I : SInv B α σ s) (ha : VR α σ.length a ca) (hi : VR α σ.length i ci) (h : idxS a i σ K) :
    Seqd s ca ∧ W B A (getItem ca ci) s fun c s' => Out B own α σ s (one K) [c] s' := by
  unfold idxS at h
  split at h
  · obtain ⟨t, rfl⟩ := ha; obtain ⟨u, rfl⟩ := hi
    rename_i l i
    refine ⟨seqd_str, ?_⟩
    have hf := h.1.long
    rcases h.2 with ⟨h0, c, hc, hk⟩ | ⟨h0, h1, c, hc, hk⟩
    · have hl := (List.getElem?_eq_some_iff.mp hc).1
      refine P.getItem_str (c := c) (by simp; lia) ?_ (Out.tok I (one_k hk) ⟨s.toks, rfl⟩)
      rw [strLen, seqIndex_pos h0 hl]
      simpa using hc
    · have hl := (List.getElem?_eq_some_iff.mp hc).1
      refine P.getItem_str (c := c) (by simp; lia) ?_ (Out.tok I (one_k hk) ⟨s.toks, rfl⟩)
      rw [strLen, seqIndex_neg h0 h1]
      simpa using hc
  · obtain ⟨t, rfl⟩ := ha; obtain ⟨u, rfl⟩ := hi
    rename_i l i
    refine ⟨seqd_bytes, ?_⟩
    obtain ⟨hf, h0, c, hc, hk⟩ := h
    have hl := (List.getElem?_eq_some_iff.mp hc).1
    refine getItem_bytes (by unfold Fits at hf; lia) h0 (by lia) (Out.tok I (one_k hk) ⟨s.toks, ?_⟩)
    rw [List.getD_eq_getElem?_getD, hc]; rfl
  · obtain ⟨u, rfl⟩ := hi
    split at h
    · rename_i l hr
      obtain ⟨cs, n, rfl, h1, ho⟩ := listAt I hr ha
      refine ⟨seqd_list ho, ?_⟩
      have hf := h.1.long
      rcases h.2 with ⟨h0, v, hv, hk⟩ | ⟨h0, hm, v, hv, hk⟩
      · obtain ⟨c, hc, hcv⟩ := h1.get hv
        have hl := (List.getElem?_eq_some_iff.mp hv).1
        exact wpAny_getItem_list ho.isList h0 (by lia) (by simpa using hc) (Out.one I (one_k hk) hcv)
      · obtain ⟨c, hc, hcv⟩ := h1.get hv
        refine wpAny_getItem_list_neg ho.isList h0 (by rw [List.size_toArray, h1.length]; lia) (by lia) ?_ (Out.one I (one_k hk) hcv)
        rw [List.size_toArray, h1.length, Int.add_comm]
        simpa using hc
    · rename_i l hr
      obtain ⟨cs, n, rfl, h1, ho⟩ := frzAt I hr ha
      refine ⟨seqd_list ho, ?_⟩
      have hf := h.1.long
      obtain ⟨_, h0, v, hv, hk⟩ := h
      obtain ⟨c, hc, hcv⟩ := h1.get hv
      have hl := (List.getElem?_eq_some_iff.mp hv).1
      exact wpAny_getItem_list ho.isList h0 (by lia) (by simpa using hc) (Out.one I (one_k hk) hcv)
    · exact h.elim
  · exact h.elim

theorem part_ok {n : Nat} {l : List V} {i d m : Nat} {c : Value} (hc : (l = [] ∧ c = .none) ∨ ∃ v, l = [v] ∧ VR α n v c) (h : cut m d l = some i) : ∃ lo, IsPart c lo ∧ lo.elim d (clipAt m) = i := by
  unfold cut at h
  split at h
  · rcases hc with ⟨_, rfl⟩ | ⟨v, e, _⟩
    · exact ⟨none, .none, Option.some.inj h⟩
    · cases e
  · rcases hc with ⟨e, _⟩ | ⟨v, e, hv⟩
    · cases e
    · cases e
      obtain ⟨t, rfl⟩ := hv
      exact ⟨some _, .int _ _, Option.some.inj h⟩
  · cases h
theorem drop_take_eq {β : Type} (l : List β) (i j : Nat) : (l.drop i).take (j - i) = (l.take j).drop i := by
  rw [List.drop_take]
theorem partVal {c : Value} {lo : Option Int} (h : IsPart c lo) : ∃ p : Option (Int × Tok), c = partValue p ∧ p.map (·.1) = lo := by
  cases h with
  | none => exact ⟨none, rfl, rfl⟩
  | int i t => exact ⟨some (i, t), rfl, rfl⟩
theorem picked_run (n : Nat) (x : Array Nat) (l u : Option (Int × Tok)) : slicePicked ⟨x⟩ l u none =
    (List.range ((u.map (·.1)).elim x.size (clipAt x.size) - (l.map (·.1)).elim 0 (clipAt x.size))).map (((l.map (·.1)).elim 0 (clipAt x.size)) + ·) := by
  have e : slicePicked ⟨x⟩ l u none = sliceRange (sliceBounds (l.map (·.1)) (u.map (·.1)) none x.size).1 (sliceBounds (l.map (·.1)) (u.map (·.1)) none x.size).2.1 (sliceBounds (l.map (·.1)) (u.map (·.1)) none x.size).2.2 := rfl
  rw [e, sliceBounds_plain]
  simp only [sliceRange_one]
theorem cut_le {m : Nat} {hi : Option Int} : hi.elim m (clipAt m) ≤ m := by
  cases hi with
  | none => exact Nat.le_refl _
  | some i =>
    have := clipAt_cast m i
    show clipAt m i ≤ m
    lia
theorem picked_str (x : Array Nat) (l u : Option (Int × Tok)) : (slicePicked ⟨x⟩ l u none).filterMap (x[·]?) =
    (x.toList.drop ((l.map (·.1)).elim 0 (clipAt x.size))).take ((u.map (·.1)).elim x.size (clipAt x.size) - (l.map (·.1)).elim 0 (clipAt x.size)) := by
  have e : slicePicked ⟨x⟩ l u none = sliceRange (sliceBounds (l.map (·.1)) (u.map (·.1)) none x.size).1 (sliceBounds (l.map (·.1)) (u.map (·.1)) none x.size).2.1 (sliceBounds (l.map (·.1)) (u.map (·.1)) none x.size).2.2 := rfl
  rw [e, sliceBounds_plain]
  simp only [sliceRange_one, pick_run]

theorem sliceS_ok {a : V} {lo hi : List V} {ca cl ch : Value} (I : SInv B α σ s) (ha : VR α σ.length a ca) (hl : (lo = [] ∧ cl = .none) ∨ ∃ v, lo = [v] ∧ VR α σ.length v cl) (hh : (hi = [] ∧ ch = .none) ∨ ∃ v, hi = [v] ∧ VR α σ.length v ch)
    (h : sliceS a lo hi σ K) : Seqd { s with heap := s.heap.push { cls := .type "slice", data := .fields #[cl, ch, .none] } } ca ∧ W B A (getItem ca (.ref s.heap.objs.size)) { s with heap := s.heap.push { cls := .type "slice", data := .fields #[cl, ch, .none] } } fun c s' => Out B own α σ s (one K) [c] s' := by
  have keep : ∀ b o, s.heap.get? b = some o → (s.heap.push { cls := .type "slice", data := .fields #[cl, ch, .none] }).get? b = some o := fun b o e => Heap.get?_push_of_some _ e
  unfold sliceS at h
  split at h
  · obtain ⟨t, rfl⟩ := ha
    rename_i l
    obtain ⟨i, j, hf, h1, h2, hk⟩ := h
    obtain ⟨lo', p1, e1⟩ := part_ok hl h1
    obtain ⟨hi', p2, e2⟩ := part_ok hh h2
    obtain ⟨q1, rfl, f1⟩ := partVal p1
    obtain ⟨q2, rfl, f2⟩ := partVal p2
    refine ⟨seqd_str, wpAny_getItem_str_slice (l := q1) (u := q2) (st := none) ⟨_, Heap.get?_push_size _ rfl, rfl, rfl⟩ rfl ?_⟩
    have e : ((slicePicked ⟨l.toArray⟩ q1 q2 none).filterMap (l.toArray[·]?)) = (l.take j).drop i := by
      rw [picked_str, f1, f2, ← drop_take_eq]
      simp only [List.size_toArray, e1, e2]
    unfold sliceMade
    split
    · rename_i c
      have whole : (l.take j).drop i = l := by
        have hj : j ≤ l.length := by have := cut_le (m := l.length) (hi := hi'); rwa [e2] at this
        rw [picked_run 0, f1, f2] at c
        simp only [List.size_toArray, e1, e2, List.length_map, List.length_range, strLen] at c
        have c' : j - i = l.length := by simpa using c
        have hl0 : l.length = 0 ∨ (i = 0 ∧ j = l.length) := by lia
        rcases hl0 with h0 | ⟨h0, h0'⟩
        · rw [List.length_eq_zero_iff.mp h0]; simp
        · subst h0 h0'; simp
      rw [whole] at hk
      exact Out.grow (tk := s.toks) I (one_k hk) ⟨t, rfl⟩ keep
    · have e' : (⟨((slicePicked ⟨l.toArray⟩ q1 q2 none).filterMap ((⟨l.toArray⟩ : Str).cps[·]?)).toArray⟩ : Str) = ⟨((l.take j).drop i).toArray⟩ := congrArg (fun z : List Nat => (⟨z.toArray⟩ : Str)) e
      rw [e']
      refine ⟨?_, Out.grow (tk := s.toks + 1) I (one_k hk) ⟨s.toks, rfl⟩ keep⟩
      rw [strLen]
      have := hf.line
      simp only [List.length_drop, List.length_take]
      lia
  · obtain ⟨t, rfl⟩ := ha
    rename_i l
    obtain ⟨i, j, hf, h1, h2, hk⟩ := h
    obtain ⟨lo', p1, e1⟩ := part_ok hl h1
    obtain ⟨hi', p2, e2⟩ := part_ok hh h2
    refine ⟨seqd_bytes, getItem_meets (typeIs_bytes _ _ _) (by decide) FB.slot_bytes_getitem FB.entry_bytes_getitem (FB.args_bytes_getitem_2 _ _) (KBc.meets_slice2 l.toArray t _ p1 p2)
      ⟨Heap.IsSliceOf.new _ _ _ _, Nat.le_trans (KBc.size_picked_le _ _ _) (by simpa using hf.line), fun t' k => ?_⟩⟩
    have e : KBy.picked l.toArray lo' hi' = ((l.take j).drop i).toArray := by
      rw [KBc.picked_eq, ← drop_take_eq]
      simp only [List.size_toArray, e1, e2]
    exact Out.grow (tk := k) I (one_k hk) ⟨t', by rw [e]⟩ keep
  · split at h
    · rename_i l hr
      obtain ⟨i, j, hf, h1, h2, hk⟩ := h
      obtain ⟨lo', p1, e1⟩ := part_ok hl h1
      obtain ⟨hi', p2, e2⟩ := part_ok hh h2
      obtain ⟨cs, n, rfl, hv, ho⟩ := listAt I hr ha
      refine ⟨seqd_list (IsL.push ho _), wpAny_getItem_list_slice (IsL.push ho _).isList (Heap.IsSliceOf.new _ _ _ _) p1 p2 .none (by simp) ?_ (by rw [List.size_toArray, hv.length]; exact hf.line)⟩
      rw [slicePick_plain]
      simp only [List.size_toArray, hv.length, e1, e2, drop_take_eq]
      have J := I.grow (tk := s.toks) (d := s.drawn) keep
      have := newL (own := own) (tk := s.toks) J ((hv.take j).drop i) hk
      exact Out.trans (Ext.grow (tk := s.toks) (d := s.drawn) keep) this
    · exact h.elim
  · exact h.elim
end
end MI.Internal
end

section
set_option Elab.async false
set_option linter.all false
set_option maxRecDepth 10000
namespace MI.Internal
open PySem PySem.W PySem.Calls

section
variable {B : Base} {own : Addr → Prop} {α : Nat → Addr} {σ : Sto} {s : Shared} {A : Around} {K : VK} {env : Env}

/-! ### calls -/
noncomputable def plainEs : List Expr → Bool
  | [] => true
  | .Starred .. :: _ => false
  | _ :: es => plainEs es
theorem star_cons {e : Expr} {es : List Expr} (h : plainEs (e :: es) = true) : starEach (e :: es) env = (false, eval e env) :: starEach es env ∧ plainEs es = true := by
  cases e <;> first | exact ⟨rfl, h⟩ | cases h
theorem plain_any {pos : Pos} : ∀ {es : List Expr}, plainEs es = true → (backTo pos (starEach es env)).any (·.1) = false
  | [], _ => rfl
  | e :: es, h => by
    obtain ⟨a, b⟩ := star_cons (env := env) h
    rw [a]
    show (false || (backTo pos (starEach es env)).any (·.1)) = false
    rw [plain_any b]; rfl
theorem plain_all {pos : Pos} : ∀ {es : List Expr}, plainEs es = true → (backTo pos (starEach es env)).all (fun x => !x.1) = true
  | [], _ => rfl
  | e :: es, h => by
    obtain ⟨a, b⟩ := star_cons (env := env) h
    rw [a]
    show (true && (backTo pos (starEach es env)).all (fun x => !x.1)) = true
    rw [plain_all b]; rfl
theorem args_ok {f : Value} {pos : Pos} {es : List Expr} {Q : Args → Shared → Prop} (hp : plainEs es = true) (h : W B A (spliced (backTo pos (starEach es env))) s fun vs s' => Q ⟨vs, []⟩ s') :
    W B A (evalArgs f true (backTo pos (starEach es env)) []) s Q := by
  cases es with
  | nil =>
    have h' : W B A (evalArgs f true [] []) s Q := by
      unfold evalArgs
      exact wpAny_bind (wpAny_mono h (fun vs s' h' => wpAny_holding (wpAny_bind (wpAny_pure (wpAny_bind (wpAny_pure (wpAny_pure h')))))) fun _ _ x => x)
    exact h'
  | cons e es =>
    obtain ⟨a, b⟩ := star_cons (env := env) hp
    rw [a] at h ⊢
    exact evalArgs_plain h
theorem callB_ok {id : String} {pos : Pos} {first : List Value} {es : List Expr} {Q : Value → Shared → Prop} (hp : plainEs es = true)
    (h : W B A (spliced (backTo pos (starEach es env))) s fun vs s' => W B A (call (.builtin id) (first ++ vs)) s' Q) : W B A (callWith pos (.builtin id) first (backTo pos (starEach es env)) []) s Q :=
  callWith_builtin (plain_any hp) (args_ok hp h)
theorem callT_ok {T : String} {pos : Pos} {first : List Value} {es : List Expr} {Q : Value → Shared → Prop} (hp : plainEs es = true)
    (h : W B A (spliced (backTo pos (starEach es env))) s fun vs s' => W B A (call (.type T) (first ++ vs)) s' Q) : W B A (callWith pos (.type T) first (backTo pos (starEach es env)) []) s Q :=
  callWith_type (plain_any hp) (args_ok hp h)
theorem callK_ok {Kf : Frag} {f : Value} {pos : Pos} {first : List Value} {es : List Expr} {Q : Value → Shared → Prop} (hp : plainEs es = true) (hk : keepIn Kf f = true)
    (h : W B A (spliced (backTo pos (starEach es env))) s fun vs s' => Kf.In s'.heap ∧ W B A (call f (first ++ vs)) s' Q) : W B A (callWith pos f first (backTo pos (starEach es env)) []) s Q :=
  callWith_of (P := fun h => Kf.In h) (by rw [plain_any hp]; rfl) (keeps_K hk) (args_ok hp h)
theorem callF_ok {f : Addr} {pos : Pos} {first : List Value} {es : List Expr} {Q : Value → Shared → Prop} (hp : plainEs es = true)
    (h : W B A (spliced (backTo pos (starEach es env))) s fun vs s' => (∃ o fd, s'.heap.get? f = some o ∧ o.data = .func fd) ∧ W B A (call (.ref f) (first ++ vs)) s' Q) : W B A (callWith pos (.ref f) first (backTo pos (starEach es env)) []) s Q := by
  refine callWith_of (P := fun h => ∃ o fd, h.get? f = some o ∧ o.data = .func fd) (by rw [plain_any hp]; rfl) (fun h ⟨o, fd, ho, hd⟩ => ⟨.frame, .inl rfl, ?_⟩) (args_ok hp h)
  refine (Looks.ld (part := none) ho).andThen ?_
  rw [hd]
  exact .now

noncomputable def noCall : Expr → Bool
  | .Call .. => false
  | _ => true
theorem base_ok {o : Expr} {name : Str} (h : noCall o = true) {w : Sem Value} : attributeBase o name env w = w := by
  cases o <;> first | rfl | cases h
theorem callA_ok {o : Expr} {name : Str} {apos pos : Pos} {es : List Expr} {Q : Value → Shared → Prop} (hb : noCall o = true) (hp : plainEs es = true) (hn : Nat.ble es.length 20 = true) (hl : (apos.endLine == pos.line) = true)
    (h : W B A (eval o env) s fun ov s₁ => ∀ pl : Sem Bool, W B A (getMethod ov name pl) s₁ fun fx s₂ => W B A (callWith pos fx.1 fx.2 (backTo pos (starEach es env)) []) s₂ Q) :
    W B A (eval (.Call (.Attribute o name apos) es [] pos) env) s Q := by
  show wpAny _ _ _ _ _ _
  rw [arm_eval_Call, base_ok hb]
  refine wpAny_bind (wpAny_mono h (fun ov s₁ h₁ => ?_) fun _ _ e => e)
  refine wpAny_bind (wpAny_standAt ?_)
  have hform : methodCallForm (es.length + ([] : List Keyword).length) (backTo pos (starEach es env)) (backToKw pos (keywordEach [] env)) = true := by
    unfold methodCallForm
    rw [plain_all hp]
    have := Nat.le_of_ble_eq_true hn
    show (true && true && decide (es.length + 0 + 0 < 30)) = true
    simp; lia
  have hpos : methodCallPos true o env apos pos = pure pos := by unfold methodCallPos; simp [hl]
  unfold methodCall
  rw [hform]
  refine wpAny_bind (wpAny_holding (wpAny_mono (h₁ _) (fun fx s₂ h₂ => ?_) fun _ _ e => e))
  exact wpAny_bind (wpAny_of_eq hpos h₂)
theorem callN_ok {x : Str} {p pos : Pos} {es : List Expr} {Q : Value → Shared → Prop} (h : W B A (eval (.Name x p) env) s fun f s₁ => W B A (callWith pos f [] (backTo pos (starEach es env)) []) s₁ Q) :
    W B A (eval (.Call (.Name x p) es [] pos) env) s Q := wpAny_Call_NameR h

/-! ### methods of lists and strings -/
noncomputable def bmName : Bm → Str
  | .append => "append" | .pop0 => "pop" | .join => "join" | .lindex => "index" | .sindex => "index"
noncomputable def bmId : Bm → String
  | .append => "list.append" | .pop0 => "list.pop" | .join => "str.join" | .lindex => "list.index" | .sindex => "str.index"
theorem bm_get {m : Bm} {o : V} {c : Value} {pl : Sem Bool} {Q : Value × List Value → Shared → Prop} (I : SInv B α σ s) (ho : VR α σ.length o c) (h : bmT m o σ) (k : Q (.builtin (bmId m), [c]) s) :
    W B A (getMethod c (bmName m) pl) s Q := by
  cases m with
  | append =>
    obtain ⟨r, rfl, l, hr⟩ := tObj_ok h
    obtain ⟨cs, n, rfl, h1, hL⟩ := listAt I hr ho
    exact getMethod_builtin ⟨_, hL, rfl⟩ PySem.F.plainAttrs_list PySem.F.slot_list_append PySem.F.type_list_append (fun a e => by cases e; exact ⟨_, hL, rfl⟩) k
  | pop0 =>
    obtain ⟨r, rfl, l, hr⟩ := tObj_ok h
    obtain ⟨cs, n, rfl, h1, hL⟩ := listAt I hr ho
    exact getMethod_builtin ⟨_, hL, rfl⟩ PySem.F.plainAttrs_list PySem.F.slot_list_pop PySem.F.type_list_pop (fun a e => by cases e; exact ⟨_, hL, rfl⟩) k
  | lindex =>
    obtain ⟨r, rfl, l, hr⟩ := tObj_ok h
    obtain ⟨cs, n, rfl, h1, hL⟩ := listAt I hr ho
    exact getMethod_builtin ⟨_, hL, rfl⟩ PySem.F.plainAttrs_list PySem.F.slot_list_index PySem.F.type_list_index (fun a e => by cases e; exact ⟨_, hL, rfl⟩) k
  | join =>
    obtain ⟨x, t, rfl, _⟩ := str_view ho h
    exact GM.join k
  | sindex =>
    obtain ⟨x, t, rfl, _⟩ := str_view ho h
    exact GM.index k

theorem isL_same {h h' : Heap} {l : Addr} {items : Array Value} {n : Nat} (x : IsL h l items n) (f : Array Value → Array Value) : ∃ n', (h.update l (Obj.mapSeq f)).get? l = some { cls := .type "list", data := .seq (f items) n' } ∧ ∀ b, b ≠ l → (h.update l (Obj.mapSeq f)).get? b = h.get? b :=
  ⟨_, x.update f, fun b hb => Heap.get?_update_other _ _ (Ne.symm hb)⟩

theorem turnL (I : SInv B α σ s) {r : Nat} {l l' : List V} {cs' : List Value} {n' : Nat} {h' : Heap} {v : V} {c : Value} (hr : σ[r]? = some (.list l)) (hv : VRs α σ.length l' cs') (hc : VR α σ.length v c)
    (ho : h'.get? (α r) = some { cls := .type "list", data := .seq cs'.toArray n' }) (hs : ∀ b, b ≠ α r → h'.get? b = s.heap.get? b) (k : K v (σ.set r (.list l'))) {tk : Nat} : Out B own α σ s (one K) [c] { s with heap := h', toks := tk } :=
  ⟨[v], _, α, k, ⟨by simpa using hc, trivial⟩, I.turn hr (fun e => by cases e) (fun b hb o e => (hs b hb).trans e) ho ⟨cs', n', hv, rfl⟩, Ext.turn (I.get hr) (fun b hb o e => (hs b hb).trans e) ho⟩

theorem join_flat : ∀ (l : List (List Nat)), Txt.join ⟨#[]⟩ (l.map fun x => ⟨x.toArray⟩) = ⟨l.flatten.toArray⟩ := by
  intro l
  show Builtin.Str.glued _ _ = _
  unfold Builtin.Str.glued
  cases l with
  | nil => rfl
  | cons a l =>
    have : ∀ (l : List (List Nat)) (z : List Nat), (l.map fun x => (⟨x.toArray⟩ : Str)).foldl (fun acc p => acc ++ (⟨#[]⟩ : Str).cps ++ p.cps) z.toArray = (z ++ l.flatten).toArray := by
      intro l
      induction l with
      | nil => intro z; simp
      | cons b l ih =>
        intro z
        have := ih (z ++ b)
        simp only [List.map_cons, List.foldl_cons, List.flatten_cons]
        rw [show (z.toArray ++ (⟨#[]⟩ : Str).cps ++ (⟨b.toArray⟩ : Str).cps) = (z ++ b).toArray by simp, this]
        simp
    have q := this l a
    simp only [List.map_cons, List.drop_succ_cons, List.drop_zero, List.headD_cons, List.flatten_cons]
    exact congrArg Str.mk q

theorem ap_found {c : Nat} (h0 : 65 ≤ c) (h1 : c < 81) : Builtin.Str.occurrences ⟨[65, 66, 67, 68, 69, 70, 71, 72, 73, 74, 75, 76, 77, 78, 79, 80].toArray⟩ ⟨[c].toArray⟩ 0 16 1 = [c - 65] := by
  have : ∀ d, d < 16 → Builtin.Str.occurrences ⟨[65, 66, 67, 68, 69, 70, 71, 72, 73, 74, 75, 76, 77, 78, 79, 80].toArray⟩ ⟨[d + 65].toArray⟩ 0 16 1 = [d] := by decide +kernel
  have q := this (c - 65) (by lia)
  rwa [show c - 65 + 65 = c by lia] at q
theorem bmS_ok {m : Bm} {o : V} {c : Value} {vs : List V} {cs : List Value} (hA : AOk A 0) (I : SInv B α σ s) (ho : VR α σ.length o c) (hv : VRs α σ.length vs cs) (h : bmS m o vs σ K) :
    W B A (call (.builtin (bmId m)) (c :: cs)) s fun c s' => Out B own α σ s (one K) [c] s' := by
  cases m with
  | append =>
    obtain ⟨r, rfl, h⟩ := tObj_ok h
    obtain ⟨v, d, rfl, hd, h⟩ := one_view hv h
    obtain ⟨l, xs, n, hr, rfl, h1, hL, h⟩ := lst_view I ho h
    obtain ⟨n', e1, e2⟩ := isL_same (h' := s.heap) hL (fun x => x.push d)
    refine call_meets PySem.F.slot_list_append ⟨_, hL, rfl⟩ PySem.F.entry_list_append (PySem.F.args_list_append_2 _ _) (PySem.list_append (α _) xs.toArray n d (by rw [List.size_toArray, h1.length]; exact h.1.line)) ⟨hL, ?_⟩
    exact turnL (tk := s.toks) (v := .none) (c := .none) I hr (cs' := xs ++ [d]) (h1.append (ws := [_]) (ds := [_]) ⟨hd, trivial⟩) rfl (by simpa using e1) e2 h.2
  | pop0 =>
    obtain ⟨r, rfl, h⟩ := tObj_ok h
    obtain ⟨v, d, rfl, hd, h⟩ := one_view hv h
    obtain ⟨i, u, rfl, rfl, h⟩ := int_view hd h
    obtain ⟨l, xs, n, hr, rfl, h1, hL, h⟩ := lst_view I ho h
    cases l with
    | nil => exact h.elim
    | cons v l =>
      obtain ⟨x, xs', rfl, hx, hxs⟩ := h1.cons_inv
      obtain ⟨n', e1, e2⟩ := isL_same (h' := s.heap) hL (fun x => x.eraseIdxIfInBounds 0)
      refine call_meets PySem.F.slot_list_pop ⟨_, hL, rfl⟩ PySem.F.entry_list_pop (PySem.F.args_list_pop_2 _ _) (PySem.MeetsSeq.list_pop_at (α _) _ n 0 u 0 x (by decide) (by simp [seqIndex?]) (by simp) (by have := h.1; unfold Fits at this; rw [List.size_toArray, List.length_cons, hxs.length]; show _ ≤ 16777216; lia)) ⟨hL, ?_⟩
      exact turnL (tk := s.toks) I hr (cs' := xs') hxs hx (by simpa using e1) e2 h.2
  | join =>
    obtain ⟨x, t, rfl, rfl, h⟩ := str_view ho h
    obtain ⟨v, d, rfl, hd, h⟩ := one_view hv h
    obtain ⟨r, rfl, h⟩ := tObj_ok h
    obtain ⟨l, xs, n, hr, rfl, h1, hL, ss, e, f1, hk⟩ := lst_view I hd h
    refine PyProof.Rows.join_listW hL.isList (strsV_are e h1) (by decide) ?_ fun t' k => ?_
    · rw [List.map_map, List.length_map]
      have : ss.map ((fun x : Str => x.length) ∘ fun x => ⟨x.toArray⟩) = ss.map List.length := List.map_congr_left fun x _ => strLen x
      rw [this, ← List.length_flatten]
      lia
    · have := join_flat ss
      rw [show (⟨([] : List Nat).toArray⟩ : Str) = ⟨#[]⟩ from rfl, this]
      exact Out.tok I (one_k hk) ⟨_, rfl⟩
  | lindex =>
    obtain ⟨r, rfl, h⟩ := tObj_ok h
    obtain ⟨v, d, rfl, hd, h⟩ := one_view hv h
    obtain ⟨i, u, rfl, h⟩ := int_view hd h
    obtain ⟨l, xs, n, hr, rfl, h1, hL, ns, e, hm, hf, hk⟩ := lst_view I ho h
    exact PyProof.Rows.index_list_ints hL.isList (intsV_are e h1) hf hm (Out.tok I (one_k hk) ⟨s.toks, rfl⟩)
  | sindex =>
    obtain ⟨l, t, rfl, h⟩ := str_view ho h
    obtain ⟨v, d, rfl, hd, h⟩ := one_view hv h
    obtain ⟨x, u, rfl, h⟩ := str_view hd h
    obtain ⟨c, rfl, rfl, h0, h1, hk⟩ := a1_ok h
    refine call_gives PySem.F.slot_str_index (typeIs_str _ _ _) PySem.F.entry_str_index (PySem.F.args_str_index_2 _ _) (gives_str_index _ _ _ _ _ [] (ap_found h0 h1)) ?_
    refine Out.tok I (one_k hk) ⟨s.toks, ?_⟩
    rw [Int.ofNat_sub h0]; rfl
end
end MI.Internal
end

section
set_option Elab.async false
set_option linter.all false
set_option maxRecDepth 10000
namespace MI.Internal
open PySem PySem.W PySem.Calls

section
variable {B : Base} {own : Addr → Prop} {α : Nat → Addr} {σ : Sto} {s : Shared} {A : Around} {K : VK} {env : Env} {Kf : Frag}

structure ClsOk (Kf : Frag) (C : Addr) : Prop where
  plain : plainGet Kf C "" = true
  hasd : hasDictIn Kf C = true
  over : plainOver Kf C = true
  sett : findIn Kf (.ref C) "__setattr__" = some (some (.builtin "object.__setattr__"))
noncomputable def nm (l : List Nat) : Str := ⟨l.toArray⟩
theorem nm_inj {a b : List Nat} (h : nm a = nm b) : a = b := by
  have := congrArg (fun x : Str => x.cps.toList) h
  simpa [nm] using this
theorem nm_beq (a b : List Nat) : (nm a == nm b) = decide (a = b) := by
  by_cases h : a = b
  · subst h; simp
  · have : nm a ≠ nm b := fun e => h (nm_inj e)
    simp [h, this]

theorem DR.get {n : Nat} {name : List Nat} : ∀ {es : List (List Nat × V)} {cs : List DictEntry}, DR α n es cs →
    (∀ v, es.lookup name = some v → ∃ c, getL (nm name) cs = some (some c) ∧ VR α n v c) ∧ (es.lookup name = none → getL (nm name) cs = some none) := by
  intro es
  have key : ∀ {es : List (List Nat × V)} {cs : List DictEntry}, DR α n es cs →
      (∀ v, es.lookup name = some v → ∃ e, cs.find? (·.key.isStr (nm name)) = some e ∧ VR α n v e.val) ∧ (es.lookup name = none → cs.find? (·.key.isStr (nm name)) = none) ∧ cs.any (·.refKey) = false := by
    intro es
    induction es with
    | nil =>
      intro cs h
      cases cs with
      | nil => exact ⟨fun v e => (nomatch e), fun _ => rfl, rfl⟩
      | cons _ _ => exact h.elim
    | cons e es ih =>
      intro cs h
      cases cs with
      | nil => exact h.elim
      | cons c cs =>
        obtain ⟨⟨t, hk⟩, hv, h⟩ := h
        obtain ⟨i1, i2, i3⟩ := ih h
        have hs : c.key.isStr (nm name) = decide (e.1 = name) := by
          rw [hk]
          show (nm e.1 == nm name) = _
          exact nm_beq _ _
        have hr : c.refKey = false := by unfold DictEntry.refKey; rw [hk]
        obtain ⟨e1, e2⟩ := e
        simp only [List.lookup_cons, List.find?_cons, hs, List.any_cons, hr, Bool.false_or]
        by_cases q : e1 = name
        · subst q
          simp only [beq_self_eq_true, decide_true]
          refine ⟨fun v hv' => ⟨c, rfl, ?_⟩, fun h => (nomatch h), i3⟩
          cases hv'
          exact hv
        · have q' : (name == e1) = false := by simp; exact fun h => q h.symm
          rw [q']
          simp only [q, decide_false]
          exact ⟨i1, i2, i3⟩
  intro cs h
  obtain ⟨i1, i2, i3⟩ := key h
  refine ⟨fun v hv => ?_, fun hn => ?_⟩
  · obtain ⟨e, a, b⟩ := i1 v hv
    exact ⟨e.val, by unfold getL; rw [a], b⟩
  · unfold getL
    rw [i2 hn]
    simp only []
    rw [i3]; rfl
theorem DR.length {n : Nat} : ∀ {es : List (List Nat × V)} {cs : List DictEntry}, DR α n es cs → cs.length = es.length
  | [], [], _ => rfl
  | _ :: _, _ :: _, ⟨_, _, h⟩ => by simp [DR.length h]
  | [], _ :: _, h => h.elim
  | _ :: _, [], h => h.elim
theorem DR.put {n : Nat} {name : List Nat} {v : V} {c : Value} {hs : Int} {t : Tok} (hv : VR α n v c) : ∀ {es : List (List Nat × V)} {cs : List DictEntry}, DR α n es cs → DR α n (putD name v es) (putL (nm name) hs (.str (nm name) t) c cs)
  | [], [], _ => ⟨⟨t, rfl⟩, hv, trivial⟩
  | e :: es, d :: cs, ⟨⟨u, hk⟩, hw, h⟩ => by
    have hq : d.key.isStr (nm name) = decide (e.1 = name) := by
      rw [hk]
      show (nm e.1 == nm name) = _
      exact nm_beq _ _
    simp only [putD, putL, hq]
    by_cases q : e.1 = name
    · simp only [q, decide_true, if_true]
      exact ⟨⟨u, by rw [hk, q]⟩, hv, h⟩
    · simp only [q, decide_false, if_false]
      exact ⟨⟨u, hk⟩, hw, DR.put hv h⟩
  | [], _ :: _, h => h.elim
  | _ :: _, [], h => h.elim

theorem handed_VR {n : Nat} {v : V} {c : Value} (h : VR α n v c) : handedIn c = true := by
  cases v with
  | none => cases h; rfl
  | bool b => cases h; rfl
  | int i => obtain ⟨t, rfl⟩ := h; rfl
  | str i => obtain ⟨t, rfl⟩ := h; rfl
  | bytes i => obtain ⟨t, rfl⟩ := h; rfl
  | obj r => obtain ⟨_, rfl⟩ := h; rfl

theorem instAt (I : SInv B α σ s) {r d : Nat} {es : List (List Nat × V)} {c : Value} (hr : σ[r]? = some (.inst d)) (hd : σ[d]? = some (.dict es)) (hc : VR α σ.length (.obj r) c) :
    Ex2 fun cs n => A4 (c = .ref (α r)) (DR α σ.length es cs) (s.heap.get? (α d) = some (dictOf cs n)) (InstAt s.heap (α r) { cls := .ref B.cls, dict := some (α d), data := .plain } B.cls (some (dictOf cs n))) := by
  obtain ⟨o, e, h1, h2⟩ := I.objs r _ hr
  obtain ⟨o', e', cs, n, h3, h4⟩ := I.objs d _ hd
  subst h2 h4
  exact ⟨cs, n, hc.2, h3, e', ⟨e, rfl, rfl, e'⟩⟩

theorem attS_ok (X : Kf.In s.heap) (C : ClsOk Kf B.cls) (I : SInv B α σ s) {a : V} {ca : Value} {name : List Nat} {ex : Bool} (hn : findIn Kf (.ref B.cls) (nm name) = some none) (ha : VR α σ.length a ca) (h : attS a name σ K) :
    W B A (getAttr ca (nm name) ex) s fun c s' => Out B own α σ s (one K) [c] s' := by
  unfold attS at h
  split at h
  · split at h
    · rename_i d hr
      split at h
      · rename_i es hd
        split at h
        · rename_i v hl
          obtain ⟨cs, n, rfl, h1, h2, h3⟩ := instAt I hr hd ha
          obtain ⟨c, e1, e2⟩ := h1.get.1 v hl
          refine get_value X h3 (plainGet_of C.plain).1 (findObj_own C.hasd hn rfl e1) (handed_VR e2) (Out.tok I (one_k h) e2)
        · exact h.elim
      · exact h.elim
    · exact h.elim
  · exact h.elim

theorem same_put {h : Heap} {dx : Addr} {cs : List DictEntry} {n : Nat} (e : h.get? dx = some (dictOf cs n)) (name : Str) (hs : Int) (key v : Value) :
    (h.update dx (Obj.putName name hs key v)).get? dx = some (dictOf (putL name hs key v cs) (putN name cs n)) ∧ ∀ b, b ≠ dx → (h.update dx (Obj.putName name hs key v)).get? b = h.get? b := by
  refine ⟨?_, fun b hb => Heap.get?_update_other _ _ (Ne.symm hb)⟩
  rw [← putName_dict]
  refine Heap.get?_update_self _ e ?_
  rw [putName_dict]
  rfl

theorem putL_len (name : Str) (hs : Int) (key v : Value) : ∀ cs : List DictEntry, (putL name hs key v cs).length ≤ cs.length + 1
  | [] => Nat.le_refl _
  | e :: r => by
    show (if e.key.isStr name then _ else _ : List DictEntry).length ≤ _
    split
    · simp
    · have := putL_len name hs key v r
      simp only [List.length_cons]; lia
theorem osa_own {x dx : Addr} {cs : List DictEntry} {n : Nat} {name : Str} {tk : Tok} {v : Value} {ox : Obj} {R : Result → Shared → Prop} (X : Kf.In s.heap) (I : InstAt s.heap x ox B.cls (some (dictOf cs n))) (hd : ox.dict = some dx) (C : ClsOk Kf B.cls)
    (ht : takerIn Kf B.cls name = some none) (hl : (getL name cs).isSome = true) (hz : cs.length ≤ 100)
    (h : ∀ h' key hs, (∃ t, key = .str name t) → h'.get? dx = some (dictOf (putL name hs key v cs) (putN name cs n)) → (∀ b, b ≠ dx → h'.get? b = s.heap.get? b) → R (.ok (.ret .none)) { s with heap := h', toks := s.toks + 1 }) :
    codeAny (model B.p B.w) A (.call (.builtin "object.__setattr__") ⟨[.ref x, .str name tk, v], []⟩) R s := by
  refine osa_open X I C.over ht fun b => ?_
  obtain ⟨cd, hc, hd'⟩ := any_some C.hasd
  have D : s.heap.get? dx = some (dictOf cs n) := by
    have := I.dict
    rw [hd] at this
    exact this
  obtain ⟨hx, hcl, hn, -⟩ := I
  obtain ⟨oc, odi, oda, osl⟩ := ox
  dsimp only at hcl hd
  subst hcl hd
  refine wpAny_bind (wpAny_pure (wpAny_bind (wpAny_bind (wpAny_loadPart hx (wpAny_bind ((looks_clsIn X hc).here ?_))))))
  rw [hd']
  refine wpAny_pure (a := some dx) (wpAny_bind (wpAny_pure (wpAny_bind ?_)))
  unfold nsSet
  refine wpAny_bind (wpAny_bind (wpAny_askSetting (wpAny_pure (wpAny_bind (wpAny_mkText (wpAny_bind (wpAny_loadPart D ?_)))))))
  dsimp only
  have c : (!cs.toArray.any (·.key.isStr name) && cs.toArray.any (·.refKey)) = false := by
    rw [← Array.any_toList, ← Array.any_toList]
    unfold getL at hl
    split at hl
    · rename_i en he
      rw [List.any_eq_true.mpr ⟨en, List.mem_of_find?_eq_some he, List.find?_some he⟩]; rfl
    · split at hl
      · cases hl
      · rename_i z; rw [Bool.not_eq_true] at z; rw [z, Bool.and_false]
  rw [aRefKeyMayBeTheName_at, c]
  obtain ⟨e1, e2⟩ := same_put D name (PyData.keyHash B.w.params name) (.str name s.toks) v
  refine wpAny_updatePart D ?_
  have hz' := putL_len name (PyData.keyHash B.w.params name) (.str name s.toks) v cs
  refine wpAny_bind (wpAny_lookBehind e1 (pastItsLine_dict (by rw [List.size_toArray, sizeLine_eq]; lia)) ?_)
  exact wpAny_pure (h _ _ _ ⟨_, rfl⟩ e1 e2)

theorem attP_ok (X : Kf.In s.heap) (C : ClsOk Kf B.cls) (I : SInv B α σ s) {a v : V} {ca cv : Value} {name : List Nat} {K : Sto → Prop} (hn : findIn Kf (.ref B.cls) (nm name) = some none) (ha : VR α σ.length a ca) (hv : VR α σ.length v cv) (h : attP a name v σ K) :
    W B A (setAttr ca (nm name) cv) s fun _ s' => Ex2 fun σ' α' => A3 (K σ') (SInv B α' σ' s') (Ext B own α σ s α' σ' s') := by
  unfold attP at h
  split at h
  · split at h
    · rename_i d hr
      split at h
      · rename_i es hd
        obtain ⟨cs, n, rfl, h1, h2, h3⟩ := instAt I hr hd ha
        have hl : (getL (nm name) cs).isSome = true := by
          cases q : es.lookup name with
          | none => rw [h1.get.2 q]; rfl
          | some v => obtain ⟨c, e, _⟩ := h1.get.1 v q; rw [e]; rfl
        have ht : takerIn Kf B.cls (nm name) = some none := by unfold takerIn; rw [hn]; rfl
        refine set_plain X h3 C.sett (osa_own (s := { s with toks := s.toks + 1 }) X h3 rfl C ht hl (by rw [h1.length]; lia) fun h' key hs hk e1 e2 => ?_)
        obtain ⟨t, rfl⟩ := hk
        exact ⟨_, α, h.2, I.turn hd (fun e => by cases e) (fun b hb o e => (e2 b hb).trans e) e1 ⟨_, _, h1.put hv, rfl⟩, Ext.turn (I.get hd) (fun b hb o e => (e2 b hb).trans e) e1⟩
      · exact h.elim
    · exact h.elim
  · exact h.elim

theorem putS_ok (I : SInv B α σ s) {a i v : V} {ca ci cv : Value} {K : Sto → Prop} (ha : VR α σ.length a ca) (hi : VR α σ.length i ci) (hv : VR α σ.length v cv) (h : putS a i v σ K) :
    W B A (setItem ca ci cv) s fun _ s' => Ex2 fun σ' α' => A3 (K σ') (SInv B α' σ' s') (Ext B own α σ s α' σ' s') := by
  unfold putS at h
  split at h
  · split at h
    · rename_i l hr
      obtain ⟨u, rfl⟩ := hi
      obtain ⟨cs, n, rfl, h1, ho⟩ := listAt I hr ha
      have hf := h.1.long
      refine ki_setAt ho h.2.1 (by lia) (by rw [List.size_toArray, h1.length]; exact h.2.2.1) ?_
      rename_i r k _
      obtain ⟨n', e1, e2⟩ := isL_same (h' := s.heap) ho (fun x => x.setIfInBounds k.toNat cv)
      have e1' : (s.heap.update (α r) (Obj.mapSeq fun x => x.setIfInBounds k.toNat cv)).get? (α r) = some { cls := .type "list", data := .seq (cs.set k.toNat cv).toArray n' } := by
        rw [e1]
        congr 3
        apply Array.ext'
        simp
      exact ⟨_, α, h.2.2.2, I.turn (tk := s.toks) (x := .list (l.set k.toNat v)) hr (fun e => by cases e) (fun b hb o e => (e2 b hb).trans e) e1' ⟨_, n', h1.set hv _, rfl⟩, Ext.turn (tk := s.toks) (I.get hr) (fun b hb o e => (e2 b hb).trans e) e1'⟩
    · exact h.elim
  · exact h.elim
end
end MI.Internal
end

section
set_option Elab.async false
set_option linter.all false
set_option maxRecDepth 10000
namespace MI.Internal
open PySem PySem.W PySem.Calls

section
variable {B : Base} {own : Addr → Prop} {α α' : Nat → Addr} {σ σ' : Sto} {s s' : Shared} {A : Around} {env : Env}

/-- what stands for an iterator -/
noncomputable def ItOk (α : Nat → Addr) (σ : Sto) : It → Addr → Heap → Prop
  | .lst r i, a, h => r < σ.length ∧ h.IsListIter a (α r) i
  | .tp r i, a, h => r < σ.length ∧ h.IsTupleIter a (α r) i
  | .str l, a, h => ∃ x t i, (h.IsStrIter a "str_ascii_iterator" x t i ∨ h.IsStrIter a "str_iterator" x t i) ∧ x.cps.toList.drop i = l
  | .byt l, a, h => ∃ b t i, KBw.IsBytesIter h a b t i ∧ b.toList.drop i = l
  | .rng c d n, a, h => IsRangeIter h a c n d
theorem ItOk.at {it : It} {a : Addr} {h : Heap} (x : ItOk α σ it a h) : ∃ o, h.get? a = some o := by
  cases it with
  | lst r i => obtain ⟨_, o, e, _⟩ := x; exact ⟨o, e⟩
  | tp r i => obtain ⟨_, o, e, _⟩ := x; exact ⟨o, e⟩
  | str l => obtain ⟨_, _, _, ⟨o, e, _⟩ | ⟨o, e, _⟩, _⟩ := x <;> exact ⟨o, e⟩
  | byt l => obtain ⟨_, _, _, ⟨o, e, _⟩, _⟩ := x; exact ⟨o, e⟩
  | rng c d n => exact ⟨_, x⟩
theorem ItOk.keep {it : It} {a : Addr} {h h' : Heap} (x : ItOk α σ it a h) (e : ∀ o, h.get? a = some o → h'.get? a = some o) (ha : ∀ r, r < σ.length → α' r = α r) (hl : σ.length ≤ σ'.length) : ItOk α' σ' it a h' := by
  cases it with
  | lst r i =>
    obtain ⟨hr, o, q, z⟩ := x
    exact ⟨Nat.lt_of_lt_of_le hr hl, o, e _ q, by rw [ha r hr]; exact z⟩
  | tp r i =>
    obtain ⟨hr, o, q, z⟩ := x
    exact ⟨Nat.lt_of_lt_of_le hr hl, o, e _ q, by rw [ha r hr]; exact z⟩
  | str l =>
    obtain ⟨y, t, i, ⟨o, q, z⟩ | ⟨o, q, z⟩, w⟩ := x
    · exact ⟨y, t, i, .inl ⟨o, e _ q, z⟩, w⟩
    · exact ⟨y, t, i, .inr ⟨o, e _ q, z⟩, w⟩
  | byt l =>
    obtain ⟨y, t, i, ⟨o, q, z⟩, w⟩ := x
    exact ⟨y, t, i, ⟨o, e _ q, z⟩, w⟩
  | rng c d n => exact e _ x

/-- an iterator, beside the store -/
structure ItAt (B : Base) (α : Nat → Addr) (σ : Sto) (it : It) (a : Addr) (s : Shared) : Prop where
  ok : ItOk α σ it a s.heap
  top : B.h₀.get? a = none
  off : ∀ r, r < σ.length → α r ≠ a
theorem ItAt.ext {it : It} {a : Addr} (x : ItAt B α σ it a s) (I : SInv B α σ s) (e : Ext B own α σ s α' σ' s') (hn : ¬ own a) : ItAt B α' σ' it a s' := by
  obtain ⟨o, ho⟩ := x.ok.at
  exact ⟨x.ok.keep (fun o h => e.keep a o h x.off hn (I.ntb x.top)) e.agree e.len, x.top, e.off I ho x.off hn⟩

/-- what an iterator's making leaves -/
inductive OutI (B : Base) (own : Addr → Prop) (α : Nat → Addr) (σ : Sto) (s : Shared) (K : It → Sto → Prop) (c : Value) (s' : Shared) : Prop
  | mk (it : It) (a : Addr) (σ' : Sto) (α' : Nat → Addr) (e : c = .ref a) (k : K it σ') (i : SInv B α' σ' s') (x : Ext B own α σ s α' σ' s') (y : ItAt B α' σ' it a s') (f : s.heap.get? a = none)
theorem OutI.new (I : SInv B α σ s) {it : It} {K : It → Sto → Prop} {o : Obj} {tk : Nat} (hf : o.isFreed = false) (k : K it σ) (h : ItOk α σ it s.heap.objs.size (s.heap.push o)) :
    OutI B own α σ s K (.ref s.heap.objs.size) { s with heap := s.heap.push o, toks := tk } := by
  have hk : ∀ b o', s.heap.get? b = some o' → (s.heap.push o).get? b = some o' := fun b o' e => Heap.get?_push_of_some _ e
  exact ⟨it, _, σ, α, rfl, k, I.grow (d := s.drawn) hk, .grow (d := s.drawn) hk, ⟨h, I.offTop (none_at _), I.off (none_at _)⟩, none_at _⟩

theorem tupAt (I : SInv B α σ s) {r : Nat} {l : List V} {c : Value} (hr : σ[r]? = some (.tup l)) (hc : VR α σ.length (.obj r) c) :
    Ex2 fun cs n => A3 (c = .ref (α r)) (VRs α σ.length l cs) (s.heap.get? (α r) = some { cls := .type "tuple", data := .seq cs.toArray n }) := by
  obtain ⟨o, e, cs, ep, h1, h2⟩ := I.objs r _ hr
  subst h2
  exact ⟨cs, ep, hc.2, h1, e⟩

theorem iter_ok {v : V} {c : Value} {K : It → Sto → Prop} (I : SInv B α σ s) (hv : VR α σ.length v c) (h : iterV v σ K) : W B A (pyIter c) s fun c s' => OutI B own α σ s K c s' := by
  unfold iterV at h
  split at h
  · obtain ⟨t, rfl⟩ := hv
    rename_i l
    refine wpAny_pyIter_strU (OutI.new (tk := s.toks) I rfl h.2 ?_)
    unfold strIterType
    split
    · exact ⟨_, t, 0, .inl ⟨_, Heap.get?_push_size _ rfl, rfl, rfl⟩, by simp⟩
    · exact ⟨_, t, 0, .inr ⟨_, Heap.get?_push_size _ rfl, rfl, rfl⟩, by simp⟩
  · obtain ⟨t, rfl⟩ := hv
    exact KBw.pyIter_bytes (OutI.new (tk := s.toks) I rfl h.2 ⟨_, t, 0, ⟨_, Heap.get?_push_size _ rfl, rfl, rfl⟩, by simp⟩)
  · have hc := hv
    split at h
    · rename_i l hr
      obtain ⟨cs, n, rfl, h1, ho⟩ := listAt I hr hc
      exact wpAny_pyIter_list ho.isList (OutI.new (tk := s.toks) I rfl h ⟨hc.1, _, Heap.get?_push_size _ rfl, rfl, rfl⟩)
    · rename_i l hr
      obtain ⟨cs, n, rfl, h1, ho⟩ := tupAt I hr hc
      exact wpAny_pyIter_tuple ⟨_, ho, rfl, _, rfl⟩ (OutI.new (tk := s.toks) I rfl h ⟨hc.1, _, Heap.get?_push_size _ rfl, rfl, rfl⟩)
    · exact h.elim
  · exact h.elim

theorem small_1 {a b : Int} (ha : Lo a) (hb : Lo b) : Builtin.Range.small a b 1 = true ∧ Builtin.Range.rangeSize a b 1 = ((b - a).toNat : Int) := by
  unfold Lo at ha hb
  have e : Builtin.Range.rangeSize a b 1 = ((b - a).toNat : Int) := by
    unfold Builtin.Range.rangeSize
    split
    · split <;> simp <;> lia
    · rename_i h; simp at h
  refine ⟨?_, e⟩
  unfold Builtin.Range.small
  rw [e]
  simp [Builtin.Range.rangeFitsLong]
  lia
theorem small_m1 {a b : Int} (ha : Lo a) (hb : Lo b) : Builtin.Range.small a b (-1) = true ∧ Builtin.Range.rangeSize a b (-1) = ((a - b).toNat : Int) := by
  unfold Lo at ha hb
  have e : Builtin.Range.rangeSize a b (-1) = ((a - b).toNat : Int) := by
    unfold Builtin.Range.rangeSize
    split
    · rename_i h; simp at h
    · split <;> simp <;> lia
  refine ⟨?_, e⟩
  unfold Builtin.Range.small
  rw [e]
  simp [Builtin.Range.rangeFitsLong]
  lia

/-- a range, and its iterator at once -/
theorem range_new (I : SInv B α σ s) {K : It → Sto → Prop} {a b c : Int} {t u v : Tok} {tk n : Nat} (hs : Builtin.Range.small a b c = true) (hz : Builtin.Range.rangeSize a b c = (n : Int)) (k : K (.rng a c n) σ) :
    W B A (pyIter (.ref s.heap.objs.size)) { s with heap := s.heap.push { cls := .type "range", data := .fields #[.int a t, .int b u, .int c v] }, toks := tk } fun c s' => OutI B own α σ s K c s' := by
  have hk : ∀ b' o', s.heap.get? b' = some o' → (s.heap.push { cls := .type "range", data := .fields #[.int a t, .int b u, .int c v] }).get? b' = some o' := fun b' o' e => Heap.get?_push_of_some _ e
  refine wpAny_pyIter_range (Heap.get?_push_size _ rfl) hs ?_
  have I' := I.grow (tk := tk) (d := s.drawn) hk
  obtain ⟨it, q, σ', α', e1, e2, e3, e4, e5, e6⟩ := OutI.new (own := own) (tk := tk) (it := .rng a c n) I' (o := { cls := .type "range_iterator", data := .fields #[rawInt a, rawInt (Builtin.Range.rangeSize a b c), rawInt c] }) rfl k (by rw [hz]; exact Heap.get?_push_size _ rfl)
  refine ⟨it, q, σ', α', e1, e2, e3, (Ext.grow (tk := tk) (d := s.drawn) hk).trans e4, e5, ?_⟩
  cases p : s.heap.get? q with
  | none => rfl
  | some o => have := hk _ _ p; rw [e6] at this; cases this
theorem range_ok {vs : List V} {cs : List Value} {K : It → Sto → Prop} (I : SInv B α σ s) (hv : VRs α σ.length vs cs) (h : iterR vs σ K) :
    W B A (call (.type "range") cs) s fun r s₁ => W B A (pyIter r) s₁ fun c s' => OutI B own α σ s K c s' := by
  cases vs with
  | nil => exact h.elim
  | cons x vs =>
    obtain ⟨d, cs', rfl, hd, h2⟩ := hv.cons_inv
    obtain ⟨i, t, rfl, h⟩ := int_view hd h
    cases vs with
    | nil =>
      cases VRs.nil_inv h2
      obtain ⟨a, b⟩ := small_1 (a := 0) (by unfold Lo; lia) h.1
      exact call_range_1 (range_new I a (by rw [b]; simp) h.2)
    | cons y vs =>
      obtain ⟨d, cs', rfl, hd, h3⟩ := h2.cons_inv
      obtain ⟨j, u, rfl, h⟩ := int_view hd h
      cases vs with
      | nil =>
        cases VRs.nil_inv h3
        obtain ⟨a, b⟩ := small_1 h.1 h.2.1
        exact call_range_2 (range_new I a b h.2.2)
      | cons z vs =>
        obtain ⟨z, d, rfl, hd, h⟩ := one_view h3 h
        obtain ⟨k, v, rfl, q1, q2, rfl, hk⟩ := int_view hd h
        obtain ⟨a, b⟩ := small_m1 q1 q2
        exact call_range_3 (by decide) (range_new I a b hk) (.inl (PyProof.noPylong_small (by decide)))

/-- the next one -/
noncomputable def OutN (B : Base) (α : Nat → Addr) (σ : Sto) (s : Shared) (a : Addr) (r : Option (V × It)) (o : Option Value) (s' : Shared) : Prop :=
  SInv B α σ s' ∧ Ext B (fun b => b = a) α σ s α σ s' ∧ match r with
    | none => o = none
    | some (v, it) => ∃ c, o = some c ∧ VR α σ.length v c ∧ ItAt B α σ it a s'
theorem OutN.same (I : SInv B α σ s) {it it' : It} {a : Addr} (X : ItAt B α σ it a s) {v : V} {c : Value} {h' : Heap} {tk : Nat} (hs : Heap.SameBut a s.heap h') (hv : VR α σ.length v c) (hi : ItOk α σ it' a h') :
    OutN B α σ s a (some (v, it')) (some c) { s with heap := h', toks := tk } := by
  obtain ⟨J, E⟩ := I.aside (tk := tk) (d := s.drawn) X.top X.off fun b o hb e => (hs.2 b hb).trans e
  exact ⟨J, E, c, rfl, hv, hi, X.top, X.off⟩
theorem OutN.done (I : SInv B α σ s) {it : It} {a : Addr} (X : ItAt B α σ it a s) {h' : Heap} {tk : Nat} (hs : Heap.ExtBut a s.heap h') : OutN B α σ s a none none { s with heap := h', toks := tk } := by
  obtain ⟨J, E⟩ := I.aside (tk := tk) (d := s.drawn) X.top X.off hs
  exact ⟨J, E, rfl⟩
theorem next_ok {it : It} {a : Addr} {r : Option (V × It)} (hA : A.handled = none) (I : SInv B α σ s) (X : ItAt B α σ it a s) (h : itNext σ it = some r) : W B A (pyNext (.ref a)) s (OutN B α σ s a r) := by
  obtain ⟨hok, htop, hoff⟩ := id X
  cases it with
  | lst r i =>
    obtain ⟨hr, hit⟩ := hok
    obtain ⟨l, hl, rfl⟩ := Option.map_eq_some_iff.mp h
    · obtain ⟨cs, n, _, h1, ho⟩ := listAt I (oLs_ok hl) ⟨hr, rfl⟩
      cases q : l[i]? with
      | none =>
        refine wpAny_pyNext_list_end hA hit ho.isList (by have := List.getElem?_eq_none_iff.mp q; simp [h1.length]; exact this) fun h' hs => OutN.done (tk := s.toks) I X hs
      | some v =>
        obtain ⟨c, e1, e2⟩ := h1.get q
        exact wpAny_pyNext_list_item hit ho.isList (by simpa using e1) fun h' hi hs => OutN.same (tk := s.toks) I X hs e2 ⟨hr, hi⟩
  | tp r i =>
    obtain ⟨hr, hit⟩ := hok
    obtain ⟨l, hl, rfl⟩ := Option.map_eq_some_iff.mp h
    · obtain ⟨cs, n, _, h1, ho⟩ := tupAt I (oTu_ok hl) ⟨hr, rfl⟩
      cases q : l[i]? with
      | none =>
        refine wpAny_pyNext_tuple_end hA hit ⟨_, ho, rfl, _, rfl⟩ (by have := List.getElem?_eq_none_iff.mp q; simp [h1.length]; exact this) fun h' hs => OutN.done (tk := s.toks) I X hs
      | some v =>
        obtain ⟨c, e1, e2⟩ := h1.get q
        exact wpAny_pyNext_tuple_item hit ⟨_, ho, rfl, _, rfl⟩ (by simpa using e1) fun h' hi hs => OutN.same (tk := s.toks) I X hs e2 ⟨hr, hi⟩
  | str l =>
    obtain ⟨x, t, i, hit, hd⟩ := hok
    cases l with
    | nil =>
      cases h
      have e : x.cps[i]? = none := by have := List.drop_eq_nil_iff.mp hd; simpa using this
      rcases hit with hit | hit
      · exact wpAny_pyNext_ascii_end hA hit e fun h' hs => OutN.done (tk := s.toks) I X hs
      · exact wpAny_pyNext_wide_end hA hit e fun h' hs => OutN.done (tk := s.toks) I X hs
    | cons c l =>
      cases h
      have hi : i < x.cps.toList.length := by
        rcases Nat.lt_or_ge i x.cps.toList.length with q | q
        · exact q
        · rw [List.drop_eq_nil_iff.mpr q] at hd; cases hd
      rw [List.drop_eq_getElem_cons hi] at hd
      cases hd
      have e : x.cps[i]? = some x.cps.toList[i] := by rw [← Array.getElem?_toList]; exact List.getElem?_eq_getElem hi
      rcases hit with hit | hit
      · exact wpAny_pyNext_ascii_item hit e fun h' hi hs => OutN.same (tk := s.toks + 1) I X hs ⟨_, rfl⟩ ⟨x, t, i + 1, .inl hi, rfl⟩
      · exact wpAny_pyNext_wide_item hit e fun h' hi hs => OutN.same (tk := s.toks + 1) I X hs ⟨_, rfl⟩ ⟨x, t, i + 1, .inr hi, rfl⟩
  | byt l =>
    obtain ⟨x, t, i, hit, hd⟩ := hok
    cases l with
    | nil =>
      cases h
      have e : x[i]? = none := by have := List.drop_eq_nil_iff.mp hd; simpa using this
      exact KBw.next_end hA hit e fun h' hs => OutN.done (tk := s.toks) I X hs
    | cons c l =>
      cases h
      have hi : i < x.toList.length := by
        rcases Nat.lt_or_ge i x.toList.length with q | q
        · exact q
        · rw [List.drop_eq_nil_iff.mpr q] at hd; cases hd
      rw [List.drop_eq_getElem_cons hi] at hd
      cases hd
      have e : x[i]? = some x.toList[i] := by rw [← Array.getElem?_toList]; exact List.getElem?_eq_getElem hi
      exact KBw.next_item hit e fun h' hi hs => OutN.same (tk := s.toks + 1) I X hs ⟨_, rfl⟩ ⟨x, t, i + 1, hi, rfl⟩
  | rng c d n =>
    cases n with
    | zero =>
      cases h
      exact wpAny_pyNext_range_end hA hok (by lia) fun h' hs => OutN.done (tk := s.toks) I X hs
    | succ n =>
      cases h
      refine wpAny_pyNext_range_item hok (by lia) fun h' hi hs => OutN.same (tk := s.toks + 1) I X hs ⟨_, rfl⟩ ?_
      have e : ((n + 1 : Nat) : Int) - 1 = (n : Int) := by lia
      rw [e] at hi
      exact hi
end
end MI.Internal
end

section
set_option Elab.async false
set_option linter.all false
set_option maxRecDepth 10000
namespace MI.Internal
open PySem PySem.W PySem.Calls

section
variable {B : Base} {own : Addr → Prop} {α α' : Nat → Addr} {σ σ' : Sto} {s s' : Shared} {A : Around} {env : Env} {mg mb : Str → Option Value} {Kf : Frag} {Γ : Fm} {ρ : Lv}

/-! ### names that are bound -/
theorem EnvOk.weak {ρ' : Lv} {n : Nat} {h : Heap} (x : EnvOk B Γ ρ α n env h) (hl : ρ'.length = ρ.length) (hv : ∀ (i : Nat) (v : V), ρ'[i]? = some (some v) → ρ[i]? = some (some v)) : EnvOk B Γ ρ' α n env h := by
  refine ⟨x.sc, x.fn, x.glob, x.blt, hl.trans x.len, ?_, fun i y h1 h2 => ?_, x.locT, x.locO, x.cellT, x.apart⟩
  · obtain ⟨m, a, b⟩ := x.loc
    exact ⟨m, a, fun i y h1 h2 v h3 => b i y h1 h2 v (hv i v h3)⟩
  · obtain ⟨c, v₀, a, b, q⟩ := x.cell i y h1 h2
    exact ⟨c, v₀, a, b, fun v h3 => q v (hv i v h3)⟩

/-- the places of a row of names -/
noncomputable def Places (Γ : Fm) : List Nat → List Str → Prop
  | [], [] => True
  | i :: is, x :: xs => Γ.names[i]? = some x ∧ (Γ.kind x = some .local ∨ Γ.kind x = some .cell) ∧ Γ.uniq i x = true ∧ x ∈ Γ.st ∧ Places Γ is xs
  | _, _ => False
noncomputable def placesB (Γ : Fm) : List Nat → List Str → Bool
  | [], [] => true
  | i :: is, x :: xs => Γ.names[i]? == some x && (Γ.kind x == some .local || Γ.kind x == some .cell) && Γ.uniq i x && Γ.st.contains x && placesB Γ is xs
  | _, _ => false
theorem places_of : ∀ {is : List Nat} {xs : List Str}, placesB Γ is xs = true → Places Γ is xs
  | [], [], _ => trivial
  | i :: is, x :: xs, h => by
    have h : (Γ.names[i]? == some x && (Γ.kind x == some .local || Γ.kind x == some .cell) && Γ.uniq i x && Γ.st.contains x && placesB Γ is xs) = true := h
    simp only [Bool.and_eq_true, Bool.or_eq_true, beq_iff_eq] at h
    exact ⟨h.1.1.1.1, h.1.1.1.2, h.1.1.2, by simpa using h.1.2, places_of h.2⟩
  | [], _ :: _, h => by cases h
  | _ :: _, [], h => by cases h

/-- a statement's end, beside its value -/
inductive Kept (B : Base) (Γ : Fm) (env : Env) (α : Nat → Addr) (σ : Sto) (s : Shared) (ρ' : Lv) (σ' : Sto) (s' : Shared) : Prop
  | mk (α' : Nat → Addr) (i : SInv B α' σ' s') (e : EnvOk B Γ ρ' α' σ'.length env s'.heap) (x : Ext B (ownOf Γ env) α σ s α' σ' s')

theorem bind_ok (G : Gr B mg mb Kf) (T : Nat) : ∀ {is : List Nat} {xs : List Str} {fs : List (Value → Sem Unit)} {vs : List V} {cs : List Value} {α : Nat → Addr} {s : Shared} {ρ : Lv}, Places Γ is xs → fs.length = xs.length →
    (∀ (j : Nat) f x, fs[j]? = some f → xs[j]? = some x → ∀ (v : Value) (s : Shared) (Q : Unit → Shared → Prop), W B A (storeName env x v) s Q → W B A (f v) s Q) →
    SInv B α σ s → EnvOk B Γ ρ α σ.length env s.heap → vs.length = is.length → VRs α σ.length vs cs →
    W B A (assignInOrder fs cs) s fun _ s' => Kept B Γ env α σ s (setsL is vs ρ) σ s'
  | [], [], [], [], [], α, s, ρ, _, _, _, I, E, _, _ => by
    exact wpAny_assignInOrder_none ⟨α, I, E, .refl⟩
  | i :: is, x :: xs, f :: fs, v :: vs, c :: cs, α, s, ρ, ⟨p1, p2, p3, p5, p4⟩, hl, hf, I, E, hn, ⟨hv, hvs⟩ => by
    refine wpAny_assignInOrder_more ?_
    refine hf 0 f x rfl rfl c s _ (store_ok G I E p1 p2 p3 p5 hv fun s' J E' X => ?_)
    have := bind_ok G T (α := α) (s := s') p4 (by simpa using hl) (fun j g y h1 h2 => hf (j + 1) g y (by simpa using h1) (by simpa using h2)) J E' (by simpa using hn) hvs
    exact wpAny_mono this (fun _ s'' ⟨α', a, b, e⟩ => ⟨α', a, b, X.trans e⟩) fun _ _ q => q
  | [], [], _ :: _, _, _, _, _, _, _, hl, _, _, _, _, _ => by simp at hl
  | _ :: _, _ :: _, [], _, _, _, _, _, _, hl, _, _, _, _, _ => by simp at hl
  | [], [], [], _ :: _, _, _, _, _, _, _, _, _, _, hn, _ => by simp at hn
  | [], [], [], [], _ :: _, _, _, _, _, _, _, _, _, _, h => h.elim
  | _ :: _, _ :: _, _ :: _, [], _, _, _, _, _, _, _, _, _, hn, _ => by simp at hn
  | _ :: _, _ :: _, _ :: _, _ :: _, [], _, _, _, _, _, _, _, _, _, h => h.elim
  | [], _ :: _, _, _, _, _, _, _, h, _, _, _, _, _, _ => h.elim
  | _ :: _, [], _, _, _, _, _, _, h, _, _, _, _, _, _ => h.elim

/-- the names of a target -/
noncomputable def namesE : List Expr → Option (List Str)
  | [] => some []
  | .Name x _ :: es => (namesE es).map (x :: ·)
  | _ => none
noncomputable def tgtNames : Expr → Option (List Str)
  | .Name x _ => some [x]
  | .Tuple es _ _ => namesE es
  | _ => none
theorem each_names : ∀ {es : List Expr} {xs : List Str}, namesE es = some xs → ((assignEach es env).map (·.2)).length = xs.length ∧ (assignEach es env).findIdx? (·.1) = none ∧
    ∀ (j : Nat) f x, ((assignEach es env).map (·.2))[j]? = some f → xs[j]? = some x → ∀ (v : Value) (s : Shared) (Q : Unit → Shared → Prop), W B A (storeName env x v) s Q → W B A (f v) s Q
  | [], xs, h => by
    cases (show some [] = some xs from h)
    exact ⟨rfl, rfl, fun j f x h => by cases (show none = some f from h)⟩
  | e :: es, xs, h => by
    cases e with
    | Name x p =>
      have h : (namesE es).map (x :: ·) = some xs := h
      obtain ⟨ys, h', rfl⟩ := Option.map_eq_some_iff.mp h
      obtain ⟨a, b, c⟩ := each_names h'
      have e1 : assignEach (.Name x p :: es) env = (false, assign (.Name x p) env) :: assignEach es env := rfl
      rw [e1]
      refine ⟨by simp at a ⊢; exact a, by rw [List.findIdx?_cons]; simp [b], fun j f y h1 h2 => ?_⟩
      cases j with
      | zero =>
        simp at h1 h2
        subst h1 h2
        intro v s Q q
        exact wpAny_assign_Name q
      | succ j => exact c j f y (by simpa using h1) (by simpa using h2)
    | _ => cases h

theorem vals_ok (hA : A.handled = none) (I : SInv B α σ s) {v : V} {c : Value} {n : Nat} {K : List V → Sto → Prop} (hn : n ≠ 1) (hv : VR α σ.length v c) (h : bindV n v σ K) {Q : List Value → Shared → Prop}
    (k : ∀ vs cs h', K vs σ → vs.length = n → VRs α σ.length vs cs → (∀ b o, s.heap.get? b = some o → h'.get? b = some o) → Q cs { s with heap := h' }) : W B A (unpackItems c n none) s Q := by
  have old : ∀ h', Heap.ExtBut s.heap.objs.size s.heap h' → ∀ b o, s.heap.get? b = some o → h'.get? b = some o := fun h' hx b o e => hx b o (fun q => by rw [q, none_at] at e; cases e) e
  unfold bindV at h
  split at h
  · exact absurd rfl hn
  · split at h
    · split at h
      · rename_i l hr
        obtain ⟨cs, q, rfl, h1, ho⟩ := tupAt I hr hv
        have e : n = cs.toArray.size := by rw [List.size_toArray, h1.length]; exact h.1.symm
        rw [e]
        refine wpAny_unpackItems_tuple hA ⟨_, ho, rfl, _, rfl⟩ fun h' hx => ?_
        exact k l cs h' h.2 h.1 h1 (old h' hx)
      · rename_i l hr
        obtain ⟨cs, q, rfl, h1, ho⟩ := listAt I hr hv
        have e : n = cs.toArray.size := by rw [List.size_toArray, h1.length]; exact h.1.symm
        rw [e]
        refine kun_itemsOf hA ho.isList fun h' hx => ?_
        exact k l cs h' h.2 h.1 h1 (old h' hx)
      · exact h.elim
    · exact h.elim

/-- a target is bound -/
theorem target_ok (G : Gr B mg mb Kf) (hA : A.handled = none) (I : SInv B α σ s) (E : EnvOk B Γ ρ α σ.length env s.heap) {t : Expr} {xs : List Str} {is : List Nat} {v : V} {c : Value} {K : List V → Sto → Prop} (ht : tgtNames t = some xs) (hp : Places Γ is xs)
    (hv : VR α σ.length v c) (h : bindV is.length v σ K) (hl : is.length = xs.length) (h2 : xs.length = 1 → ∃ x p, t = .Name x p) :
    W B A (assign t env c) s fun _ s' => ∃ vs, A3 (K vs σ) (vs.length = is.length) (Kept B Γ env α σ s (setsL is vs ρ) σ s') := by
  cases t with
  | Name x p =>
    cases (show some [x] = some xs from ht)
    match is, hl with
    | [i], _ =>
      refine wpAny_assign_Name (store_ok G I E hp.1 hp.2.1 hp.2.2.1 hp.2.2.2.1 hv fun s' J E' X => ⟨[v], h, rfl, α, J, E', X⟩)
  | Tuple es k p =>
    have hn : is.length ≠ 1 := fun e => by
      obtain ⟨x, q, e'⟩ := h2 (hl ▸ e)
      cases e'
    obtain ⟨a, b, d⟩ := each_names (B := B) (A := A) (env := env) ht
    show W B A (do standAt p; unpack c (assignEach es env)) s _
    refine wpAny_bind (wpAny_standAt ?_)
    unfold unpack
    rw [b]
    have e : (assignEach es env).length = is.length := by rw [hl, ← a, List.length_map]
    rw [e]
    refine wpAny_bind (wpAny_holding (vals_ok hA I hn hv h fun vs cs h' hk hlen hvs keep => ?_))
    have J := I.grow (tk := s.toks) (d := s.drawn) keep
    have X : Ext B noOwn α σ s α σ { s with heap := h' } := .grow (tk := s.toks) (d := s.drawn) keep
    have := bind_ok G 0 (A := A) hp a d J (E.ext I X) hlen hvs
    exact wpAny_mono this (fun _ s'' ⟨α', q1, q2, q3⟩ => ⟨vs, hk, hlen, α', q1, q2, X.lift.trans q3⟩) fun _ _ q => q
  | _ => cases ht
end
end MI.Internal
end

section
set_option Elab.async false
set_option linter.all false
set_option maxRecDepth 10000
namespace MI.Internal
open PySem PySem.W PySem.Calls

section
variable {B : Base} {own : Addr → Prop} {α α' : Nat → Addr} {σ σ' : Sto} {s s' : Shared} {A : Around} {env : Env} {mg mb : Str → Option Value} {Kf : Frag} {Γ : Fm} {ρ : Lv}

/-! ### a comprehension's own names -/
noncomputable def relab (Γ : Fm) (sc : Scope) : Scope :=
  { sc with names := sc.names.map fun (n, k) => if (k == .free && Γ.sc.kind == .function && Γ.kind n == some .cell) then (n, .cell) else (n, k) }
theorem relab_eq {sc : Scope} (h : env.scope = Γ.sc) : relabel sc env = relab Γ sc := by
  unfold relabel relab Fm.kind Env.kindOf
  rw [h]
noncomputable def maskN (xs : List Str) (y : Str) : Str := if xs.contains y then Str.empty else y
noncomputable def compFm (Γ : Fm) (sc : Scope) (xs : List Str) : Fm := ⟨Γ.names.map (maskN xs) ++ xs, relab Γ sc, xs⟩
noncomputable def closL (env : Env) : List (Str × NameKind) → List (Str × Addr) → List (Str × Addr)
  | [], acc => acc
  | (n, k) :: r, acc => if k == .free then closL env r ((n, (env.cells.lookup n).getD 0) :: acc) else closL env r acc
theorem closL_free {env : Env} {n : Str} {k : NameKind} {r : List (Str × NameKind)} {acc : List (Str × Addr)} (q : (k == .free) = true) : closL env ((n, k) :: r) acc = closL env r ((n, (env.cells.lookup n).getD 0) :: acc) := if_pos q
theorem closL_other {env : Env} {n : Str} {k : NameKind} {r : List (Str × NameKind)} {acc : List (Str × Addr)} (q : ¬ (k == .free) = true) : closL env ((n, k) :: r) acc = closL env r acc := if_neg q
theorem closure_eq {sc : Scope} (h : ∀ n, (n, NameKind.free) ∈ sc.names → (env.cells.lookup n).isSome = true) : closureFor sc env = pure (closL env sc.names []) := by
  have key : ∀ (names : List (Str × NameKind)) (acc : List (Str × Addr)), (∀ n, (n, NameKind.free) ∈ names → (env.cells.lookup n).isSome = true) →
      (forIn names acc (fun (x : Str × NameKind) (cs : List (Str × Addr)) => if x.2 == .free then (do let c ← cellOf env x.1; pure (ForInStep.yield ((x.1, c) :: cs))) else pure (.yield cs)) : Sem (List (Str × Addr))) = pure (closL env names acc) := by
    intro names
    induction names with
    | nil => intro acc _; rfl
    | cons p names ih =>
      intro acc h
      obtain ⟨n, k⟩ := p
      rw [List.forIn_cons]
      by_cases q : (k == NameKind.free) = true
      · have hk : k = .free := by simpa using q
        subst hk
        obtain ⟨c, hc⟩ := Option.isSome_iff_exists.mp (h n (.head _))
        rw [closL_free q]
        have : cellOf env n = pure c := by unfold cellOf; rw [hc]
        simp only [if_pos q, this, pure_bind]
        rw [ih _ (fun n hn => h n (.tail _ hn)), hc]
        rfl
      · rw [closL_other q]
        simp only [q, Bool.false_eq_true, if_false, pure_bind]
        exact ih _ (fun n hn => h n (.tail _ hn))
  have := key sc.names [] h
  unfold closureFor
  have e : (forIn sc.names [] (fun (x : Str × NameKind) (cs : List (Str × Addr)) => if x.2 == .free then (do let c ← cellOf env x.1; pure (ForInStep.yield ((x.1, c) :: cs))) else pure (.yield cs)) : Sem (List (Str × Addr))) >>= pure = pure (closL env sc.names []) := by
    rw [this]; rfl
  refine Eq.trans ?_ e
  congr 2

theorem clos_lookup {x : Str} : ∀ (names : List (Str × NameKind)) (acc : List (Str × Addr)), (∀ n, (n, NameKind.free) ∈ names → (env.cells.lookup n).isSome = true) →
    ∀ c, (closL env names acc).lookup x = some c → acc.lookup x = some c ∨ ((x, NameKind.free) ∈ names ∧ env.cells.lookup x = some c)
  | [], acc, _, c, h => .inl h
  | (n, k) :: r, acc, hf, c, h => by
    by_cases q : (k == NameKind.free) = true
    · have hk : k = .free := by simpa using q
      subst hk
      rw [closL_free q] at h
      rcases clos_lookup r _ (fun n hn => hf n (.tail _ hn)) c h with h1 | ⟨h1, h2⟩
      · rw [List.lookup_cons] at h1
        cases e : x == n with
        | true =>
          rw [e] at h1
          have : x = n := by simpa using e
          subst this
          obtain ⟨d, hd⟩ := Option.isSome_iff_exists.mp (hf x (.head _))
          rw [hd] at h1
          exact .inr ⟨.head _, by rw [hd]; exact h1⟩
        | false => rw [e] at h1; exact .inl h1
      · exact .inr ⟨.tail _ h1, h2⟩
    · rw [closL_other q] at h
      rcases clos_lookup r _ (fun n hn => hf n (.tail _ hn)) c h with h1 | ⟨h1, h2⟩
      · exact .inl h1
      · exact .inr ⟨.tail _ h1, h2⟩
theorem clos_some {x : Str} : ∀ (names : List (Str × NameKind)) (acc : List (Str × Addr)), ((x, NameKind.free) ∈ names ∨ (acc.lookup x).isSome = true) → ((closL env names acc).lookup x).isSome = true
  | [], acc, h => h.elim (fun q => nomatch q) id
  | (n, k) :: r, acc, h => by
    by_cases q : (k == NameKind.free) = true
    · rw [closL_free q]
      refine clos_some r _ ?_
      rw [List.lookup_cons]
      cases e : x == n with
      | true => exact .inr rfl
      | false =>
        rcases h with h | h
        · rcases List.mem_cons.mp h with h | h
          · cases h; simp at e
          · exact .inl h
        · exact .inr h
    · rw [closL_other q]
      refine clos_some r _ ?_
      rcases h with h | h
      · rcases List.mem_cons.mp h with h | h
        · cases h; simp at q
        · exact .inl h
      · exact .inr h
theorem cells_app : ∀ (names : List (Str × NameKind)) (n : Nat) (acc : List (Str × Addr)), cellsFrom n names acc = cellsFrom n names [] ++ acc
  | [], _, _ => rfl
  | (x, k) :: r, n, acc => by
    simp only [cellsFrom]
    split
    · rw [cells_app r _ ((x, n) :: acc), cells_app r _ [(x, n)], List.append_assoc]; rfl
    · exact cells_app r _ _
theorem cells_mem {x : Str} {c : Addr} : ∀ (names : List (Str × NameKind)) (n : Nat) (acc : List (Str × Addr)), (x, c) ∈ cellsFrom n names acc → (x, c) ∈ acc ∨ (x, NameKind.cell) ∈ names
  | [], _, _, h => .inl h
  | (y, k) :: r, n, acc, h => by
    simp only [cellsFrom] at h
    split at h
    · rename_i q
      have hk : k = .cell := by simpa using q
      subst hk
      rcases cells_mem r _ _ h with h1 | h1
      · rcases List.mem_cons.mp h1 with h2 | h2
        · cases h2; exact .inr (.head _)
        · exact .inl h2
      · exact .inr (.tail _ h1)
    · rcases cells_mem r _ _ h with h1 | h1
      · exact .inl h1
      · exact .inr (.tail _ h1)
theorem cells_some {x : Str} : ∀ (names : List (Str × NameKind)) (n : Nat) (acc : List (Str × Addr)), ((x, NameKind.cell) ∈ names ∨ (acc.lookup x).isSome = true) → ((cellsFrom n names acc).lookup x).isSome = true
  | [], _, _, h => h.elim (fun q => nomatch q) id
  | (y, k) :: r, n, acc, h => by
    simp only [cellsFrom]
    split
    · refine cells_some r _ _ ?_
      rw [List.lookup_cons]
      cases e : x == y with
      | true => exact .inr rfl
      | false =>
        rcases h with h | h
        · rcases List.mem_cons.mp h with h | h
          · cases h; simp at e
          · exact .inl h
        · exact .inr h
    · rename_i q
      refine cells_some r _ _ ?_
      rcases h with h | h
      · rcases List.mem_cons.mp h with h | h
        · cases h; simp at q
        · exact .inl h
      · exact .inr h

/-- what is asked of a comprehension's scope -/
noncomputable def scOk (Γ : Fm) (sc : Scope) (xs : List Str) : Bool :=
  sc.kind == .function && sc.names.all (fun p => (p.2 != .local || sc.names.lookup p.1 == some .local) && sc.names.lookup p.1 == some p.2 && (p.2 != .free || ((Γ.kind p.1 == some .cell || Γ.kind p.1 == some .free) && Γ.names.contains p.1 && !xs.contains p.1)) &&
    ((p.2 != .cell && p.2 != .local) || xs.contains p.1 || (p.2 == .local && p.1 == (".0" : Str)))) &&
  xs.all (fun x => (sc.names.lookup x == some .local || sc.names.lookup x == some .cell) && x != Str.empty) && (sc.names.lookup Str.empty).isNone && !Γ.names.contains (".0" : Str)
noncomputable def compNew (sc : Scope) (C : Addr) (cl : List (Str × Addr)) (env : Env) : Env :=
  { scope := sc, locals := C, globals := env.globals, cells := cellsFrom (C + 1) sc.names cl, qual := env.qual, func := none, code := env.code, frame := env.frame, builtins := env.builtins }
theorem newComp_ok {sc : Scope} {cl : List (Str × Addr)} {Q : Env → Shared → Prop}
    (h : Q (compNew sc s.heap.objs.size cl env) { s with heap := pushCells (s.heap.push { cls := .type "dict", data := .dict #[] }) sc.names }) :
    W B A (newFunctionEnv sc env.globals cl [] env.qual none .none (some env)) s Q := by
  show wpAny _ _ _ _ _ _
  simp only [newFunctionEnv, Option.isSome_some, if_true]
  refine wpAny_bind (wpAny_alloc ?_)
  refine wpAny_bind (wpAny_layCells _ (fun name kind cells => by cases hkc : kind == NameKind.cell <;> simp [hkc]) _ _ _ _ ?_)
  rw [show ({ s with heap := s.heap.push { cls := .type "dict", data := .dict #[] } } : Shared).heap.objs.size = s.heap.objs.size + 1 from Heap.size_push ..]
  exact wpAny_bind (wpAny_pure (wpAny_pure h))

theorem lookup_relab {sc : Scope} {x : Str} : (relab Γ sc).names.lookup x = (sc.names.lookup x).map fun k => if (k == .free && Γ.sc.kind == .function && Γ.kind x == some .cell) then .cell else k := by
  unfold relab
  simp only []
  induction sc.names with
  | nil => rfl
  | cons p r ih =>
    obtain ⟨n, k⟩ := p
    rw [List.map_cons]
    have e : (if (k == NameKind.free && Γ.sc.kind == .function && Γ.kind n == some .cell) = true then (n, NameKind.cell) else (n, k)) = (n, if (k == NameKind.free && Γ.sc.kind == .function && Γ.kind n == some .cell) = true then NameKind.cell else k) := by
      split <;> rfl
    rw [e, List.lookup_cons, List.lookup_cons]
    cases q : x == n with
    | true =>
      have : x = n := by simpa using q
      subst this
      rfl
    | false => exact ih

theorem compEnv_ok {sc : Scope} {xs : List Str} (I : SInv B α σ s) (E : EnvOk B Γ ρ α σ.length env s.heap) (hs : scOk Γ sc xs = true) :
    (∀ n, (n, NameKind.free) ∈ sc.names → (env.cells.lookup n).isSome = true) ∧
    ∀ h', h' = pushCells (s.heap.push { cls := .type "dict", data := .dict #[] }) sc.names →
      (∀ b o, s.heap.get? b = some o → h'.get? b = some o) ∧
      EnvOk B (compFm Γ sc xs) (ρ ++ xs.map fun _ => none) α σ.length { compNew sc s.heap.objs.size (closL env sc.names []) env with scope := relabel sc env } h' ∧
      (∀ b, ownOf (compFm Γ sc xs) { compNew sc s.heap.objs.size (closL env sc.names []) env with scope := relabel sc env } b → s.heap.get? b = none) ∧
      ∀ b o, s.heap.get? b = some o → OffEnv Γ env b → OffEnv (compFm Γ sc xs) { compNew sc s.heap.objs.size (closL env sc.names []) env with scope := relabel sc env } b := by
  simp only [scOk, Bool.and_eq_true, List.all_eq_true, beq_iff_eq, Option.isNone_iff_eq_none, Bool.not_eq_true'] at hs
  obtain ⟨⟨⟨⟨hk, hn⟩, hx⟩, he⟩, hdot⟩ := hs
  have free : ∀ n, (n, NameKind.free) ∈ sc.names → isCell (Γ.kind n) ∧ n ∈ Γ.names ∧ n ∉ xs := fun n h => by
    have := (hn _ h).1.2
    simp at this
    exact ⟨this.1.1, this.1.2, this.2⟩
  have hfree : ∀ n, (n, NameKind.free) ∈ sc.names → (env.cells.lookup n).isSome = true := fun n h => by
    obtain ⟨a, b, _⟩ := free n h
    obtain ⟨i, hi⟩ := List.mem_iff_getElem?.mp b
    obtain ⟨c, _, e, _⟩ := E.cell i n hi a
    rw [e]; rfl
  refine ⟨hfree, fun h' e' => ?_⟩
  subst e'
  have keep0 : ∀ b o, s.heap.get? b = some o → (s.heap.push { cls := .type "dict", data := .dict #[] }).get? b = some o := fun b o e => Heap.get?_push_of_some _ e
  have keep : ∀ b o, s.heap.get? b = some o → (pushCells (s.heap.push { cls := .type "dict", data := .dict #[] }) sc.names).get? b = some o := fun b o e => pushCells_keeps _ _ _ _ (keep0 b o e)
  refine ⟨keep, ?_⟩
  have ok := cellsFrom_ok sc.names (s.heap.push { cls := .type "dict", data := .dict #[] }) (s.heap.objs.size + 1) [] ⟨fun _ _ hm => (nomatch hm), List.Pairwise.nil⟩ (by rw [Heap.size_push]; exact Nat.le_refl _)
  rw [Heap.size_push] at ok
  have newc : ∀ y c, (y, c) ∈ cellsFrom (s.heap.objs.size + 1) sc.names [] → s.heap.get? c = none ∧ s.heap.objs.size < c := fun y c h => by
    have := (ok.empty y c h).2
    exact ⟨by cases q : s.heap.get? c with | none => rfl | some o => exact absurd (Heap.lt_size q) (Nat.not_lt.mpr (Nat.le_of_succ_le this)), by lia⟩
  -- the cells of the new environment
  have cells : ∀ y c, (cellsFrom (s.heap.objs.size + 1) sc.names (closL env sc.names [])).lookup y = some c →
      (y, c) ∈ cellsFrom (s.heap.objs.size + 1) sc.names [] ∨ ((y, NameKind.free) ∈ sc.names ∧ env.cells.lookup y = some c) := fun y c h => by
    rw [cells_app, List.lookup_append] at h
    cases q : (cellsFrom (s.heap.objs.size + 1) sc.names []).lookup y with
    | some d =>
      rw [q] at h
      cases h
      exact .inl (mem_of_lookup q)
    | none =>
      rw [q] at h
      rcases clos_lookup sc.names [] hfree c h with h1 | h1
      · cases h1
      · exact .inr h1
  have kindR : ∀ y k, (compFm Γ sc xs).kind y = some k → ∃ k', sc.names.lookup y = some k' ∧ k = if (k' == .free && Γ.sc.kind == .function && Γ.kind y == some .cell) then .cell else k' := fun y k h => by
    have h' : (relab Γ sc).names.lookup y = some k := h
    rw [lookup_relab] at h'
    obtain ⟨k', a, b⟩ := Option.map_eq_some_iff.mp h'
    exact ⟨k', a, b.symm⟩
  have liveC : ∀ y c, (y, NameKind.free) ∈ sc.names → env.cells.lookup y = some c → ∃ o, s.heap.get? c = some o := fun y c h1 h2 => by
    obtain ⟨a, b, _⟩ := free y h1
    obtain ⟨i, hi⟩ := List.mem_iff_getElem?.mp b
    obtain ⟨c', _, e, ⟨o, ho, _⟩, _⟩ := E.cell i y hi a
    rw [h2] at e; cases e
    exact ⟨o, ho⟩
  have lenN : (compFm Γ sc xs).names.length = Γ.names.length + xs.length := by simp [compFm]
  -- the names: either an outer one that is not hidden, or one of the target's
  have nameAt : ∀ (i : Nat) (y : Str), (compFm Γ sc xs).names[i]? = some y → (i < Γ.names.length ∧ ∃ z, Γ.names[i]? = some z ∧ maskN xs z = y) ∨ (Γ.names.length ≤ i ∧ xs[i - Γ.names.length]? = some y) := fun i y h => by
    simp only [compFm, List.getElem?_append, List.length_map] at h
    split at h
    · rename_i q
      rw [List.getElem?_map] at h
      obtain ⟨z, a, b⟩ := Option.map_eq_some_iff.mp h
      exact .inl ⟨q, z, a, b⟩
    · rename_i q
      exact .inr ⟨Nat.le_of_not_lt q, h⟩
  have unmask : ∀ z y, maskN xs z = y → y ≠ Str.empty → z = y ∧ y ∉ xs := fun z y h hy => by
    unfold maskN at h
    split at h
    · exact absurd h.symm hy
    · rename_i q
      subst h
      exact ⟨rfl, by simpa using q⟩
  have noEmpty : ∀ y k, (compFm Γ sc xs).kind y = some k → y ≠ Str.empty := fun y k h e => by
    obtain ⟨k', a, _⟩ := kindR y k h
    rw [e, he] at a; cases a
  have valAt : ∀ (i : Nat) (v : V), (ρ ++ xs.map fun _ => (none : Option V))[i]? = some (some v) → i < Γ.names.length ∧ ρ[i]? = some (some v) := fun i v h => by
    rw [List.getElem?_append] at h
    split at h
    · rename_i q
      exact ⟨by rw [← E.len]; exact q, h⟩
    · rw [List.getElem?_map] at h
      obtain ⟨_, _, q⟩ := Option.map_eq_some_iff.mp h
      cases q
  -- a captured name's cell
  have capt : ∀ (i : Nat) (y : Str), Γ.names[i]? = some y → y ∉ xs → isCell ((compFm Γ sc xs).kind y) → (y, NameKind.free) ∈ sc.names ∧ isCell (Γ.kind y) := fun i y h1 h2 h3 => by
    have : ∃ k, (compFm Γ sc xs).kind y = some k ∧ (k = .cell ∨ k = .free) := by
      rcases h3 with h3 | h3
      · exact ⟨_, h3, .inl rfl⟩
      · exact ⟨_, h3, .inr rfl⟩
    obtain ⟨k, hk1, hk2⟩ := this
    obtain ⟨k', a, b⟩ := kindR y k hk1
    have hm := mem_of_lookup a
    have hk' : k' = .free := by
      rcases Decidable.em (k' = .free) with q | q
      · exact q
      · have e1 : (k' == NameKind.free) = false := by simpa using q
        rw [e1] at b
        simp at b
        subst b
        rcases hk2 with rfl | rfl
        · have := (hn _ hm).2
          simp at this
          exact absurd this h2
        · exact absurd rfl q
    subst hk'
    exact ⟨hm, (free y hm).1⟩
  have cellL : ∀ y c, (y, NameKind.free) ∈ sc.names → env.cells.lookup y = some c → (cellsFrom (s.heap.objs.size + 1) sc.names (closL env sc.names [])).lookup y = some c := fun y c h1 h2 => by
    have h3 := cells_some (x := y) sc.names (s.heap.objs.size + 1) (closL env sc.names []) (.inr (clos_some sc.names [] (.inl h1)))
    obtain ⟨d, hd⟩ := Option.isSome_iff_exists.mp h3
    rcases cells y d hd with h4 | ⟨_, h4⟩
    · rcases cells_mem sc.names _ [] h4 with h5 | h5
      · cases h5
      · have := (hn _ h5).1.1.2
        have q := (hn _ h1).1.1.2
        rw [this] at q; cases q
    · rw [hd, ← h4, h2]
  have C0 : s.heap.get? s.heap.objs.size = none := none_at _
  have hC : (pushCells (s.heap.push { cls := .type "dict", data := .dict #[] }) sc.names).Ns s.heap.objs.size fun _ => none := (Heap.Ns.new s.heap (.type "dict")).keeps (pushCells_keeps _ _)
  have fnk : (relab Γ sc).kind = .function := hk
  refine ⟨⟨relab_eq E.sc, fnk, E.glob, E.blt, ?_, ⟨_, hC, fun i y h1 h2 v h3 => ?_⟩, fun i y h1 h2 => ?_, I.offTop C0, I.off C0, fun i y c h1 h2 h3 => ?_, fun x y c h1 h2 => ?_⟩, fun b hb => ?_, fun b o hb hO => ⟨fun e => ?_, fun i y c h1 h2 h3 e => ?_⟩⟩
  · rw [lenN, List.length_append, List.length_map, E.len]
  · -- a local of the new environment has no value yet
    exfalso
    obtain ⟨q1, q2⟩ := valAt i v h3
    rcases nameAt i y h1 with ⟨_, z, a, b⟩ | ⟨a, _⟩
    · obtain ⟨rfl, hy⟩ := unmask z y b (noEmpty y _ h2)
      obtain ⟨k', c1, c2⟩ := kindR z _ h2
      have hk' : k' = .local := by
        split at c2
        · cases c2
        · exact c2.symm
      subst hk'
      have := (hn _ (mem_of_lookup c1)).2
      simp at this
      rcases this with this | this
      · exact hy this
      · subst this
        have := List.mem_iff_getElem?.mpr ⟨_, a⟩
        simp at hdot
        exact hdot this
    · lia
  · rcases nameAt i y h1 with ⟨q, z, a, b⟩ | ⟨q, a⟩
    · have hne : y ≠ Str.empty := by rcases h2 with h2 | h2 <;> exact noEmpty y _ h2
      obtain ⟨rfl, hy⟩ := unmask z y b hne
      obtain ⟨m1, m2⟩ := capt i z a hy h2
      obtain ⟨c, v₀, e, ⟨o, ho, hd⟩, w⟩ := E.cell i z a m2
      refine ⟨c, v₀, cellL z c m1 e, ⟨o, keep _ _ ho, hd⟩, fun v hv => w v (valAt i v hv).2⟩
    · -- one of the target's
      have hmem : y ∈ xs := List.mem_iff_getElem?.mpr ⟨_, a⟩
      have : sc.names.lookup y = some .cell := by
        have q1 := (hx y hmem).1
        simp at q1
        rcases q1 with q1 | q1
        · exfalso
          have kk : (compFm Γ sc xs).kind y = some .local := by
            show (relab Γ sc).names.lookup y = _
            rw [lookup_relab, q1]; rfl
          rcases h2 with h2 | h2 <;> rw [kk] at h2 <;> cases h2
        · exact q1
      obtain ⟨c, hc⟩ := Option.isSome_iff_exists.mp (cells_some (x := y) sc.names (s.heap.objs.size + 1) (closL env sc.names []) (.inl (mem_of_lookup this)))
      refine ⟨c, none, hc, ?_, fun v hv => absurd (valAt i v hv).1 (by lia)⟩
      rcases cells y c hc with h4 | ⟨h4, _⟩
      · exact (ok.empty y c h4).1
      · exact absurd hmem (free y h4).2.2
  · rcases cells y c h3 with h4 | ⟨h4, h5⟩
    · obtain ⟨a, b⟩ := newc y c h4
      exact ⟨I.offTop a, I.off a, fun e => by rw [e] at b; exact absurd b (Nat.lt_irrefl _)⟩
    · obtain ⟨a, b, _⟩ := free y h4
      obtain ⟨j, hj⟩ := List.mem_iff_getElem?.mp b
      obtain ⟨t1, t2, t3⟩ := E.cellT j y c hj a h5
      obtain ⟨o, ho⟩ := liveC y c h4 h5
      exact ⟨t1, t2, fun e => by
        have e' : c = s.heap.objs.size := e
        rw [e', C0] at ho; cases ho⟩
  · rcases cells x c h1 with h4 | ⟨h4, h5⟩
    · rcases cells y c h2 with h6 | ⟨h6, h7⟩
      · exact name_of_addr ok.apart h4 h6
      · obtain ⟨o, ho⟩ := liveC y c h6 h7
        rw [(newc x c h4).1] at ho; cases ho
    · rcases cells y c h2 with h6 | ⟨h6, h7⟩
      · obtain ⟨o, ho⟩ := liveC x c h4 h5
        rw [(newc y c h6).1] at ho; cases ho
      · exact E.apart x y c h5 h7
  · rcases hb with hb | ⟨i, x, hx0, hx1, hx2, hx3⟩
    · rw [hb]; exact C0
    · rcases cells x b hx3 with h4 | ⟨h4, _⟩
      · exact (newc x b h4).1
      · exact absurd hx1 (free x h4).2.2
  · have e' : b = s.heap.objs.size := e
    rw [e', C0] at hb; cases hb
  · subst e
    rcases cells y b h3 with h4 | ⟨h4, h5⟩
    · rw [(newc y b h4).1] at hb; cases hb
    · obtain ⟨a, b', _⟩ := free y h4
      obtain ⟨j, hj⟩ := List.mem_iff_getElem?.mp b'
      exact hO.2 j y b hj a h5 rfl
end
end MI.Internal
end

section
set_option Elab.async false
set_option linter.all false
set_option maxRecDepth 10000
namespace MI.Internal
open PySem PySem.W PySem.Calls

/-! ## the program's text against the small language -/
structure Tab where
  fn : List (Str × Nat × Addr)
  me : List (List Nat × Nat × Addr)
  att : List (List Nat)
  cls : Str
structure Ck where
  e : Expr → Bool
  l : List Expr → Bool
  b : List Expr → Bool
  i : Expr → Bool
  t : Expr → Bool
noncomputable def noSet : Expr → Bool
  | .Set .. => false
  | _ => true
noncomputable def plainT : Expr → Bool
  | .UnaryOp .Not _ _ | .BoolOp .. | .IfExp .. | .Compare .. => false
  | _ => true
noncomputable def ofE (f : Expr → Bool) : Ck := ⟨f, fun _ => false, fun _ => false, fun e => f e && noSet e, fun e => f e && plainT e⟩
noncomputable def glob (Γ : Fm) (x : Str) : Bool := Γ.kind x == some .globalImplicit && !(x == ("__debug__" : Str))
noncomputable def oneE (e : Expr) : Bool := plainEs [e]
noncomputable def callLine (o : Expr) (es : List Expr) (apos pos : Pos) : Bool := noCall o && plainEs es && Nat.ble es.length 20 && apos.endLine == pos.line
/-! ### what the text is seen as -/
theorem band {a b : Bool} (h : (a && b) = true) : a = true ∧ b = true := Bool.and_eq_true_iff.mp h
theorem band3 {a b c : Bool} (h : (a && b && c) = true) : A3 (a = true) (b = true) (c = true) := let ⟨h, z⟩ := band h; let ⟨x, y⟩ := band h; ⟨x, y, z⟩
theorem band4 {a b c d : Bool} (h : (a && b && c && d) = true) : A4 (a = true) (b = true) (c = true) (d = true) := let ⟨h, z⟩ := band h; let ⟨x, y, w⟩ := band3 h; ⟨x, y, w, z⟩
theorem band5 {a b c d e : Bool} (h : (a && b && c && d && e) = true) : A5 (a = true) (b = true) (c = true) (d = true) (e = true) := let ⟨h, z⟩ := band h; let ⟨x, y, w, v⟩ := band4 h; ⟨x, y, w, v, z⟩
theorem band6 {a b c d e f : Bool} (h : (a && b && c && d && e && f) = true) : A6 (a = true) (b = true) (c = true) (d = true) (e = true) (f = true) := let ⟨h, z⟩ := band h; let ⟨x, y, w, v, u⟩ := band5 h; ⟨x, y, w, v, u, z⟩
theorem bnot {a : Bool} (h : (!a) = true) : a = false := by cases a <;> first | rfl | cases h
theorem seq {a b : Str} (h : (a == b) = true) : a = b := beq_iff_eq.mp h
noncomputable def vConst (e : Expr) (f : Const → Bool) : Bool := if h : e.ctorIdx = 19 then Expr.Constant.elim (motive_1 := fun _ => Bool) e h fun c _ _ => f c else false
noncomputable def vName (e : Expr) (f : Str → Bool) : Bool := if h : e.ctorIdx = 23 then Expr.Name.elim (motive_1 := fun _ => Bool) e h fun x _ => f x else false
noncomputable def vBin (e : Expr) (f : Expr → Operator → Expr → Bool) : Bool := if h : e.ctorIdx = 2 then Expr.BinOp.elim (motive_1 := fun _ => Bool) e h fun l o r _ => f l o r else false
noncomputable def vUn (e : Expr) (f : UnaryOp → Expr → Bool) : Bool := if h : e.ctorIdx = 3 then Expr.UnaryOp.elim (motive_1 := fun _ => Bool) e h fun o x _ => f o x else false
noncomputable def vCmp (e : Expr) (f : Expr → List CmpOp → List Expr → Bool) : Bool := if h : e.ctorIdx = 15 then Expr.Compare.elim (motive_1 := fun _ => Bool) e h fun l o r _ => f l o r else false
noncomputable def vBoo (e : Expr) (f : PySem.BoolOp → List Expr → Bool) : Bool := if h : e.ctorIdx = 0 then Expr.BoolOp.elim (motive_1 := fun _ => Bool) e h fun o r _ => f o r else false
noncomputable def vIf (e : Expr) (f : Expr → Expr → Expr → Bool) : Bool := if h : e.ctorIdx = 5 then Expr.IfExp.elim (motive_1 := fun _ => Bool) e h fun a b c _ => f a b c else false
noncomputable def vSub (e : Expr) (f : Expr → Expr → Bool) : Bool := if h : e.ctorIdx = 21 then Expr.Subscript.elim (motive_1 := fun _ => Bool) e h fun a b _ => f a b else false
noncomputable def vSlice (e : Expr) (f : Option Expr → Option Expr → Option Expr → Bool) : Bool := if h : e.ctorIdx = 26 then Expr.Slice.elim (motive_1 := fun _ => Bool) e h fun a b c _ => f a b c else false
noncomputable def vList (e : Expr) (f : List Expr → Bool) : Bool := if h : e.ctorIdx = 24 then Expr.List.elim (motive_1 := fun _ => Bool) e h fun a _ => f a else false
noncomputable def vTup (e : Expr) (f : List Expr → Bool) : Bool := if h : e.ctorIdx = 25 then Expr.Tuple.elim (motive_1 := fun _ => Bool) e h fun a _ _ => f a else false
noncomputable def vLC (e : Expr) (f : Expr → List Comprehension → Scope → Bool) : Bool := if h : e.ctorIdx = 8 then Expr.ListComp.elim (motive_1 := fun _ => Bool) e h fun a b c _ => f a b c else false
noncomputable def vCall (e : Expr) (f : Expr → List Expr → List Keyword → Pos → Bool) : Bool := if h : e.ctorIdx = 16 then Expr.Call.elim (motive_1 := fun _ => Bool) e h fun a b c p => f a b c p else false
noncomputable def vAttr (e : Expr) (f : Expr → Str → Pos → Bool) : Bool := if h : e.ctorIdx = 20 then Expr.Attribute.elim (motive_1 := fun _ => Bool) e h fun a b p => f a b p else false
noncomputable def v1 {α : Type} (l : List α) (f : α → Bool) : Bool := match l with | [a] => f a | _ => false
noncomputable def v2 {α : Type} (l : List α) (f : α → α → Bool) : Bool := match l with | [a, b] => f a b | _ => false
noncomputable def vCallN (e : Expr) (f : Str → List Expr → Bool) : Bool := vCall e fun fn vs kw _ => kw.isEmpty && vName fn fun x => f x vs
noncomputable def vCallA (e : Expr) (f : Expr → Str → Pos → List Expr → Pos → Bool) : Bool := vCall e fun fn vs kw p => kw.isEmpty && vAttr fn fun v x ap => f v x ap vs p
noncomputable def cNone : Const → Bool
  | .none => true
  | _ => false
noncomputable def cBool (c : Const) (f : Bool → Bool) : Bool := match c with | .bool b => f b | _ => false
noncomputable def cInt (c : Const) (f : Int → Bool) : Bool := match c with | .int b => f b | _ => false
noncomputable def cStr (c : Const) (f : Str → Bool) : Bool := match c with | .str b => f b | _ => false
noncomputable def cBytes (c : Const) (f : List UInt8 → Bool) : Bool := match c with | .bytes b => f b | _ => false
noncomputable def oUSub : UnaryOp → Bool
  | .USub => true
  | _ => false
noncomputable def oNot : UnaryOp → Bool
  | .Not => true
  | _ => false
section
variable {e : Expr} {c : Const}
theorem vConst_ok {f : Const → Bool} (h : vConst e f = true) : Ex3 fun c k p => e = .Constant c k p ∧ f c = true :=
  if q : e.ctorIdx = 19 then Expr.Constant.elim (motive_1 := fun e => vConst e f = true → Ex3 fun c k p => e = .Constant c k p ∧ f c = true) e q (fun x0 x1 x2 h => ⟨x0, x1, x2, rfl, h⟩) h else (Bool.false_ne_true ((dif_neg q : vConst e f = false).symm.trans h)).elim
theorem vName_ok {f : Str → Bool} (h : vName e f = true) : Ex2 fun x p => e = .Name x p ∧ f x = true :=
  if q : e.ctorIdx = 23 then Expr.Name.elim (motive_1 := fun e => vName e f = true → Ex2 fun x p => e = .Name x p ∧ f x = true) e q (fun x0 x1 h => ⟨x0, x1, rfl, h⟩) h else (Bool.false_ne_true ((dif_neg q : vName e f = false).symm.trans h)).elim
theorem vBin_ok {f : Expr → Operator → Expr → Bool} (h : vBin e f = true) : Ex4 fun l o r p => e = .BinOp l o r p ∧ f l o r = true :=
  if q : e.ctorIdx = 2 then Expr.BinOp.elim (motive_1 := fun e => vBin e f = true → Ex4 fun l o r p => e = .BinOp l o r p ∧ f l o r = true) e q (fun x0 x1 x2 x3 h => ⟨x0, x1, x2, x3, rfl, h⟩) h else (Bool.false_ne_true ((dif_neg q : vBin e f = false).symm.trans h)).elim
theorem vUn_ok {f : UnaryOp → Expr → Bool} (h : vUn e f = true) : Ex3 fun o x p => e = .UnaryOp o x p ∧ f o x = true :=
  if q : e.ctorIdx = 3 then Expr.UnaryOp.elim (motive_1 := fun e => vUn e f = true → Ex3 fun o x p => e = .UnaryOp o x p ∧ f o x = true) e q (fun x0 x1 x2 h => ⟨x0, x1, x2, rfl, h⟩) h else (Bool.false_ne_true ((dif_neg q : vUn e f = false).symm.trans h)).elim
theorem vCmp_ok {f : Expr → List CmpOp → List Expr → Bool} (h : vCmp e f = true) : Ex4 fun l o r p => e = .Compare l o r p ∧ f l o r = true :=
  if q : e.ctorIdx = 15 then Expr.Compare.elim (motive_1 := fun e => vCmp e f = true → Ex4 fun l o r p => e = .Compare l o r p ∧ f l o r = true) e q (fun x0 x1 x2 x3 h => ⟨x0, x1, x2, x3, rfl, h⟩) h else (Bool.false_ne_true ((dif_neg q : vCmp e f = false).symm.trans h)).elim
theorem vBoo_ok {f : PySem.BoolOp → List Expr → Bool} (h : vBoo e f = true) : Ex3 fun o r p => e = .BoolOp o r p ∧ f o r = true :=
  if q : e.ctorIdx = 0 then Expr.BoolOp.elim (motive_1 := fun e => vBoo e f = true → Ex3 fun o r p => e = .BoolOp o r p ∧ f o r = true) e q (fun x0 x1 x2 h => ⟨x0, x1, x2, rfl, h⟩) h else (Bool.false_ne_true ((dif_neg q : vBoo e f = false).symm.trans h)).elim
theorem vIf_ok {f : Expr → Expr → Expr → Bool} (h : vIf e f = true) : Ex4 fun a b c p => e = .IfExp a b c p ∧ f a b c = true :=
  if q : e.ctorIdx = 5 then Expr.IfExp.elim (motive_1 := fun e => vIf e f = true → Ex4 fun a b c p => e = .IfExp a b c p ∧ f a b c = true) e q (fun x0 x1 x2 x3 h => ⟨x0, x1, x2, x3, rfl, h⟩) h else (Bool.false_ne_true ((dif_neg q : vIf e f = false).symm.trans h)).elim
theorem vSub_ok {f : Expr → Expr → Bool} (h : vSub e f = true) : Ex3 fun a b p => e = .Subscript a b p ∧ f a b = true :=
  if q : e.ctorIdx = 21 then Expr.Subscript.elim (motive_1 := fun e => vSub e f = true → Ex3 fun a b p => e = .Subscript a b p ∧ f a b = true) e q (fun x0 x1 x2 h => ⟨x0, x1, x2, rfl, h⟩) h else (Bool.false_ne_true ((dif_neg q : vSub e f = false).symm.trans h)).elim
theorem vSlice_ok {f : Option Expr → Option Expr → Option Expr → Bool} (h : vSlice e f = true) : Ex4 fun a b c p => e = .Slice a b c p ∧ f a b c = true :=
  if q : e.ctorIdx = 26 then Expr.Slice.elim (motive_1 := fun e => vSlice e f = true → Ex4 fun a b c p => e = .Slice a b c p ∧ f a b c = true) e q (fun x0 x1 x2 x3 h => ⟨x0, x1, x2, x3, rfl, h⟩) h else (Bool.false_ne_true ((dif_neg q : vSlice e f = false).symm.trans h)).elim
theorem vList_ok {f : List Expr → Bool} (h : vList e f = true) : Ex2 fun a p => e = .List a p ∧ f a = true :=
  if q : e.ctorIdx = 24 then Expr.List.elim (motive_1 := fun e => vList e f = true → Ex2 fun a p => e = .List a p ∧ f a = true) e q (fun x0 x1 h => ⟨x0, x1, rfl, h⟩) h else (Bool.false_ne_true ((dif_neg q : vList e f = false).symm.trans h)).elim
theorem vTup_ok {f : List Expr → Bool} (h : vTup e f = true) : Ex3 fun a k p => e = .Tuple a k p ∧ f a = true :=
  if q : e.ctorIdx = 25 then Expr.Tuple.elim (motive_1 := fun e => vTup e f = true → Ex3 fun a k p => e = .Tuple a k p ∧ f a = true) e q (fun x0 x1 x2 h => ⟨x0, x1, x2, rfl, h⟩) h else (Bool.false_ne_true ((dif_neg q : vTup e f = false).symm.trans h)).elim
theorem vLC_ok {f : Expr → List Comprehension → Scope → Bool} (h : vLC e f = true) : Ex4 fun a b c p => e = .ListComp a b c p ∧ f a b c = true :=
  if q : e.ctorIdx = 8 then Expr.ListComp.elim (motive_1 := fun e => vLC e f = true → Ex4 fun a b c p => e = .ListComp a b c p ∧ f a b c = true) e q (fun x0 x1 x2 x3 h => ⟨x0, x1, x2, x3, rfl, h⟩) h else (Bool.false_ne_true ((dif_neg q : vLC e f = false).symm.trans h)).elim
theorem vCall_ok {f : Expr → List Expr → List Keyword → Pos → Bool} (h : vCall e f = true) : Ex4 fun a b c p => e = .Call a b c p ∧ f a b c p = true :=
  if q : e.ctorIdx = 16 then Expr.Call.elim (motive_1 := fun e => vCall e f = true → Ex4 fun a b c p => e = .Call a b c p ∧ f a b c p = true) e q (fun x0 x1 x2 x3 h => ⟨x0, x1, x2, x3, rfl, h⟩) h else (Bool.false_ne_true ((dif_neg q : vCall e f = false).symm.trans h)).elim
theorem vAttr_ok {f : Expr → Str → Pos → Bool} (h : vAttr e f = true) : Ex3 fun a b p => e = .Attribute a b p ∧ f a b p = true :=
  if q : e.ctorIdx = 20 then Expr.Attribute.elim (motive_1 := fun e => vAttr e f = true → Ex3 fun a b p => e = .Attribute a b p ∧ f a b p = true) e q (fun x0 x1 x2 h => ⟨x0, x1, x2, rfl, h⟩) h else (Bool.false_ne_true ((dif_neg q : vAttr e f = false).symm.trans h)).elim
theorem v1_ok {α : Type} {l : List α} {f : α → Bool} (h : v1 l f = true) : ∃ a, l = [a] ∧ f a = true := by
  rcases l with _ | ⟨a, _ | ⟨b, l⟩⟩
  · exact (Bool.false_ne_true h).elim
  · exact ⟨_, rfl, h⟩
  · exact (Bool.false_ne_true h).elim
theorem v2_ok {α : Type} {l : List α} {f : α → α → Bool} (h : v2 l f = true) : Ex2 fun a b => l = [a, b] ∧ f a b = true := by
  rcases l with _ | ⟨a, _ | ⟨b, _ | ⟨c, l⟩⟩⟩
  · exact (Bool.false_ne_true h).elim
  · exact (Bool.false_ne_true h).elim
  · exact ⟨_, _, rfl, h⟩
  · exact (Bool.false_ne_true h).elim
theorem vCallN_ok {f : Str → List Expr → Bool} (h : vCallN e f = true) : Ex4 fun x np vs p => e = .Call (.Name x np) vs [] p ∧ f x vs = true := by
  obtain ⟨fn, vs, kw, p, rfl, h⟩ := vCall_ok h
  obtain ⟨h1, h⟩ := band h
  obtain ⟨x, np, rfl, h⟩ := vName_ok h
  cases List.isEmpty_iff.mp h1
  exact ⟨x, np, vs, p, rfl, h⟩
theorem vCallA_ok {f : Expr → Str → Pos → List Expr → Pos → Bool} (h : vCallA e f = true) : Ex5 fun v x ap vs p => e = .Call (.Attribute v x ap) vs [] p ∧ f v x ap vs p = true := by
  obtain ⟨fn, vs, kw, p, rfl, h⟩ := vCall_ok h
  obtain ⟨h1, h⟩ := band h
  obtain ⟨v, x, ap, rfl, h⟩ := vAttr_ok h
  cases List.isEmpty_iff.mp h1
  exact ⟨v, x, ap, vs, p, rfl, h⟩
theorem cNone_ok (h : cNone c = true) : c = .none := by cases c <;> first | rfl | exact (Bool.false_ne_true h).elim
theorem cBool_ok {f : Bool → Bool} (h : cBool c f = true) : ∃ b, c = .bool b ∧ f b = true := by cases c <;> first | exact (Bool.false_ne_true h).elim | exact ⟨_, rfl, h⟩
theorem cInt_ok {f : Int → Bool} (h : cInt c f = true) : ∃ b, c = .int b ∧ f b = true := by cases c <;> first | exact (Bool.false_ne_true h).elim | exact ⟨_, rfl, h⟩
theorem cStr_ok {f : Str → Bool} (h : cStr c f = true) : ∃ b, c = .str b ∧ f b = true := by cases c <;> first | exact (Bool.false_ne_true h).elim | exact ⟨_, rfl, h⟩
theorem cBytes_ok {f : List UInt8 → Bool} (h : cBytes c f = true) : ∃ b, c = .bytes b ∧ f b = true := by cases c <;> first | exact (Bool.false_ne_true h).elim | exact ⟨_, rfl, h⟩
theorem oUSub_ok {o : UnaryOp} (h : oUSub o = true) : o = .USub := by cases o <;> first | rfl | exact (Bool.false_ne_true h).elim
theorem oNot_ok {o : UnaryOp} (h : oNot o = true) : o = .Not := by cases o <;> first | rfl | exact (Bool.false_ne_true h).elim
end
/-- a part of a slice, seen -/
noncomputable def partB (c : Ck) : Option Expr → Bool
  | none => c.l []
  | some x => c.e x
/-- a comprehension's test, seen -/
noncomputable def ifsB (c : Ck) : List Expr → Bool
  | [] => c.l []
  | l => v1 l c.t
noncomputable def nmB (n : Nat) (tg : Expr) : Bool := n != 1 || vName tg fun _ => true
noncomputable def ckC (op : CmpOp) (a b : Ck) (e : Expr) : Bool := vCmp e fun l os rs => v1 os fun o => v1 rs fun r => o == op && a.e l && b.e r && !behindInMarks op r
noncomputable def tgB (tg : Expr) (f : List Str → Bool) : Bool := match tgtNames tg with
  | some xs => f xs
  | none => false
theorem tgB_ok {tg : Expr} {f : List Str → Bool} (h : tgB tg f = true) : ∃ xs, tgtNames tg = some xs ∧ f xs = true := by
  unfold tgB at h
  generalize tgtNames tg = o at h
  cases o with
  | none => cases h
  | some xs => exact ⟨xs, rfl, h⟩
noncomputable def chk (T : Tab) : X → Fm → Ck
  | .none, _ => ofE fun e => vConst e cNone
  | .tru, _ => ofE fun e => vConst e fun c => cBool c fun b => b
  | .fls, _ => ofE fun e => vConst e fun c => cBool c fun b => !b
  | .int i, _ => ofE fun e => vConst e fun c => cInt c fun j => j == i
  | .str l, _ => ofE fun e => vConst e fun c => cStr c fun x => x == nm l
  | .bytes l, _ => ofE fun e => vConst e fun c => cBytes c fun x => x == l
  | .var i, Γ => ofE fun e => vName e fun x => Γ.names[i]? == some x && (Γ.kind x == some .local || Γ.kind x == some .cell || Γ.kind x == some .free) && !(x == ("__debug__" : Str)) && !(x == ("__classdict__" : Str))
  | .nil, _ => ⟨fun _ => false, fun es => es.isEmpty, fun es => es.isEmpty, fun _ => false, fun _ => false⟩
  | .cons a b, Γ => ⟨fun _ => false, fun es => match es with | e :: es => (chk T a Γ).e e && oneE e && (chk T b Γ).l es | [] => false, fun es => match es with | e :: es => (chk T a Γ).t e && (chk T b Γ).b es | [] => false, fun _ => false, fun _ => false⟩
  | .bin op a b, Γ => ofE fun e => vBin e fun l o r => o == op && (chk T a Γ).e l && (chk T b Γ).e r
  | .neg a, Γ => ofE fun e => vUn e fun o x => oUSub o && (chk T a Γ).e x
  | .not a, Γ => { ofE (fun _ => false) with t := fun e => vUn e fun o x => oNot o && (chk T a Γ).t x }
  | .cmp op a b, Γ => { ofE (ckC op (chk T a Γ) (chk T b Γ)) with t := ckC op (chk T a Γ) (chk T b Γ) }
  | .boolop op es, Γ => { ofE (fun _ => false) with t := fun e => vBoo e fun o vs => o == op && (chk T es Γ).b vs }
  | .ife t a b, Γ => ofE fun e => vIf e fun c x y => (chk T t Γ).t c && (chk T a Γ).e x && (chk T b Γ).e y
  | .idx a i, Γ => ofE fun e => vSub e fun v j => (chk T a Γ).e v && (chk T i Γ).e j && !isSl j
  | .slice a lo hi, Γ => ofE fun e => vSub e fun v j => vSlice j fun l u st => st.isNone && (chk T a Γ).e v && partB (chk T lo Γ) l && partB (chk T hi Γ) u
  | .list es, Γ => ofE fun e => vList e (chk T es Γ).l
  | .tup es, Γ => ofE fun e => vTup e (chk T es Γ).l
  | .comp elt n iter cond, Γ => ofE fun e => vLC e fun el gens sc => v1 gens fun g => g.is_async == 0 && (chk T iter Γ).i g.iter && tgB g.target fun xs =>
      xs.length == n && nmB n g.target && scOk Γ sc xs && placesB (compFm Γ sc xs) ((List.range n).map (Γ.names.length + ·)) xs && (chk T elt (compFm Γ sc xs)).e el && ifsB (chk T cond (compFm Γ sc xs)) g.ifs
  | .range es, Γ => { ofE (fun _ => false) with i := fun e => vCallN e fun x vs => x == ("range" : Str) && glob Γ x && plainEs vs && (chk T es Γ).l vs }
  | .call f es, Γ => ofE fun e => vCallN e fun x vs => glob Γ x && plainEs vs && (chk T es Γ).l vs && (T.fn.any fun (y, g, _) => y == x && g == f)
  | .new es, Γ => ofE fun e => vCallN e fun x vs => x == T.cls && glob Γ x && plainEs vs && (chk T es Γ).l vs
  | .bcall f es, Γ => ofE fun e => vCallN e fun x vs => x == bfName f && glob Γ x && plainEs vs && (chk T es Γ).l vs
  | .bm m o es, Γ => ofE fun e => vCallA e fun v x ap vs pos => x == bmName m && callLine v vs ap pos && (chk T o Γ).e v && (chk T es Γ).l vs
  | .cm m name o es, Γ => ofE fun e => vCallA e fun v x ap vs pos => x == nm name && callLine v vs ap pos && (chk T o Γ).e v && (chk T es Γ).l vs && (T.me.any fun (y, g, _) => y == name && g == m)
  | .cr name o es, Γ => ofE fun e => vCallA e fun v x ap vs pos => x == nm name && callLine v vs ap pos && (chk T o Γ).e v && (chk T es Γ).l vs && T.att.contains name
  | .attr a name, Γ => ofE fun e => vAttr e fun v x _ => x == nm name && noCall v && (chk T a Γ).e v && T.att.contains name
  | .isb a, Γ => ofE fun e => vCallN e fun x vs => v2 vs fun v w => vName w fun y => x == ("isinstance" : Str) && y == ("bytes" : Str) && glob Γ x && glob Γ y && oneE v && (chk T a Γ).e v
  | .citer o, Γ => ofE fun e => vCallN e fun x vs => v2 vs fun a b => vAttr a fun v y _ => vConst b fun c => cStr c fun z => x == ("iter" : Str) && glob Γ x && y == nm rcName && z == nm [] && noCall v && (chk T o Γ).e v

/-- what the table says of the top -/
structure TabOk (B : Base) (Kf : Frag) (T : Tab) : Prop where
  cls : ClsOk Kf B.cls
  fn : ∀ x f a, (x, f, a) ∈ T.fn → nsIn Kf mainGlobals x = some (some (.ref a)) ∧ keepIn Kf (.ref a) = true
  me : ∀ x m a, (x, m, a) ∈ T.me → findIn Kf (.ref B.cls) (nm x) = some (some (.ref a)) ∧ isFn Kf (.ref a) = true ∧ keepIn Kf (.ref a) = true
  att : ∀ x, x ∈ T.att → findIn Kf (.ref B.cls) (nm x) = some none
  new : nsIn Kf mainGlobals T.cls = some (some (.ref B.cls)) ∧ keepIn Kf (.ref B.cls) = true
  blt : ∀ f : Bf, nsIn Kf mainGlobals (bfName f) = some none
  rc : plainGet Kf B.cls (nm rcName) = true ∧ findIn Kf (.ref B.cls) (nm rcName) = some (some (.ref B.rc)) ∧ isFn Kf (.ref B.rc) = true ∧ specialIn Kf (.ref B.rc) "__get__" = some (some (.builtin "function.__get__")) ∧ takesIn Kf (.ref B.rc) = some false ∧ copiedNames.contains (nm rcName) = false ∧ nsIn Kf mainGlobals "iter" = some none
  more : nsIn Kf mainGlobals "range" = some none ∧ nsIn Kf mainGlobals "isinstance" = some none ∧ nsIn Kf mainGlobals "bytes" = some none

/-- the contracts hold -/
structure ConOk (B : Base) (T : Tab) (Φ : Con) (n : Nat) : Prop where
  fn : ∀ x f a, (x, f, a) ∈ T.fn → ∀ {A : Around} {α : Nat → Addr} {σ : Sto} {s : Shared} {vs : List V} {cs : List Value} {K : VK}, AOk A n → SInv B α σ s → VRs α σ.length vs cs → Φ.fn f vs σ K →
    W B A (call (.ref a) cs) s fun c s' => Out B noOwn α σ s (one K) [c] s'
  me : ∀ x m a, (x, m, a) ∈ T.me → ∀ {A : Around} {α : Nat → Addr} {σ : Sto} {s : Shared} {v : V} {c : Value} {vs : List V} {cs : List Value} {K : VK}, AOk A n → SInv B α σ s → VR α σ.length v c → VRs α σ.length vs cs → Φ.me m v vs σ K →
    W B A (call (.ref a) (c :: cs)) s fun c s' => Out B noOwn α σ s (one K) [c] s'
  nw : ∀ {A : Around} {α : Nat → Addr} {σ : Sto} {s : Shared} {vs : List V} {cs : List Value} {K : VK}, AOk A n → SInv B α σ s → VRs α σ.length vs cs → Φ.nw vs σ K →
    W B A (call (.ref B.cls) cs) s fun c s' => Out B noOwn α σ s (one K) [c] s'
  rd : ∀ {A : Around} {α : Nat → Addr} {σ : Sto} {s : Shared} {q : Nat} {vs : List V} {cs : List Value} {K : VK}, AOk A n → SInv B α σ s → q < σ.length → VRs α σ.length vs cs → Φ.rd q vs σ K →
    (∃ o fd, s.heap.get? (α q) = some o ∧ o.data = .func fd) ∧ W B A (call (.ref (α q)) cs) s fun c s' => Out B noOwn α σ s (one K) [c] s'

structure Gd (B : Base) (Kf : Frag) (T : Tab) (Φ : Con) (n : Nat) (mg mb : Str → Option Value) : Prop where
  gr : Gr B mg mb Kf
  tab : TabOk B Kf T
  con : ConOk B T Φ n
  bb : ∀ x : Str, x ≠ "__name__" → mb x = bootBuiltins x

section
variable (B : Base) (Kf : Frag) (T : Tab) (Φ : Con) (n : Nat)
/-- an expression runs as it means -/
structure Snd (x : X) : Prop where
  v : ∀ {Γ : Fm} {ρ : Lv} {env : Env} {A : Around} {α : Nat → Addr} {σ : Sto} {s : Shared} {e : Expr} {K : LK}, (chk T x Γ).e e = true → AOk A n → SInv B α σ s → EnvOk B Γ ρ α σ.length env s.heap → (mean Φ x).v ρ σ K →
    W B A (eval e env) s fun c s' => Out B noOwn α σ s K [c] s'
  l : ∀ {Γ : Fm} {ρ : Lv} {env : Env} {A : Around} {α : Nat → Addr} {σ : Sto} {s : Shared} {es : List Expr} {pos : Pos} {K : LK}, (chk T x Γ).l es = true → AOk A n → SInv B α σ s → EnvOk B Γ ρ α σ.length env s.heap → (mean Φ x).v ρ σ K →
    W B A (spliced (backTo pos (starEach es env))) s fun cs s' => Out B noOwn α σ s K cs s'
  t : ∀ {Γ : Fm} {ρ : Lv} {env : Env} {A : Around} {α : Nat → Addr} {σ : Sto} {s : Shared} {e : Expr} {K : Bool → Sto → Prop}, (chk T x Γ).t e = true → AOk A n → SInv B α σ s → EnvOk B Γ ρ α σ.length env s.heap → (mean Φ x).t ρ σ K →
    W B A (isTrue e env (eval e env)) s fun b s' => OutB B noOwn α σ s K b s'
  ts : ∀ {Γ : Fm} {ρ : Lv} {env : Env} {A : Around} {α : Nat → Addr} {σ : Sto} {s : Shared} {es : List Expr} {op : PySem.BoolOp} {K : Bool → Sto → Prop}, (chk T x Γ).b es = true → AOk A n → SInv B α σ s → EnvOk B Γ ρ α σ.length env s.heap → (mean Φ x).ts op ρ σ K →
    W B A (allTrue op es env) s fun b s' => OutB B noOwn α σ s K b s'
  it : ∀ {Γ : Fm} {ρ : Lv} {env : Env} {A : Around} {α : Nat → Addr} {σ : Sto} {s : Shared} {e : Expr} {K : It → Sto → Prop}, (chk T x Γ).i e = true → AOk A n → SInv B α σ s → EnvOk B Γ ρ α σ.length env s.heap → (mean Φ x).it ρ σ K →
    W B A (eval e env) s fun c s₁ => W B A (pyIter c) s₁ fun c s' => OutI B noOwn α σ s K c s'
/-- the same, by its value alone -/
noncomputable def SndV (x : X) : Prop := ∀ {Γ : Fm} {ρ : Lv} {env : Env} {A : Around} {α : Nat → Addr} {σ : Sto} {s : Shared} {e : Expr} {K : LK}, (chk T x Γ).e e = true → AOk A n → SInv B α σ s → EnvOk B Γ ρ α σ.length env s.heap → (mean Φ x).v ρ σ K →
    W B A (eval e env) s fun c s' => Out B noOwn α σ s K [c] s'
end
section
variable {B : Base} {Kf : Frag} {T : Tab} {Φ : Con} {n : Nat} {α : Nat → Addr} {σ : Sto} {s : Shared} {own : Addr → Prop}
theorem OutI.trans {α' : Nat → Addr} {σ' : Sto} {s' s'' : Shared} {K : It → Sto → Prop} {c : Value} (x : Ext B noOwn α σ s α' σ' s') (h : OutI B noOwn α' σ' s' K c s'') : OutI B noOwn α σ s K c s'' := by
  obtain ⟨it, a, σ₂, α₂, e1, e2, e3, e4, e5, e6⟩ := h
  refine ⟨it, a, σ₂, α₂, e1, e2, e3, x.trans e4, e5, ?_⟩
  cases p : s.heap.get? a with
  | none => rfl
  | some o => obtain ⟨o', q⟩ := x.live a o p id; rw [e6] at q; cases q
theorem OutB.trans {α' : Nat → Addr} {σ' : Sto} {s' s'' : Shared} {K : Bool → Sto → Prop} {b : Bool} (x : Ext B own α σ s α' σ' s') (h : OutB B own α' σ' s' K b s'') : OutB B own α σ s K b s'' := by
  obtain ⟨σ₂, α₂, e2, e3, e4⟩ := h
  exact ⟨σ₂, α₂, e2, e3, x.trans e4⟩
/-- on from an expression's end -/
theorem out1 {s₀ : Shared} {A : Around} {K : VK} {t : Sem Value} {Q : Value → Shared → Prop} (h : W B A t s₀ fun c s' => Out B noOwn α σ s (one K) [c] s')
    (k : ∀ v c σ' α' s', K v σ' → VR α' σ'.length v c → SInv B α' σ' s' → Ext B noOwn α σ s α' σ' s' → Q c s') : W B A t s₀ Q :=
  wpAny_mono h (fun c s' ⟨vs, σ', α', hk, hv, I, X⟩ => by
    match vs, hk with
    | [v], hk => exact k v c σ' α' s' hk hv.1 I X) fun _ _ q => q
theorem outL {A : Around} {K : LK} {t : Sem (List Value)} {Q : List Value → Shared → Prop} (h : W B A t s fun c s' => Out B noOwn α σ s K c s')
    (k : ∀ vs cs σ' α' s', K vs σ' → VRs α' σ'.length vs cs → SInv B α' σ' s' → Ext B noOwn α σ s α' σ' s' → Q cs s') : W B A t s Q :=
  wpAny_mono h (fun c s' ⟨vs, σ', α', hk, hv, I, X⟩ => k vs c σ' α' s' hk hv I X) fun _ _ q => q
theorem outB {A : Around} {K : Bool → Sto → Prop} {t : Sem Bool} {Q : Bool → Shared → Prop} (h : W B A t s fun c s' => OutB B noOwn α σ s K c s')
    (k : ∀ b σ' α' s', K b σ' → SInv B α' σ' s' → Ext B noOwn α σ s α' σ' s' → Q b s') : W B A t s Q :=
  wpAny_mono h (fun c s' ⟨σ', α', hk, I, X⟩ => k c σ' α' s' hk I X) fun _ _ q => q

theorem plain_true {e : Expr} {env : Env} (h : plainT e = true) {whole : Sem Value} : isTrue e env whole = (do let v ← whole; standAt e.pos; holding [v] (truthy v)) := by
  cases e <;> first | rfl | exact (Bool.false_ne_true h).elim | skip
  rename_i op _ _
  cases op <;> first | rfl | exact (Bool.false_ne_true h).elim
theorem noSet_fold {e : Expr} (h : noSet e = true) (env : Env) (x : Value) : foldedSetIterable e env x = pure x := by
  cases e <;> first | rfl | exact (Bool.false_ne_true h).elim

/-- of a value alone: test, iterator, list -/
theorem Snd.ofV {x : X} (hm : mean Φ x = MI.Internal.ofV (mean Φ x).v) (hc : ∀ Γ, chk T x Γ = ofE (chk T x Γ).e) (h : SndV B T Φ n x) : Snd B T Φ n x := by
  constructor
  · exact h
  · intro Γ ρ env A α σ s es pos K q
    rw [hc Γ] at q; cases q
  · intro Γ ρ env A α σ s e K q hA I E hk
    rw [hc Γ] at q
    rw [hm] at hk
    obtain ⟨q1, q2⟩ := Bool.and_eq_true_iff.mp q
    refine wpAny_isTrue_value ?_ (plain_true q2)
    refine out1 (h q1 hA I E hk) fun v c σ' α' s' hv hc' I' X => ?_
    exact wpAny_mono (truS_ok (own := noOwn) I' hc' hv) (fun b s'' o => OutB.trans X o) fun _ _ q => q
  · intro Γ ρ env A α σ s es op K q
    rw [hc Γ] at q; cases q
  · intro Γ ρ env A α σ s e K q hA I E hk
    rw [hc Γ] at q
    rw [hm] at hk
    obtain ⟨q1, q2⟩ := Bool.and_eq_true_iff.mp q
    refine out1 (h q1 hA I E hk) fun v c σ' α' s' hv hc' I' X => ?_
    exact wpAny_mono (iter_ok (own := noOwn) I' hc' hv) (fun b s'' o => OutI.trans X o) fun _ _ q => q
end
end MI.Internal
end

section
set_option Elab.async false
set_option linter.all false
set_option maxRecDepth 10000
namespace MI.Internal
open PySem PySem.W PySem.Calls

section
variable {B : Base} {Kf : Frag} {T : Tab} {Φ : Con} {n : Nat} {mg mb : Str → Option Value}

theorem snd_none : Snd B T Φ n .none := .ofV rfl (fun _ => rfl) fun {Γ ρ env A α σ s e K} q hA I E hk => by
  obtain ⟨c, k, p, rfl, q⟩ := vConst_ok q
  cases cNone_ok q
  exact wpAny_pure (Out.one I hk rfl)
theorem snd_tru : Snd B T Φ n .tru := .ofV rfl (fun _ => rfl) fun {Γ ρ env A α σ s e K} q hA I E hk => by
  obtain ⟨c, k, p, rfl, q⟩ := vConst_ok q
  obtain ⟨b, rfl, q⟩ := cBool_ok q
  subst q
  exact wpAny_pure (Out.one I hk rfl)
theorem snd_fls : Snd B T Φ n .fls := .ofV rfl (fun _ => rfl) fun {Γ ρ env A α σ s e K} q hA I E hk => by
  obtain ⟨c, k, p, rfl, q⟩ := vConst_ok q
  obtain ⟨b, rfl, q⟩ := cBool_ok q
  cases bnot q
  exact wpAny_pure (Out.one I hk rfl)
theorem snd_int {i : Int} : Snd B T Φ n (.int i) := .ofV rfl (fun _ => rfl) fun {Γ ρ env A α σ s e K} q hA I E hk => by
  obtain ⟨c, k, p, rfl, q⟩ := vConst_ok q
  obtain ⟨j, rfl, q⟩ := cInt_ok q
  cases eq_of_beq q
  exact wpAny_Constant_int (Out.tok I hk ⟨_, rfl⟩)
theorem snd_str {l : List Nat} : Snd B T Φ n (.str l) := .ofV rfl (fun _ => rfl) fun {Γ ρ env A α σ s e K} q hA I E hk => by
  obtain ⟨c, k, p, rfl, q⟩ := vConst_ok q
  obtain ⟨j, rfl, q⟩ := cStr_ok q
  cases eq_of_beq q
  exact Constant_str (Out.tok I hk ⟨s.toks, rfl⟩)
theorem snd_bytes {l : List UInt8} : Snd B T Φ n (.bytes l) := .ofV rfl (fun _ => rfl) fun {Γ ρ env A α σ s e K} q hA I E hk => by
  obtain ⟨c, k, p, rfl, q⟩ := vConst_ok q
  obtain ⟨j, rfl, q⟩ := cBytes_ok q
  cases eq_of_beq q
  exact wpAny_mkTextBytes (Out.tok I hk ⟨s.toks, rfl⟩)
theorem var_mean {i : Nat} {ρ : Lv} {σ : Sto} {K : LK} (h : (mean Φ (.var i)).v ρ σ K) : ∃ v, ρ[i]? = some (some v) ∧ K [v] σ := by
  have h : (match ρ[i]? with | some (some v) => K [v] σ | _ => False) := h
  generalize ρ[i]? = o at h
  match o, h with
  | some (some v), h => exact ⟨v, rfl, h⟩
theorem snd_var {i : Nat} : Snd B T Φ n (.var i) := .ofV rfl (fun _ => rfl) fun {Γ ρ env A α σ s e K} q hA I E hk => by
  obtain ⟨x, p, rfl, q⟩ := vName_ok q
  obtain ⟨q1, q2, q3, q4⟩ := band4 q
  obtain ⟨v, hv, hk⟩ := var_mean hk
  refine name_ok E (eq_of_beq q1) ?_ hv (bnot q3) (bnot q4) fun c hc => Out.one I hk hc
  rcases Bool.or_eq_true_iff.mp q2 with q2 | q2
  · exact (Bool.or_eq_true_iff.mp q2).elim (fun h => .inl (eq_of_beq h)) fun h => .inr (.inl (eq_of_beq h))
  · exact .inr (.inr (eq_of_beq q2))
theorem snd_nil : Snd B T Φ n .nil := by
  constructor
  · intro Γ ρ env A α σ s e K q; exact (Bool.false_ne_true q).elim
  · intro Γ ρ env A α σ s es pos K q hA I E hk
    cases List.isEmpty_iff.mp q
    exact wpAny_pure ⟨[], σ, α, hk, trivial, I, .refl⟩
  · intro Γ ρ env A α σ s e K q; exact (Bool.false_ne_true q).elim
  · intro Γ ρ env A α σ s es op K q hA I E hk
    cases List.isEmpty_iff.mp q
    exact wpAny_pure ⟨σ, α, hk, I, .refl⟩
  · intro Γ ρ env A α σ s e K q; exact (Bool.false_ne_true q).elim
theorem snd_cons {a b : X} (ha : Snd B T Φ n a) (hb : Snd B T Φ n b) : Snd B T Φ n (.cons a b) := by
  constructor
  · intro Γ ρ env A α σ s e K q; exact (Bool.false_ne_true q).elim
  · intro Γ ρ env A α σ s es pos K q hA I E hk
    cases es with
    | nil => exact (Bool.false_ne_true q).elim
    | cons e es =>
      obtain ⟨q1, q2, q3⟩ := band3 q
      have he : starEach (e :: es) env = (false, eval e env) :: starEach es env := by
        cases e <;> first | rfl | exact (Bool.false_ne_true q2).elim
      refine wpAny_items_cons ?_ he
      refine out1 (ha.v q1 hA I E hk) fun v c σ' α' s' hv hc I' X => ?_
      refine outL (hb.l q3 hA I' (E.ext I X) hv) fun vs cs σ₂ α₂ s₂ hv₂ hc₂ I₂ X₂ => ?_
      exact ⟨v :: vs, σ₂, α₂, hv₂, ⟨hc.ext X₂, hc₂⟩, I₂, X.trans X₂⟩
  · intro Γ ρ env A α σ s e K q; exact (Bool.false_ne_true q).elim
  · intro Γ ρ env A α σ s es op K q hA I E hk
    cases es with
    | nil => exact (Bool.false_ne_true q).elim
    | cons e es =>
      obtain ⟨q1, q3⟩ := band q
      cases op with
      | And =>
        refine wpAny_allTrue_And_cons (outB (ha.t q1 hA I E hk) fun c σ' α' s' hv I' X => ?_)
        cases c with
        | false => exact ⟨σ', α', hv.1 rfl, I', X⟩
        | true => exact wpAny_mono (hb.ts q3 hA I' (E.ext I X) (hv.2 rfl)) (fun b s'' o => OutB.trans X o) fun _ _ q => q
      | Or =>
        refine wpAny_allTrue_Or_cons (outB (ha.t q1 hA I E hk) fun c σ' α' s' hv I' X => ?_)
        cases c with
        | true => exact ⟨σ', α', hv.1 rfl, I', X⟩
        | false => exact wpAny_mono (hb.ts q3 hA I' (E.ext I X) (hv.2 rfl)) (fun b s'' o => OutB.trans X o) fun _ _ q => q
  · intro Γ ρ env A α σ s e K q; exact (Bool.false_ne_true q).elim
theorem op_eq {a b : Operator} (h : (a == b) = true) : a = b := eq_of_beq h
theorem snd_bin {op : Operator} {a b : X} (ha : Snd B T Φ n a) (hb : Snd B T Φ n b) : Snd B T Φ n (.bin op a b) := .ofV rfl (fun _ => rfl) fun {Γ ρ env A α σ s e K} q hA I E hk => by
  obtain ⟨l, o, r, p, rfl, q⟩ := vBin_ok q
  obtain ⟨q0, q1, q2⟩ := band3 q
  cases op_eq q0
  refine wpAny_BinOp (out1 (ha.v q1 hA I E hk) fun v c σ' α' s' hv hc I' X => ?_)
  refine out1 (hb.v q2 hA I' (E.ext I X) hv) fun v₂ c₂ σ₂ α₂ s₂ hv₂ hc₂ I₂ X₂ => ?_
  exact out1 (binS_ok (own := noOwn) I₂ (hc.ext X₂) hc₂ hv₂) fun v₃ c₃ σ₃ α₃ s₃ hv₃ hc₃ I₃ X₃ => ⟨[v₃], σ₃, α₃, hv₃, ⟨hc₃, trivial⟩, I₃, (X.trans X₂).trans X₃⟩

theorem snd_neg {a : X} (ha : Snd B T Φ n a) : Snd B T Φ n (.neg a) := .ofV rfl (fun _ => rfl) fun {Γ ρ env A α σ s e K} q hA I E hk => by
  obtain ⟨o, x, p, rfl, q⟩ := vUn_ok q
  obtain ⟨q0, q⟩ := band q
  cases oUSub_ok q0
  refine wpAny_UnaryOp (out1 (ha.v q hA I E hk) fun v c σ' α' s' hv hc I' X => ?_)
  cases v with
  | int i =>
    obtain ⟨t, rfl⟩ := hc
    exact P.neg_int (Out.trans X (Out.tok I' hv ⟨_, rfl⟩))
  | _ => exact hv.elim

theorem snd_not {a : X} (ha : Snd B T Φ n a) : Snd B T Φ n (.not a) := by
  constructor
  · intro Γ ρ env A α σ s e K q; exact (Bool.false_ne_true q).elim
  · intro Γ ρ env A α σ s es pos K q; exact (Bool.false_ne_true q).elim
  · intro Γ ρ env A α σ s e K q hA I E hk
    obtain ⟨o, x, p, rfl, q⟩ := vUn_ok q
    obtain ⟨q0, q⟩ := band q
    cases oNot_ok q0
    exact wpAny_isTrue_Not (outB (ha.t q hA I E hk) fun c σ' α' s' hv I' X => ⟨σ', α', hv, I', X⟩)
  · intro Γ ρ env A α σ s es op K q; exact (Bool.false_ne_true q).elim
  · intro Γ ρ env A α σ s e K q; exact (Bool.false_ne_true q).elim
theorem cmp_core {op : CmpOp} {a b : X} (ha : Snd B T Φ n a) (hb : Snd B T Φ n b) {Γ : Fm} {ρ : Lv} {env : Env} {A : Around} {α : Nat → Addr} {σ : Sto} {s : Shared} {l r : Expr} {K : Bool → Sto → Prop} {Q : Value → Shared → Prop}
    (q1 : (chk T a Γ).e l = true) (q2 : (chk T b Γ).e r = true) (hA : AOk A n) (I : SInv B α σ s) (E : EnvOk B Γ ρ α σ.length env s.heap) (hk : (mean Φ a).v ρ σ (one fun x σ => (mean Φ b).v ρ σ (one fun y σ => cmpS op x y σ K)))
    (k : ∀ b s', OutB B noOwn α σ s K b s' → Q (.bool b) s') :
    W B A (eval l env) s fun a s₁ => W B A (eval r env) s₁ fun b s₂ => W B A (compareOp op a b) s₂ Q := by
  refine out1 (ha.v q1 hA I E hk) fun v c σ' α' s' hv hc I' X => ?_
  refine out1 (hb.v q2 hA I' (E.ext I X) hv) fun v₂ c₂ σ₂ α₂ s₂ hv₂ hc₂ I₂ X₂ => ?_
  refine wpAny_mono (cmpS_ok (own := noOwn) (hA.less (Nat.zero_le _)) I₂ (hc.ext X₂) hc₂ hv₂) (fun c s₃ o_ => ?_) fun _ _ q => q
  obtain ⟨b, e, o⟩ := o_
  subst e
  exact k b s₃ ((o.trans X₂).trans X)
theorem ckC_ok {op : CmpOp} {a b : Ck} {e : Expr} (q : ckC op a b e = true) : Ex3 fun l r p => A4 (e = .Compare l [op] [r] p) (a.e l = true) (b.e r = true) (behindInMarks op r = false) := by
  obtain ⟨l, os, rs, p, rfl, q⟩ := vCmp_ok q
  obtain ⟨o, rfl, q⟩ := v1_ok q
  obtain ⟨r, rfl, q⟩ := v1_ok q
  obtain ⟨q0, q1, q2, q3⟩ := band4 q
  cases eq_of_beq q0
  exact ⟨l, r, p, rfl, q1, q2, bnot q3⟩
theorem snd_cmp {op : CmpOp} {a b : X} (ha : Snd B T Φ n a) (hb : Snd B T Φ n b) : Snd B T Φ n (.cmp op a b) := by
  have hv : SndV B T Φ n (.cmp op a b) := fun {Γ ρ env A α σ s e K} q hA I E hk => by
    obtain ⟨l, r, p, rfl, q1, q2, q3⟩ := ckC_ok q
    exact wpAny_Compare1 (cmp_core ha hb q1 q2 hA I E hk fun b s' ⟨σ', α', o, I', X⟩ => ⟨[.bool b], σ', α', o, ⟨rfl, trivial⟩, I', X⟩) q3
  constructor
  · exact hv
  · intro Γ ρ env A α σ s es pos K q; exact (Bool.false_ne_true q).elim
  · intro Γ ρ env A α σ s e K q hA I E hk
    obtain ⟨l, r, p, rfl, q1, q2, q3⟩ := ckC_ok q
    exact wpAny_isTrue_Compare1 (cmp_core ha hb q1 q2 hA I E hk fun b s' o => wpAny_truthy_bool o) q3
  · intro Γ ρ env A α σ s es op K q; exact (Bool.false_ne_true q).elim
  · intro Γ ρ env A α σ s e K q hA I E hk
    obtain ⟨q1, q2⟩ := Bool.and_eq_true_iff.mp q
    refine out1 (hv q1 hA I E hk) fun v c σ' α' s' hv hc' I' X => ?_
    exact wpAny_mono (iter_ok (own := noOwn) I' hc' hv) (fun b s'' o => OutI.trans X o) fun _ _ q => q
theorem snd_boolop {op : PySem.BoolOp} {es : X} (hs : Snd B T Φ n es) : Snd B T Φ n (.boolop op es) := by
  constructor
  · intro Γ ρ env A α σ s e K q; exact (Bool.false_ne_true q).elim
  · intro Γ ρ env A α σ s es pos K q; exact (Bool.false_ne_true q).elim
  · intro Γ ρ env A α σ s e K q hA I E hk
    obtain ⟨o, vs, p, rfl, q⟩ := vBoo_ok q
    obtain ⟨q0, q2⟩ := band q
    cases eq_of_beq q0
    exact wpAny_isTrue_BoolOp (hs.ts q2 hA I E hk)
  · intro Γ ρ env A α σ s es op K q; exact (Bool.false_ne_true q).elim
  · intro Γ ρ env A α σ s e K q; exact (Bool.false_ne_true q).elim
theorem snd_ife {t a b : X} (ht : Snd B T Φ n t) (ha : Snd B T Φ n a) (hb : Snd B T Φ n b) : Snd B T Φ n (.ife t a b) := .ofV rfl (fun _ => rfl) fun {Γ ρ env A α σ s e K} q hA I E hk => by
  obtain ⟨c, x, y, p, rfl, q⟩ := vIf_ok q
  obtain ⟨q1, q2, q3⟩ := band3 q
  refine wpAny_IfExp (outB (ht.t q1 hA I E hk) fun c σ' α' s' hv I' X => ?_)
  cases c with
  | true => exact wpAny_mono (ha.v q2 hA I' (E.ext I X) (hv.1 rfl)) (fun _ _ o => Out.trans X o) fun _ _ q => q
  | false => exact wpAny_mono (hb.v q3 hA I' (E.ext I X) (hv.2 rfl)) (fun _ _ o => Out.trans X o) fun _ _ q => q

theorem snd_idx {a i : X} (ha : Snd B T Φ n a) (hi : Snd B T Φ n i) : Snd B T Φ n (.idx a i) := .ofV rfl (fun _ => rfl) fun {Γ ρ env A α σ s e K} q hA I E hk => by
  obtain ⟨v, j, p, rfl, q⟩ := vSub_ok q
  obtain ⟨q1, q2, q3⟩ := band3 q
  have q3 := bnot q3
  refine PyProof.Rows.Subscript_ (out1 (ha.v q1 hA I E hk) fun v c σ' α' s' hv hc I' X => ?_)
  refine out1 (hi.v q2 hA I' (E.ext I X) hv) fun v₂ c₂ σ₂ α₂ s₂ hv₂ hc₂ I₂ X₂ => ?_
  obtain ⟨⟨Ty, id, h1, h2⟩, h3⟩ := idxS_ok (own := noOwn) (A := A) I₂ (hc.ext X₂) hc₂ hv₂
  refine tail_ok h1 h2 ?_ (sub_plain q3 _ _)
  exact out1 h3 fun v₃ c₃ σ₃ α₃ s₃ hv₃ hc₃ I₃ X₃ => ⟨[v₃], σ₃, α₃, hv₃, ⟨hc₃, trivial⟩, I₃, (X.trans X₂).trans X₃⟩

theorem snd_list {es : X} (hs : Snd B T Φ n es) : Snd B T Φ n (.list es) := .ofV rfl (fun _ => rfl) fun {Γ ρ env A α σ s e K} q hA I E hk => by
  obtain ⟨vs, p, rfl, q⟩ := vList_ok q
  refine wpAny_List_spliced (outL (hs.l q hA I E hk) fun vs cs σ' α' s' hv hc I' X => ⟨by rw [hc.length]; exact hv.1.line, ?_⟩)
  exact Out.trans X (newL (own := noOwn) (K := fun v σ => K [v] σ) (tk := s'.toks) I' hc hv.2 |> fun ⟨vs, σ₂, α₂, a, b, c, d⟩ => by
    match vs, a with
    | [v], a => exact ⟨[v], σ₂, α₂, a, b, c, d⟩)

theorem snd_tup {es : X} (hs : Snd B T Φ n es) : Snd B T Φ n (.tup es) := .ofV rfl (fun _ => rfl) fun {Γ ρ env A α σ s e K} q hA I E hk => by
  obtain ⟨vs, k, p, rfl, q⟩ := vTup_ok q
  refine wpAny_Tuple_spliced (outL (hs.l q hA I E hk) fun vs cs σ' α' s' hv hc I' X => ⟨by rw [hc.length]; exact hv.1.line, ?_⟩)
  exact Out.trans X (newT (own := noOwn) (K := fun v σ => K [v] σ) (tk := s'.toks) I' hc hv.2 |> fun ⟨vs, σ₂, α₂, a, b, c, d⟩ => by
    match vs, a with
    | [v], a => exact ⟨[v], σ₂, α₂, a, b, c, d⟩)


theorem only_nil {x : X} {Γ : Fm} (h : (chk T x Γ).l [] = true) : x = .nil := by
  cases x <;> first | rfl | exact (Bool.false_ne_true h).elim
/-- a part of a slice -/
theorem part_ev {x : X} (hx : Snd B T Φ n x) {Γ : Fm} {ρ : Lv} {env : Env} {A : Around} {α : Nat → Addr} {σ : Sto} {s : Shared} {l : Option Expr} {K : LK} (q : partB (chk T x Γ) l = true) (hA : AOk A n) (I : SInv B α σ s)
    (E : EnvOk B Γ ρ α σ.length env s.heap) (hk : (mean Φ x).v ρ σ K) {Q : Value → Shared → Prop}
    (k : ∀ vs c σ' α' s', K vs σ' → ((vs = [] ∧ c = .none) ∨ ∃ v, vs = [v] ∧ VR α' σ'.length v c) → SInv B α' σ' s' → Ext B noOwn α σ s α' σ' s' → Q c s') : W B A (evalPart l env) s Q := by
  cases l with
  | none =>
    have := only_nil q
    subst this
    exact wpAny_evalPart_none (k [] .none σ α s hk (.inl ⟨rfl, rfl⟩) I .refl)
  | some e =>
    refine wpAny_evalPart_some (wpAny_mono (hx.v q hA I E hk) (fun c s' o_ => ?_) fun _ _ q => q)
    obtain ⟨vs, σ', α', hv, hc, I', X⟩ := o_
    match vs, hc with
    | [v], hc => exact k [v] c σ' α' s' hv (.inr ⟨v, rfl, hc.1⟩) I' X
theorem snd_slice {a lo hi : X} (ha : Snd B T Φ n a) (hl : Snd B T Φ n lo) (hh : Snd B T Φ n hi) : Snd B T Φ n (.slice a lo hi) := .ofV rfl (fun _ => rfl) fun {Γ ρ env A α σ s e K} q hA I E hk => by
  obtain ⟨v, j, p, rfl, q⟩ := vSub_ok q
  obtain ⟨l, u, st, p', rfl, q⟩ := vSlice_ok q
  obtain ⟨q0, q1, q2, q3⟩ := band4 q
  cases Option.isNone_iff_eq_none.mp q0
  refine PyProof.Rows.Subscript_ (out1 (ha.v q1 hA I E hk) fun v c σ' α' s' hv hc I' X => ?_)
  refine wpAny_Slice (part_ev hl q2 hA I' (E.ext I X) hv fun vs₂ c₂ σ₂ α₂ s₂ hv₂ hc₂ I₂ X₂ => ?_)
  refine part_ev hh q3 hA I₂ ((E.ext I X).ext I' X₂) hv₂ fun vs₃ c₃ σ₃ α₃ s₃ hv₃ hc₃ I₃ X₃ => ?_
  refine wpAny_evalPart_none ?_
  have hc₂' : (vs₂ = [] ∧ c₂ = .none) ∨ ∃ v, vs₂ = [v] ∧ VR α₃ σ₃.length v c₂ := hc₂.imp_right fun ⟨v, e, h⟩ => ⟨v, e, h.ext X₃⟩
  obtain ⟨⟨Ty, id, h1, h2⟩, h3⟩ := sliceS_ok (own := noOwn) (A := A) I₃ ((hc.ext X₂).ext X₃) hc₂' hc₃ hv₃
  refine tail_ok h1 h2 ?_ (sub_slice _ _ _ _ _)
  exact out1 h3 fun v₃ c₃ σ₄ α₄ s₄ hv₄ hc₄ I₄ X₄ => ⟨[v₃], σ₄, α₄, hv₄, ⟨hc₄, trivial⟩, I₄, ((X.trans X₂).trans X₃).trans X₄⟩


/-! ### names of the top, and calls -/
theorem gname {x : Str} {Γ : Fm} {ρ : Lv} {env : Env} {A : Around} {α : Nat → Addr} {σ : Sto} {s : Shared} {p : Pos} {v : Value} {Q : Value → Shared → Prop} (G : Gd B Kf T Φ n mg mb) (h : glob Γ x = true) (I : SInv B α σ s) (E : EnvOk B Γ ρ α σ.length env s.heap)
    (hv : nsIn Kf mainGlobals x = some (some v)) (k : Q v s) : W B A (eval (.Name x p) env) s Q := by
  have h := band h
  exact glob_ok G.gr I E (eq_of_beq h.1) (mg_of G.gr.kin G.gr.ng hv) (bnot h.2) k
theorem bname {x : Str} {Γ : Fm} {ρ : Lv} {env : Env} {A : Around} {α : Nat → Addr} {σ : Sto} {s : Shared} {p : Pos} {v : Value} {Q : Value → Shared → Prop} (G : Gd B Kf T Φ n mg mb) (h : glob Γ x = true) (I : SInv B α σ s) (E : EnvOk B Γ ρ α σ.length env s.heap)
    (hn : nsIn Kf mainGlobals x = some none) (hb : bootBuiltins x = some v) (hx : x ≠ "__name__") (k : Q v s) : W B A (eval (.Name x p) env) s Q := by
  have h := band h
  exact bltn_ok G.gr I E (eq_of_beq h.1) (mg_none_of G.gr.kin G.gr.ng hn) ((G.bb x hx).trans hb) (bnot h.2) k
theorem boot_bf (f : Bf) : bootBuiltins (bfName f) = some (bfV f) ∧ bfName f ≠ "__name__" := by
  cases f
  · exact ⟨PyProof.Rows.Boot.«len», by decide⟩
  · exact ⟨PyProof.Rows.Boot.«chr», by decide⟩
  · exact ⟨PyProof.Rows.Boot.«ord», by decide⟩
  · exact ⟨PyProof.Rows.Boot.«sum», by decide⟩
  · exact ⟨PyProof.Rows.Boot.«max», by decide⟩
  · exact ⟨PyProof.Rows.Boot.«list», by decide⟩
  · exact ⟨PyProof.Rows.Boot.«abs», by decide⟩
  · exact ⟨PyProof.Rows.Boot.«int», by decide⟩
  · exact ⟨PyProof.Rows.Boot.«divmod», by decide⟩
theorem snd_call {f : Nat} {es : X} (G : Gd B Kf T Φ n mg mb) (hs : Snd B T Φ n es) : Snd B T Φ n (.call f es) := .ofV rfl (fun _ => rfl) fun {Γ ρ env A α σ s e K} q hA I E hk => by
  obtain ⟨x, np, vs, p, rfl, q⟩ := vCallN_ok q
  obtain ⟨q1, q2, q3, q4⟩ := band4 q
  obtain ⟨⟨y, g, a⟩, hm, hy⟩ := List.any_eq_true.mp q4
  obtain ⟨y1, y2⟩ := band hy
  cases eq_of_beq y1
  cases eq_of_beq y2
  obtain ⟨t1, t2⟩ := G.tab.fn _ _ _ hm
  refine callN_ok (gname G q1 I E t1 ?_)
  refine callK_ok q2 t2 (outL (hs.l q3 hA I E hk) fun vs cs σ' α' s' hv hc I' X => ⟨I'.kin G.gr, ?_⟩)
  exact out1 (G.con.fn _ _ _ hm hA I' hc hv) fun v₃ c₃ σ₃ α₃ s₃ hv₃ hc₃ I₃ X₃ => ⟨[v₃], σ₃, α₃, hv₃, ⟨hc₃, trivial⟩, I₃, X.trans X₃⟩

theorem snd_new {es : X} (G : Gd B Kf T Φ n mg mb) (hs : Snd B T Φ n es) : Snd B T Φ n (.new es) := .ofV rfl (fun _ => rfl) fun {Γ ρ env A α σ s e K} q hA I E hk => by
  obtain ⟨x, np, vs, p, rfl, q⟩ := vCallN_ok q
  obtain ⟨q0, q1, q2, q3⟩ := band4 q
  obtain rfl := seq q0
  obtain ⟨t1, t2⟩ := G.tab.new
  refine callN_ok (gname G q1 I E t1 ?_)
  refine callK_ok q2 t2 (outL (hs.l q3 hA I E hk) fun vs cs σ' α' s' hv hc I' X => ⟨I'.kin G.gr, ?_⟩)
  exact out1 (G.con.nw hA I' hc hv) fun v₃ c₃ σ₃ α₃ s₃ hv₃ hc₃ I₃ X₃ => ⟨[v₃], σ₃, α₃, hv₃, ⟨hc₃, trivial⟩, I₃, X.trans X₃⟩

theorem snd_bcall {f : Bf} {es : X} (G : Gd B Kf T Φ n mg mb) (hs : Snd B T Φ n es) : Snd B T Φ n (.bcall f es) := .ofV rfl (fun _ => rfl) fun {Γ ρ env A α σ s e K} q hA I E hk => by
  obtain ⟨x, np, vs, p, rfl, q⟩ := vCallN_ok q
  obtain ⟨q0, q1, q2, q3⟩ := band4 q
  obtain rfl := seq q0
  obtain ⟨b1, b2⟩ := boot_bf f
  refine callN_ok (bname G q1 I E (G.tab.blt f) b1 b2 ?_)
  have fin : ∀ (first : List Value), first = [] → W B A (spliced (backTo p (starEach vs env))) s fun cs s' => W B A (call (bfV f) (first ++ cs)) s' fun c s' => Out B noOwn α σ s K [c] s' := fun first e => by
    subst e
    refine outL (hs.l q3 hA I E hk) fun vs cs σ' α' s' hv hc I' X => ?_
    exact out1 (bfS_ok (own := noOwn) (hA.less (Nat.zero_le _)) I' hc hv) fun v₃ c₃ σ₃ α₃ s₃ hv₃ hc₃ I₃ X₃ => ⟨[v₃], σ₃, α₃, hv₃, ⟨hc₃, trivial⟩, I₃, X.trans X₃⟩
  cases f <;> first | exact callB_ok q2 (fin [] rfl) | exact callT_ok q2 (fin [] rfl)

theorem snd_range {es : X} (G : Gd B Kf T Φ n mg mb) (hs : Snd B T Φ n es) : Snd B T Φ n (.range es) := by
  constructor
  · intro Γ ρ env A α σ s e K q; exact (Bool.false_ne_true q).elim
  · intro Γ ρ env A α σ s es pos K q; exact (Bool.false_ne_true q).elim
  · intro Γ ρ env A α σ s e K q; exact (Bool.false_ne_true q).elim
  · intro Γ ρ env A α σ s es op K q; exact (Bool.false_ne_true q).elim
  · intro Γ ρ env A α σ s e K q hA I E hk
    obtain ⟨x, np, vs, p, rfl, q⟩ := vCallN_ok q
    obtain ⟨q0, q1, q2, q3⟩ := band4 q
    obtain rfl := seq q0
    refine callN_ok (bname G q1 I E G.tab.more.1 (v := .type "range") ?_ ?_ ?_)
    · exact PyProof.Rows.Boot.«range»
    · decide
    · refine callT_ok q2 (outL (hs.l q3 hA I E hk) fun vs cs σ' α' s' hv hc I' X => ?_)
      exact wpAny_mono (range_ok (own := noOwn) I' hc hv) (fun c s₁ h => wpAny_mono h (fun _ _ o => OutI.trans X o) fun _ _ q => q) fun _ _ q => q

theorem snd_bm {m : Bm} {o es : X} (ho : Snd B T Φ n o) (hs : Snd B T Φ n es) : Snd B T Φ n (.bm m o es) := .ofV rfl (fun _ => rfl) fun {Γ ρ env A α σ s e K} q hA I E hk => by
  obtain ⟨v, x, ap, vs, p, rfl, q⟩ := vCallA_ok q
  obtain ⟨q0, q1, q2, q3⟩ := band4 q
  obtain rfl := seq q0
  obtain ⟨c1, c2, c3, c4⟩ := band4 q1
  refine callA_ok c1 c2 c3 c4 (out1 (ho.v q2 hA I E hk) fun v c σ' α' s' hv hc I' X => fun pl => ?_)
  refine bm_get I' hc hv.1 (callB_ok c2 (outL (hs.l q3 hA I' (E.ext I X) hv.2) fun vs cs σ₂ α₂ s₂ hv₂ hc₂ I₂ X₂ => ?_))
  exact out1 (bmS_ok (own := noOwn) (hA.less (Nat.zero_le _)) I₂ (hc.ext X₂) hc₂ hv₂) fun v₃ c₃ σ₃ α₃ s₃ hv₃ hc₃ I₃ X₃ => ⟨[v₃], σ₃, α₃, hv₃, ⟨hc₃, trivial⟩, I₃, (X.trans X₂).trans X₃⟩

theorem snd_attr {a : X} {name : List Nat} (G : Gd B Kf T Φ n mg mb) (ha : Snd B T Φ n a) : Snd B T Φ n (.attr a name) := .ofV rfl (fun _ => rfl) fun {Γ ρ env A α σ s e K} q hA I E hk => by
  obtain ⟨v, x, p, rfl, q⟩ := vAttr_ok q
  obtain ⟨q0, q1, q2, q3⟩ := band4 q
  obtain rfl := seq q0
  have hn := G.tab.att name (List.contains_iff_mem.mp q3)
  show W B A (do
    let o ← attributeBase v (nm name) env (eval v env)
    standAt p.atName
    let r ← holding [o] (getAttr o (nm name) true)
    letTemporaryGo v o r
    pure r) s _
  rw [base_ok q1]
  refine wpAny_bind (out1 (ha.v q2 hA I E hk) fun v c σ' α' s' hv hc I' X => ?_)
  refine wpAny_bind (wpAny_standAt (wpAny_bind (wpAny_holding ?_)))
  refine out1 (attS_ok (own := noOwn) (I'.kin G.gr) G.tab.cls I' hn hc hv) fun v₃ c₃ σ₃ α₃ s₃ hv₃ hc₃ I₃ X₃ => ?_
  exact wpAny_bind (wpAny_letTemporaryGo (wpAny_pure ⟨[v₃], σ₃, α₃, hv₃, ⟨hc₃, trivial⟩, I₃, X.trans X₃⟩))

theorem snd_cm {m : Nat} {name : List Nat} {o es : X} (G : Gd B Kf T Φ n mg mb) (ho : Snd B T Φ n o) (hs : Snd B T Φ n es) : Snd B T Φ n (.cm m name o es) := .ofV rfl (fun _ => rfl) fun {Γ ρ env A α σ s e K} q hA I E hk => by
  obtain ⟨v, x, ap, vs, p, rfl, q⟩ := vCallA_ok q
  obtain ⟨q0, q1, q2, q3, q4⟩ := band5 q
  obtain rfl := seq q0
  obtain ⟨c1, c2, c3, c4⟩ := band4 q1
  obtain ⟨⟨y, g, a⟩, hm, hy⟩ := List.any_eq_true.mp q4
  obtain ⟨y1, y2⟩ := band hy
  cases eq_of_beq y1
  cases eq_of_beq y2
  obtain ⟨t1, t2, t3⟩ := G.tab.me _ _ _ hm
  refine callA_ok c1 c2 c3 c4 (out1 (ho.v q2 hA I E hk) fun v c σ' α' s' hv hc I' X => fun pl => ?_)
  obtain ⟨hm1, hm2⟩ := hv
  have sh : Ex4 fun (x dx : Addr) (cs : List DictEntry) (k : Nat) => A3 (c = .ref x) (InstAt s'.heap x { cls := .ref B.cls, dict := some dx, data := .plain } B.cls (some (dictOf cs k))) (getL (nm name) cs = some none) := by
    unfold mthS at hm1
    split at hm1
    · split at hm1
      · rename_i d hr
        split at hm1
        · rename_i es hd
          obtain ⟨cs, k, e1, e2, e3, e4⟩ := instAt I' hr hd hc
          exact ⟨_, _, cs, k, e1, e4, e2.get.2 hm1⟩
        · exact hm1.elim
      · exact hm1.elim
    · exact hm1.elim
  obtain ⟨x, dx, es', k, rfl, hi, hl⟩ := sh
  have KI := I'.kin G.gr
  refine method_fn KI hi (plainGet_of G.tab.cls.plain).1 (plainGet_of G.tab.cls.plain).2 t1 (beq_iff_eq.mp t2) (by show (lookIn (nm name) (dictOf es' k)).map _ = _; rw [lookIn_dict, hl]; rfl) ?_
  refine callK_ok c2 t3 (outL (hs.l q3 hA I' (E.ext I X) hm2) fun vs cs σ₂ α₂ s₂ hv₂ hc₂ I₂ X₂ => ⟨I₂.kin G.gr, ?_⟩)
  exact out1 (G.con.me _ _ _ hm hA I₂ (hc.ext X₂) hc₂ hv₂) fun v₃ c₃ σ₃ α₃ s₃ hv₃ hc₃ I₃ X₃ => ⟨[v₃], σ₃, α₃, hv₃, ⟨hc₃, trivial⟩, I₃, (X.trans X₂).trans X₃⟩

theorem snd_cr {name : List Nat} {o es : X} (G : Gd B Kf T Φ n mg mb) (ho : Snd B T Φ n o) (hs : Snd B T Φ n es) : Snd B T Φ n (.cr name o es) := .ofV rfl (fun _ => rfl) fun {Γ ρ env A α σ s e K} q hA I E hk => by
  obtain ⟨v, x, ap, vs, p, rfl, q⟩ := vCallA_ok q
  obtain ⟨q0, q1, q2, q3, q4⟩ := band5 q
  obtain rfl := seq q0
  obtain ⟨c1, c2, c3, c4⟩ := band4 q1
  have hn := G.tab.att name (List.contains_iff_mem.mp q4)
  refine callA_ok c1 c2 c3 c4 (out1 (ho.v q2 hA I E hk) fun v c σ' α' s' hv hc I' X => fun pl => ?_)
  have KI := I'.kin G.gr
  have sh : Ex2 fun (x : Addr) (od : Obj) => c = .ref x ∧ ∃ dx, InstAt s'.heap x { cls := .ref B.cls, dict := some dx, data := .plain } B.cls (some od) := by
    unfold attS at hv
    split at hv
    · split at hv
      · rename_i d hr
        split at hv
        · rename_i es hd
          obtain ⟨cs, k, e1, e2, e3, e4⟩ := instAt I' hr hd hc
          exact ⟨_, _, e1, _, e4⟩
        · exact hv.elim
      · exact hv.elim
    · exact hv.elim
  obtain ⟨x, od, rfl, dx, hi⟩ := sh
  refine method_usual KI hi (plainGet_of G.tab.cls.plain).1 (plainGet_of G.tab.cls.plain).2 hn rfl ?_
  refine out1 (attS_ok (own := noOwn) KI G.tab.cls I' hn hc hv) fun f cf σ₁ α₁ s₁ hf hcf I₁ X₁ => ?_
  cases f with
  | obj q =>
    obtain ⟨hq, rfl⟩ := hcf
    refine callF_ok c2 (outL (hs.l q3 hA I₁ ((E.ext I X).ext I' X₁) hf) fun vs cs σ₂ α₂ s₂ hv₂ hc₂ I₂ X₂ => ?_)
    have hq₂ := Nat.lt_of_lt_of_le hq X₂.len
    have := G.con.rd hA I₂ hq₂ hc₂ hv₂
    rw [X₂.agree q hq] at this
    exact ⟨this.1, out1 this.2 fun v₃ c₃ σ₃ α₃ s₃ hv₃ hc₃ I₃ X₃ => ⟨[v₃], σ₃, α₃, hv₃, ⟨hc₃, trivial⟩, I₃, ((X.trans X₁).trans X₂).trans X₃⟩⟩
  | _ => exact hf.elim

end
end MI.Internal
end

section
set_option Elab.async false
set_option linter.all false
set_option maxRecDepth 10000
namespace MI.Internal
open PySem PySem.W PySem.Calls

section
variable {B : Base} {Kf : Frag} {T : Tab} {Φ : Con} {n : Nat} {mg mb : Str → Option Value} {α α' : Nat → Addr} {σ σ' : Sto} {s s' : Shared} {A : Around}

theorem lot_ok {it : It} {a : Addr} {tg : Expr} {v : Value} {Q : Unit → Shared → Prop} (X : ItOk α σ it a s.heap) (k : Q () s) : W B A (letOwnedTupleGo tg (.ref a) v) s Q := by
  have typ : Ex3 fun (o : Obj) (n : String) (vs : Array Value) => A4 (s.heap.get? a = some o) (o.cls = .type n) (o.data = .fields vs) (["enumerate", "zip", "dict_itemiterator", "dict_reverseitemiterator", "odict_iterator", "itertools.zip_longest", "itertools.pairwise"].contains n = false) := by
    cases it with
    | lst r i => obtain ⟨_, o, ho, hc, hd⟩ := X; exact ⟨o, _, _, ho, hc, hd, by decide⟩
    | tp r i => obtain ⟨_, o, ho, hc, hd⟩ := X; exact ⟨o, _, _, ho, hc, hd, by decide⟩
    | str l => obtain ⟨_, _, _, ⟨o, ho, hc, hd⟩ | ⟨o, ho, hc, hd⟩, _⟩ := X <;> exact ⟨o, _, _, ho, hc, hd, by decide⟩
    | byt l => obtain ⟨_, _, _, ⟨o, ho, hc, hd⟩, _⟩ := X; exact ⟨o, _, _, ho, hc, hd, by decide⟩
    | rng c d n => exact ⟨_, _, _, X, rfl, rfl, by decide⟩
  obtain ⟨o, n, vs, ho, hc, hd, hn⟩ := typ
  cases tg with
  | Tuple es kk p =>
    cases v with
    | ref b =>
      show wpAny _ _ (load a >>= _) _ _ _
      refine wpAny_bind (wpAny_load ho ?_)
      simp only [hc, hd, hn, Bool.false_and, Bool.false_eq_true, if_false]
      exact wpAny_pure k
    | _ => exact wpAny_pure k
  | List es p =>
    cases v with
    | ref b =>
      show wpAny _ _ (load a >>= _) _ _ _
      refine wpAny_bind (wpAny_load ho ?_)
      simp only [hc, hd, hn, Bool.false_and, Bool.false_eq_true, if_false]
      exact wpAny_pure k
    | _ => exact wpAny_pure k
  | _ => exact wpAny_pure k
theorem self_ok {it : It} {a : Addr} {Q : Value → Shared → Prop} (X : ItOk α σ it a s.heap) (k : Q (.ref a) s) : W B A (pyIter (.ref a)) s Q := by
  cases it with
  | lst r i => exact wpAny_pyIter_listiter X.2 k
  | tp r i => exact wpAny_pyIter_tupleiter X.2 k
  | str l =>
    obtain ⟨_, _, _, h | h, _⟩ := X
    · exact wpAny_pyIter_striter_ascii h k
    · exact wpAny_pyIter_striter_wide h k
  | byt l => obtain ⟨_, _, _, h, _⟩ := X; exact KBw.pyIter_self h k
  | rng c d n => exact wpAny_pyIter_rangeiter X k

noncomputable def TestC (B : Base) (A : Around) (elt : Expr) (acc : Value) (env : Env) (I : Nat → Shared → Prop) (k : Nat) (ok : Bool) (s : Shared) : Prop := match ok with
  | true => W B A (eval elt env) s fun x s => W B A (call (.builtin "list.append") [acc, x]) s fun _ s => ∃ m, m < k ∧ I m s
  | false => ∃ m, m < k ∧ I m s
noncomputable def NextC (B : Base) (A : Around) (elt tg : Expr) (ifs : List Expr) (it acc : Value) (env : Env) (I : Nat → Shared → Prop) (Q : Shared → Prop) (k : Nat) (r : Option Value) (s : Shared) : Prop := match r with
  | none => Q s
  | some v => W B A (letOwnedTupleGo tg it v) s fun _ s => W B A (assign tg env v) s fun _ s =>
      W B A (forIn ifs true fun c r => if r = true then do let ok ← isTrue c env (eval c env); pure (ForInStep.yield ok) else pure (ForInStep.yield r)) s (TestC B A elt acc env I k)
theorem compLoop_ok {R : Result → Shared → Prop} {Q : Shared → Prop} {elt target iter : Expr} {ifs : List Expr} {scope : Scope} {pos : Pos} {it acc : Value} {env : Env} (I : Nat → Shared → Prop) (hR : ∀ s, Q s → R (.ok .next) s)
    (turn : ∀ k s, I k s → W B A (pyNext it) s (NextC B A elt target ifs it acc env I Q k)) (n : Nat) (h : I n s) : codeAny (model B.p B.w) A (.compLoop (.ListComp elt [⟨target, iter, ifs, 0⟩] scope pos) 0 it acc env) R s := by
  refine codeAny_loop rfl I (fun n s hI => ?_) n h
  show wpAny _ A ((compTurn (.ListComp elt [⟨target, iter, ifs, 0⟩] scope pos) 0 it acc env).onRaise (fun x => do noteFrame x env; theTreesLotGoes x)) _ _ s
  refine wpAny_noted ?_
  rw [compTurn_list]
  refine wpAny_bind (wpAny_standAt (wpAny_bind (wpAny_mono (turn n s hI) (fun r s₁ h₁ => ?_) fun _ _ h' => h'.elim)))
  cases r with
  | none => exact wpAny_pure (hR _ h₁)
  | some v =>
    refine wpAny_bind (wpAny_mono h₁ (fun _ s₁' h₁' => ?_) fun _ _ h' => h'.elim)
    refine wpAny_bind (wpAny_mono h₁' (fun _ s₂ h₂ => wpAny_bind (wpAny_mono h₂ (fun ok s₃ h₃ => ?_) fun _ _ h' => h'.elim)) fun _ _ h' => h'.elim)
    cases ok with
    | false => exact wpAny_pure ⟨rfl, h₃⟩
    | true =>
      exact wpAny_bind (wpAny_bind (wpAny_mono h₃ (fun x s₄ h₄ => wpAny_bind (wpAny_mono h₄ (fun _ s₅ h₅ => wpAny_pure (wpAny_pure ⟨rfl, h₅⟩)) fun _ _ h' => h'.elim)) fun _ _ h' => h'.elim))

theorem setsL_tail : ∀ (k : Nat) (xs : List V) (ρ : Lv) (zs : List (Option V)), xs.length = k → zs.length = k → setsL ((List.range k).map (ρ.length + ·)) xs (ρ ++ zs : Lv) = (ρ ++ xs.map some : Lv)
  | 0, xs, ρ, zs, h1, h2 => by
    cases List.length_eq_zero_iff.mp h1
    cases List.length_eq_zero_iff.mp h2
    rfl
  | k + 1, x :: xs, ρ, z :: zs, h1, h2 => by
    rw [List.range_succ_eq_map]
    rw [List.map_cons, List.map_map]
    show setsL _ _ ((ρ ++ z :: zs : Lv).set ρ.length (some x)) = _
    have e : (ρ ++ z :: zs : Lv).set ρ.length (some x) = (ρ ++ [some x]) ++ zs := by
      rw [List.set_append_right _ _ (Nat.le_refl _)]
      simp
    rw [e]
    have := setsL_tail k xs (ρ ++ [some x]) zs (by simpa using h1) (by simpa using h2)
    have e2 : List.map ((fun x => ρ.length + x) ∘ Nat.succ) (List.range k) = List.map (fun j => (ρ ++ [some x]).length + j) (List.range k) := by
      apply List.map_congr_left
      intro i _
      simp; lia
    rw [e2, this]
    simp
  | k + 1, [], _, _, h1, _ => by simp at h1
  | k + 1, _ :: _, _, [], _, h2 => by simp at h2

theorem test_ok {cond : X} {Γ : Fm} {ρ : Lv} {env : Env} {ifs : List Expr} {K : Bool → Sto → Prop} (hc : Snd B T Φ n cond) (q : ifsB (chk T cond Γ) ifs = true) (hA : AOk A n)
    (I : SInv B α σ s) (E : EnvOk B Γ ρ α σ.length env s.heap) (hk : (mean Φ cond).t ρ σ K) :
    W B A (forIn ifs true fun c r => if r = true then do let ok ← isTrue c env (eval c env); pure (ForInStep.yield ok) else pure (ForInStep.yield r)) s fun b s' => OutB B noOwn α σ s K b s' := by
  cases ifs with
  | nil =>
    have := only_nil q
    subst this
    exact wpAny_tests_nil ⟨σ, α, hk, I, .refl⟩
  | cons c l =>
    obtain ⟨a, e, q⟩ := v1_ok q
    obtain ⟨rfl, rfl⟩ := List.cons.inj e
    exact wpAny_tests_one (hc.t q hA I E hk)

theorem nmB_ok {m : Nat} {tg : Expr} (h : nmB m tg = true) : m ≠ 1 ∨ ∃ x p, tg = .Name x p := by
  rcases Bool.or_eq_true_iff.mp h with q | q
  · exact .inl (bne_iff_ne.mp q)
  · obtain ⟨x, p, e, _⟩ := vName_ok q
    exact .inr ⟨x, p, e⟩
/-- between a comprehension's turns -/
inductive CInv (B : Base) (Γ' : Fm) (ρ : Lv) (cenv : Env) (s₀ : Shared) (α₀ : Nat → Addr) (σ₀ : Sto) (a D : Addr) (step : V → Sto → (Option V → Sto → Prop) → Prop) (Kf' : List V → Sto → Prop) (k : Nat) (s : Shared) : Prop
  | mk (α : Nat → Addr) (σ : Sto) (it : It) (acc : List V) (cs : List Value) (mm : Nat) (i : SInv B α σ s) (e : EnvOk B Γ' ρ α σ.length cenv s.heap) (y : ItAt B α σ it a s)
    (d : s.heap.get? D = some { cls := .type "list", data := .seq cs.toArray mm }) (v : VRs α σ.length acc cs) (o : ∀ r, r < σ.length → α r ≠ D) (x : Ext B (fun b => s₀.heap.get? b = none) α₀ σ₀ s₀ α σ s)
    (k : compS step k it acc σ Kf')

/-- a comprehension's end -/
inductive CEnd (B : Base) (C D : Addr) (Kf' : List V → Sto → Prop) (s₀ : Shared) (α₀ : Nat → Addr) (σ₀ : Sto) (s' : Shared) : Prop
  | mk (acc : List V) (α : Nat → Addr) (σ : Sto) (cs : List Value) (mm : Nat) (k : Kf' acc σ) (i : SInv B α σ s') (z : ∃ z, s'.heap.Ns C z) (oc : ∀ r, r < σ.length → α r ≠ C) (d : s'.heap.get? D = some { cls := .type "list", data := .seq cs.toArray mm })
    (v : VRs α σ.length acc cs) (od : ∀ r, r < σ.length → α r ≠ D) (x : Ext B (fun b => s₀.heap.get? b = none) α₀ σ₀ s₀ α σ s')
structure CompF (B : Base) (Γ' : Fm) (cenv : Env) (a D : Addr) (s₀ : Shared) : Prop where
  hD : B.h₀.get? D = none
  hDa : D ≠ a
  oa : OffEnv Γ' cenv a
  oD : OffEnv Γ' cenv D
  fa : s₀.heap.get? a = none
  fD : s₀.heap.get? D = none
  fo : ∀ b, ownOf Γ' cenv b → s₀.heap.get? b = none
theorem env_weak {Γ' : Fm} {ρ : Lv} {cenv : Env} {ws : List V} {xs : List Str} {n : Nat} {h : Heap} (hl : ws.length = xs.length) (x : EnvOk B Γ' (ρ ++ ws.map some) α n cenv h) : EnvOk B Γ' (ρ ++ xs.map fun _ => none) α n cenv h := x.weak (by simp [hl]) fun i v hv => by
  rw [List.getElem?_append] at hv ⊢
  split at hv
  · rename_i q; rw [if_pos q]; exact hv
  · rw [List.getElem?_map] at hv
    obtain ⟨_, _, q⟩ := Option.map_eq_some_iff.mp hv
    cases q
theorem comp_elt {Γ' : Fm} {ρ : Lv} {cenv : Env} {s₀ : Shared} {α₀ : Nat → Addr} {σ₀ : Sto} {a D : Addr} {elt : X} {el : Expr} {k mm : Nat} {ws : List V} {xs : List Str} {it' : It} {acc : List V} {cs : List Value} {step : V → Sto → (Option V → Sto → Prop) → Prop} {Kf' : List V → Sto → Prop}
    (he : Snd B T Φ n elt) (hA : AOk A n) (q5 : (chk T elt Γ').e el = true) (F : CompF B Γ' cenv a D s₀) (hl : ws.length = xs.length) (I : SInv B α σ s) (E : EnvOk B Γ' (ρ ++ ws.map some) α σ.length cenv s.heap) (Y : ItAt B α σ it' a s)
    (hL : s.heap.get? D = some { cls := .type "list", data := .seq cs.toArray mm }) (hcs : VRs α σ.length acc cs) (hoff : ∀ r, r < σ.length → α r ≠ D) (X : Ext B (fun b => s₀.heap.get? b = none) α₀ σ₀ s₀ α σ s)
    (hk : (mean Φ elt).v (ρ ++ ws.map some) σ (one fun x σ => Fits acc.length ∧ compS step k it' (acc ++ [x]) σ Kf')) :
    W B A (eval el cenv) s fun x s => W B A (call (.builtin "list.append") [.ref D, x]) s fun _ s => ∃ m, m < k + 1 ∧ CInv B Γ' (ρ ++ xs.map fun _ => none) cenv s₀ α₀ σ₀ a D step Kf' m s := by
  refine out1 (he.v q5 hA I E hk) fun x cx σ₄ α₄ s₄ hx hcx I₄ X₄ => ?_
  have hL₄ := X₄.keep D _ hL hoff id (I.ntb F.hD)
  have hoff₄ := X₄.off I hL hoff id
  have hcs₄ := hcs.ext X₄
  obtain ⟨n', e1, e2⟩ := isL_same (h' := s₄.heap) hL₄ (fun x => x.push cx)
  refine call_meets PySem.F.slot_list_append ⟨_, hL₄, rfl⟩ PySem.F.entry_list_append (PySem.F.args_list_append_2 _ _) (PySem.list_append D cs.toArray mm cx (by rw [List.size_toArray, hcs₄.length]; exact hx.1.line)) ⟨hL₄, ?_⟩
  obtain ⟨J, X₅⟩ := I₄.aside (tk := s₄.toks) (d := s₄.drawn) F.hD hoff₄ fun b o hb e => (e2 b hb).trans e
  refine ⟨k, Nat.lt_succ_self k, α₄, σ₄, it', acc ++ [x], cs ++ [cx], n', J, env_weak hl ((E.ext I X₄).extOwn I₄ X₅ fun b q => by subst q; exact F.oD), (Y.ext I X₄ id).ext I₄ X₅ (fun q => F.hDa q.symm), ?_, hcs₄.append (ws := [x]) (ds := [cx]) ⟨hcx, trivial⟩, hoff₄, (X.trans X₄.lift).trans (X₅.weaken fun b q => by subst q; exact F.fD), hx.2⟩
  rw [e1]
  simp
theorem comp_one {Γ' : Fm} {ρ : Lv} {cenv : Env} {s₀ : Shared} {α₀ : Nat → Addr} {σ₀ : Sto} {a D : Addr} {elt cond : X} {tg el : Expr} {ifs : List Expr} {k m : Nat} {xs : List Str} {Kf' : List V → Sto → Prop}
    (G : Gd B Kf T Φ n mg mb) (he : Snd B T Φ n elt) (hc : Snd B T Φ n cond) (hA : AOk A n)
    (q1 : tgtNames tg = some xs) (q2 : xs.length = m) (q3 : m ≠ 1 ∨ ∃ x p, tg = .Name x p) (q4 : Places Γ' ((List.range m).map (ρ.length + ·)) xs) (q5 : (chk T elt Γ').e el = true)
    (q6 : ifsB (chk T cond Γ') ifs = true) (F : CompF B Γ' cenv a D s₀)
    (hI : CInv B Γ' (ρ ++ xs.map fun _ => none) cenv s₀ α₀ σ₀ a D (stepC (mean Φ cond).t (mean Φ elt).v m ρ) Kf' k s) :
    W B A (pyNext (.ref a)) s (NextC B A el tg ifs (.ref a) (.ref D) cenv (CInv B Γ' (ρ ++ xs.map fun _ => none) cenv s₀ α₀ σ₀ a D (stepC (mean Φ cond).t (mean Φ elt).v m ρ) Kf') (CEnd B cenv.locals D Kf' s₀ α₀ σ₀) k) := by
  obtain ⟨α, σ, it, acc, cs, mm, I, E, Y, hL, hcs, hoff, X, h⟩ := hI
  cases k with
  | zero => exact h.elim
  | succ k =>
    rcases comp_cases h with ⟨e, h⟩ | ⟨v, it', e, h⟩
    · refine wpAny_mono (next_ok hA.h I Y e) (fun r s₁ o => ?_) fun _ _ f => f
      obtain ⟨I₁, X₁, rfl⟩ := o
      have E₁ := E.extOwn I X₁ fun b q => by subst q; exact F.oa
      exact ⟨acc, α, σ, cs, mm, h, I₁, let ⟨z, hz, _⟩ := E₁.loc; ⟨z, hz⟩, E₁.locO, X₁.keep D _ hL hoff F.hDa (I.ntb F.hD), hcs, hoff, X.trans (X₁.weaken fun b q => by subst q; exact F.fa)⟩
    · refine wpAny_mono (next_ok hA.h I Y e) (fun r s₁ o => ?_) fun _ _ f => f
      obtain ⟨I₁, X₁, c, rfl, hcv, Y₁⟩ := o
      have E₁ := E.extOwn I X₁ fun b q => by subst q; exact F.oa
      have hL₁ := X₁.keep D _ hL hoff F.hDa (I.ntb F.hD)
      refine lot_ok Y₁.ok ?_
      have ln : ((List.range m).map (ρ.length + ·)).length = m := by simp
      refine wpAny_mono (target_ok G.gr hA.h I₁ E₁ q1 q4 hcv (by rw [ln]; exact h) (by rw [ln, q2]) (fun h1 => q3.elim (fun q => absurd (q2 ▸ h1) q) id)) (fun _ s₂ o => ?_) fun _ _ f => f
      obtain ⟨ws, hk, hlen, α₂, I₂, E₂, X₂⟩ := o
      rw [ln] at hlen
      rw [setsL_tail m ws ρ _ hlen (by simpa using q2)] at E₂
      have hL₂ := X₂.keep D _ hL₁ hoff F.oD.own (I₁.ntb F.hD)
      have hoff₂ := X₂.off I₁ hL₁ hoff F.oD.own
      have Z₂ := (X.trans (X₁.weaken fun b q => by subst q; exact F.fa)).trans (X₂.weaken F.fo)
      refine wpAny_mono (test_ok hc q6 hA I₂ E₂ hk) (fun b s₃ o => ?_) fun _ _ f => f
      obtain ⟨σ₃, α₃, hb, I₃, X₃⟩ := o
      have E₃ := E₂.ext I₂ X₃
      have Y₃ := (Y₁.ext I₁ X₂ F.oa.own).ext I₂ X₃ id
      have hL₃ := X₃.keep D _ hL₂ hoff₂ id (I₂.ntb F.hD)
      have hoff₃ := X₃.off I₂ hL₂ hoff₂ id
      have hcs₃ := (hcs.ext X₂).ext X₃
      have Z₃ := Z₂.trans X₃.lift
      cases b with
      | false => exact ⟨k, Nat.lt_succ_self k, α₃, σ₃, it', acc, cs, mm, I₃, env_weak (hlen.trans q2.symm) E₃, Y₃, hL₃, hcs₃, hoff₃, Z₃, hb.1 rfl⟩
      | true => exact comp_elt he hA q5 F (hlen.trans q2.symm) I₃ E₃ Y₃ hL₃ hcs₃ hoff₃ Z₃ (hb.2 rfl)
theorem adopt_ok {own : Addr → Prop} {D : Addr} {acc : List V} {cs : List Value} {mm : Nat} (I : SInv B α σ s) (hL : s.heap.get? D = some { cls := .type "list", data := .seq cs.toArray mm }) (hcs : VRs α σ.length acc cs) (hoff : ∀ r, r < σ.length → α r ≠ D) (ht : B.h₀.get? D = none)
    (ho : own D) : SInv B (put α σ.length D) (σ ++ [.list acc]) s ∧ Ext B own α σ s (put α σ.length D) (σ ++ [.list acc]) s := by
  have hl : (σ ++ [O.list acc]).length = σ.length + 1 := by simp
  refine ⟨⟨fun r r' h1 h2 e => ?_, fun r h => ?_, fun r y h => ?_, I.base, I.tab.more fun r h => put_lt h, I.bare, I.os⟩, ⟨fun r h => put_lt h, by simp, fun r h1 h2 => ?_, fun b o e _ _ _ => e, fun b o e _ => ⟨o, e⟩, Nat.le_refl _, fun _ _ => rfl⟩⟩
  · rw [hl] at h1 h2
    by_cases q : r = σ.length
    · by_cases q' : r' = σ.length
      · rw [q, q']
      · subst q
        rw [put_self, put_lt (by lia)] at e
        exact absurd e.symm (hoff r' (by lia))
    · by_cases q' : r' = σ.length
      · subst q'
        rw [put_self, put_lt (by lia)] at e
        exact absurd e (hoff r (by lia))
      · rw [put_lt (by lia), put_lt (by lia)] at e
        exact I.inj r r' (by lia) (by lia) e
  · rw [hl] at h
    by_cases q : r = σ.length
    · subst q; rw [put_self]; exact ht
    · rw [put_lt (by lia)]; exact I.top r (by lia)
  · rw [hl]
    by_cases q : r = σ.length
    · subst q
      have : y = .list acc := by simpa using h.symm
      subst this
      exact ⟨_, by rw [put_self]; exact hL, cs, mm, hcs.mono (Nat.le_succ _) fun r hr => put_lt hr, rfl⟩
    · have l : r < σ.length := by
        have := (List.getElem?_eq_some_iff.mp h).1
        rw [hl] at this
        lia
      have h' : σ[r]? = some y := by rwa [List.getElem?_append_left l] at h
      obtain ⟨o', e, z⟩ := I.objs r y h'
      exact ⟨o', by rw [put_lt l]; exact e, z.mono (Nat.le_succ _) fun r hr => put_lt hr⟩
  · have : r = σ.length := by simp at h2; lia
    subst this
    rw [put_self]
    exact .inr ho

theorem i_noSet {x : X} {Γ : Fm} {e : Expr} (h : (chk T x Γ).i e = true) : noSet e = true := by
  cases x <;> first | exact (Bool.and_eq_true_iff.mp h).2 | exact (Bool.false_ne_true h).elim | skip
  obtain ⟨x, np, vs, p, rfl, _⟩ := vCallN_ok h
  rfl

/-- what a comprehension's own things are for the frame around it -/
theorem fresh_off {Γ : Fm} {ρ : Lv} {env : Env} {nn : Nat} {s₀ : Shared} (E : EnvOk B Γ ρ α nn env s₀.heap) {b : Addr} (h : s₀.heap.get? b = none) : OffEnv Γ env b := by
  refine ⟨fun e => ?_, fun i x c h1 h2 h3 e => ?_⟩
  · obtain ⟨_, ⟨o, _, _, ho, _⟩, _⟩ := E.loc
    rw [← e, h] at ho; cases ho
  · obtain ⟨c', _, a, ⟨o, ho, _⟩, _⟩ := E.cell i x h1 h2
    rw [h3] at a; cases a
    rw [← e, h] at ho; cases ho

theorem comp_core {elt cond iter : X} {m : Nat} {Γ : Fm} {ρ : Lv} {env : Env} {el : Expr} {gens : List Comprehension} {sc : Scope} {pos : Pos} {K : LK} {use : Option (Value → Sem Unit)} {Q : Value → Shared → Prop}
    (G : Gd B Kf T Φ n mg mb) (he : Snd B T Φ n elt) (hi : Snd B T Φ n iter) (hc : Snd B T Φ n cond) (q : (chk T (.comp elt m iter cond) Γ).e (.ListComp el gens sc pos) = true) (hA : AOk A n) (I : SInv B α σ s) (E : EnvOk B Γ ρ α σ.length env s.heap)
    (hk : (mean Φ (.comp elt m iter cond)).v ρ σ K)
    (fin : ∀ D C s' α' σ', K [.obj σ'.length] (σ' ++ [.list []]) ∨ True → (∃ acc, A3 (K [.obj σ'.length] (σ' ++ [.list acc])) (SInv B (put α' σ'.length D) (σ' ++ [.list acc]) s') (Ext B noOwn α σ s (put α' σ'.length D) (σ' ++ [.list acc]) s')) →
      B.h₀.get? C = none → s.heap.get? C = none → s.heap.get? D = none → (∀ r, r < σ'.length + 1 → put α' σ'.length D r ≠ C) → (∃ z, s'.heap.Ns C z) → compPost (model B.p B.w) A (fun _ _ => False) use Q (.ref D) C (.ok .next) s') :
    W B A (comprehension (.ListComp el gens sc pos) sc env (firstIterPos gens pos) (newList []) (firstAsync gens) (firstIter gens env) use) s Q := by
  obtain ⟨⟨tg, it0, ifs, az⟩, rfl, q⟩ := v1_ok q
  obtain ⟨c0, c1, c2⟩ := band3 q
  have c0 : (az == 0) = true := c0
  cases eq_of_beq c0
  obtain ⟨xs, ht, c2⟩ := tgB_ok c2
  obtain ⟨d1, d2, d3, d4, d5, d6⟩ := band6 c2
  have d1 := eq_of_beq d1
  have hfa : firstAsync [⟨tg, it0, ifs, (0 : Int)⟩] = false := rfl
  rw [hfa]
  have hs' := d3
  simp only [scOk, Bool.and_eq_true, List.all_eq_true, beq_iff_eq, Option.isNone_iff_eq_none, Bool.not_eq_true'] at hs'
  have hnames : ∀ x ∈ sc.names, x.2 = .local → sc.names.lookup x.1 = some .local := fun x hx hl => by
    rw [((hs'.1.1.1.2 x hx).1.1.2), hl]
  obtain ⟨hfree, _⟩ := compEnv_ok I E d3
  refine wpAny_comprehension_free (g := ⟨tg, it0, ifs, 0⟩) (gs := []) rfl (noSet_fold (i_noSet c1) env) (closure_eq hfree) hs'.1.1.1.1 hnames ?_
  show W B A (eval it0 env) s _
  refine wpAny_mono (hi.it c1 hA I E hk) (fun c s₁ h₁ => wpAny_mono h₁ (fun itv s₂ o => ?_) fun _ _ f => f) fun _ _ f => f
  obtain ⟨it, a, σ₂, α₂, rfl, ⟨k, hk₂⟩, I₂, X₂, Y₂, fa⟩ := o
  have E₂ := E.ext I X₂
  refine wpAny_newList ?_ (by decide)
  -- the list
  have keepD : ∀ b o, s₂.heap.get? b = some o → (s₂.heap.push { cls := .type "list", data := .seq ([] : List Value).toArray }).get? b = some o := fun b o e => Heap.get?_push_of_some _ e
  have I₃ := I₂.grow (tk := s₂.toks) (d := s₂.drawn) keepD
  have X₃ : Ext B noOwn α₂ σ₂ s₂ α₂ σ₂ { s₂ with heap := s₂.heap.push { cls := .type "list", data := .seq ([] : List Value).toArray } } := .grow (tk := s₂.toks) (d := s₂.drawn) keepD
  have E₃ := E₂.ext I₂ X₃
  have Y₃ := Y₂.ext I₂ X₃ id
  have X₀₃ := X₂.trans X₃
  have D0 : s₂.heap.get? s₂.heap.objs.size = none := none_at _
  have back : ∀ b, ({ s₂ with heap := s₂.heap.push { cls := .type "list", data := .seq ([] : List Value).toArray } } : Shared).heap.get? b = none → s.heap.get? b = none := fun b e => by
    cases p : s.heap.get? b with
    | none => rfl
    | some o => obtain ⟨o', q⟩ := X₀₃.live b o p id; rw [e] at q; cases q
  have fD : s.heap.get? s₂.heap.objs.size = none := by
    cases p : s.heap.get? s₂.heap.objs.size with
    | none => rfl
    | some o => obtain ⟨o', q⟩ := X₂.live _ o p id; rw [D0] at q; cases q
  have hDl : ({ s₂ with heap := s₂.heap.push { cls := .type "list", data := .seq ([] : List Value).toArray } } : Shared).heap.get? s₂.heap.objs.size = some { cls := .type "list", data := .seq ([] : List Value).toArray } := Heap.get?_push_size _ rfl
  have offD := I₂.off D0
  obtain ⟨oa, hoa⟩ := Y₃.ok.at
  have hDa : s₂.heap.objs.size ≠ a := fun e => by
    obtain ⟨o, ho⟩ := Y₂.ok.at
    rw [← e, D0] at ho; cases ho
  -- the new environment
  obtain ⟨_, hcomp⟩ := compEnv_ok (ρ := ρ) I₃ E₃ d3
  refine newComp_ok ?_
  obtain ⟨keepC, EC, fo, offC⟩ := hcomp _ rfl
  have I₄ := I₃.grow (tk := s₂.toks) (d := s₂.drawn) keepC
  have X₄ : Ext B noOwn α₂ σ₂ { s₂ with heap := s₂.heap.push { cls := .type "list", data := .seq ([] : List Value).toArray } } α₂ σ₂ _ := .grow (tk := s₂.toks) (d := s₂.drawn) keepC
  have Y₄ := Y₃.ext I₃ X₄ id
  have oaE := offC a oa hoa (fresh_off E fa |> fun q => q)
  have oDE := offC _ _ hDl (fresh_off E fD)
  have EL : ρ.length = Γ.names.length := E.len
  have FF : CompF B (compFm Γ sc xs) { compNew sc (s₂.heap.push { cls := .type "list", data := .seq ([] : List Value).toArray }).objs.size (closL env sc.names []) env with scope := relabel sc env } a s₂.heap.objs.size s :=
    ⟨I₂.offTop D0, hDa, oaE, oDE, fa, fD, fun b hb => back b (fo b hb)⟩
  have run := fun (R : Result → Shared → Prop) (hR : ∀ s', CEnd B (s₂.heap.push { cls := .type "list", data := .seq ([] : List Value).toArray }).objs.size s₂.heap.objs.size (fun acc σ => K [.obj σ.length] (σ ++ [.list acc])) s α σ s' → R (.ok .next) s') =>
    compLoop_ok (iter := it0) (scope := sc) (pos := pos) (CInv B (compFm Γ sc xs) (ρ ++ xs.map fun _ => none) { compNew sc (s₂.heap.push { cls := .type "list", data := .seq ([] : List Value).toArray }).objs.size (closL env sc.names []) env with scope := relabel sc env } s α σ a s₂.heap.objs.size (stepC (mean Φ cond).t (mean Φ elt).v m ρ) (fun acc σ => K [.obj σ.length] (σ ++ [.list acc]))) hR
      (fun k s' hI => comp_one G he hc hA ht d1 (nmB_ok d2) (by rw [EL]; exact places_of d4) d5 d6 FF hI) k ⟨α₂, σ₂, it, [], [], 0, I₄, EC, Y₄, keepC _ _ hDl, trivial, offD, (X₂.trans (X₃.trans X₄)).lift, hk₂⟩
  have fin' : ∀ s', CEnd B (s₂.heap.push { cls := .type "list", data := .seq ([] : List Value).toArray }).objs.size s₂.heap.objs.size (fun acc σ => K [.obj σ.length] (σ ++ [.list acc])) s α σ s' → compPost (model B.p B.w) A (fun _ _ => False) use Q (.ref s₂.heap.objs.size) (s₂.heap.push { cls := .type "list", data := .seq ([] : List Value).toArray }).objs.size (.ok .next) s' := fun s' o => by
    obtain ⟨acc, α', σ', cs, mm, h1, h2, h3, h4, h5, h6, h7, h8⟩ := o
    have C0 : ({ s₂ with heap := s₂.heap.push { cls := .type "list", data := .seq ([] : List Value).toArray } } : Shared).heap.get? (s₂.heap.push { cls := .type "list", data := .seq ([] : List Value).toArray }).objs.size = none := none_at _
    obtain ⟨J, Z⟩ := adopt_ok (own := fun b => s.heap.get? b = none) h2 h5 h6 h7 (I₂.offTop D0) fD
    refine fin _ _ s' α' σ' (.inr trivial) ⟨acc, h1, J, (h8.trans Z).forget fun b q => .inr q⟩ (I₃.offTop C0) (back _ C0) fD (fun r hr => ?_) h3
    by_cases q : r = σ'.length
    · subst q
      rw [put_self]
      intro e
      have hz : (s₂.heap.push { cls := .type "list", data := .seq ([] : List Value).toArray }).objs.size = s₂.heap.objs.size + 1 := Heap.size_push ..
      exact absurd (Eq.trans (b := (s₂.heap.push { cls := .type "list", data := .seq ([] : List Value).toArray }).objs.size) e hz) (Nat.ne_of_lt (Nat.lt_succ_self _))
    · rw [put_lt (by lia)]
      exact h4 r (by lia)
  refine codeAny_compStart_list (run _ fin') ?_
  exact W.lift (self_ok Y₄.ok (run _ fin'))

theorem snd_comp {elt cond iter : X} {m : Nat} (G : Gd B Kf T Φ n mg mb) (he : Snd B T Φ n elt) (hi : Snd B T Φ n iter) (hc : Snd B T Φ n cond) : Snd B T Φ n (.comp elt m iter cond) := .ofV rfl (fun _ => rfl) fun {Γ ρ env A α σ s e K} q hA I E hk => by
  have q0 := q
  obtain ⟨el, gens, sc, pos, rfl, _⟩ := vLC_ok q0
  · show wpAny _ _ _ _ _ _
    rw [eval_ListComp]
    refine comp_core (use := none) G he hi hc q hA I E hk fun D C s' α' σ' _ ⟨acc, h1, h2, h3⟩ h4 h5 h6 h7 ⟨z, h8⟩ => ?_
    refine ⟨z, h8, fun h' hs => ?_⟩
    have hl : (σ' ++ [O.list acc]).length = σ'.length + 1 := by simp
    obtain ⟨J, Z⟩ := h2.aside (tk := s'.toks) (d := s'.drawn) h4 (by rw [hl]; exact h7) fun b o hb e => (hs.2 b hb).trans e
    have Z' := (h3.lift.trans Z).forget (own' := noOwn) fun b q => .inr (by rw [q]; exact h5)
    exact ⟨[.obj σ'.length], _, _, h1, ⟨⟨by rw [hl]; exact Nat.lt_succ_self _, by rw [put_self]⟩, trivial⟩, J, Z'⟩
theorem snd_isb {a : X} (G : Gd B Kf T Φ n mg mb) (ha : Snd B T Φ n a) : Snd B T Φ n (.isb a) := .ofV rfl (fun _ => rfl) fun {Γ ρ env A α σ s e K} q hA I E hk => by
  obtain ⟨x, np, vs, p, rfl, q⟩ := vCallN_ok q
  obtain ⟨v, w, rfl, q⟩ := v2_ok q
  obtain ⟨y, yp, rfl, q⟩ := vName_ok q
  obtain ⟨e1, e2, q1, q2, q3, q4⟩ := band6 q
  obtain rfl := seq e1
  obtain rfl := seq e2
  have hp : plainEs [v, .Name "bytes" yp] = true := by cases v <;> first | rfl | exact (Bool.false_ne_true q3).elim
  refine callN_ok (bname G q1 I E G.tab.more.2.1 PyProof.Rows.Boot.«isinstance» (by decide) ?_)
  refine callB_ok hp ?_
  have he : starEach (v :: [.Name "bytes" yp]) env = (false, eval v env) :: starEach [.Name "bytes" yp] env := by
    cases v <;> first | rfl | exact (Bool.false_ne_true q3).elim
  refine wpAny_items_cons (out1 (ha.v q4 hA I E hk) fun w c σ' α' s' hv hc I' X => ?_) he
  refine wpAny_items_cons (bname G q2 I' (E.ext I X) G.tab.more.2.2 PyProof.Rows.Boot.«bytes» (by decide) ?_) rfl
  refine wpAny_items_nil ?_
  cases w with
  | bytes l =>
    obtain ⟨t, rfl⟩ := hc
    exact call_isinstance (isinstance_true (Tx := "bytes") PySem.F.isi_meta_bytes PySem.F.sub_bytes_bytes) ⟨typeIs_bytes _ _ _, Out.trans X (Out.one I' hv rfl)⟩
  | _ => exact hv.elim

theorem snd_citer {o : X} (G : Gd B Kf T Φ n mg mb) (ho : Snd B T Φ n o) : Snd B T Φ n (.citer o) := .ofV rfl (fun _ => rfl) fun {Γ ρ env A α σ s e K} q hA I E hk => by
  obtain ⟨x, np, vs, p, rfl, q⟩ := vCallN_ok q
  obtain ⟨v', w', rfl, q⟩ := v2_ok q
  obtain ⟨v, y, ap, rfl, q⟩ := vAttr_ok q
  obtain ⟨c, kk, cp, rfl, q⟩ := vConst_ok q
  obtain ⟨z, rfl, q⟩ := cStr_ok q
  obtain ⟨e1, q1, e2, e3, q2, q3⟩ := band6 q
  obtain rfl := seq e1
  obtain rfl := seq e2
  obtain rfl := seq e3
  obtain ⟨r1, r2, r3, r4, r5, r6, r7⟩ := G.tab.rc
  refine callN_ok (bname G q1 I E r7 PyProof.Rows.Boot.«iter» (by decide) ?_)
  refine callB_ok rfl ?_
  refine wpAny_items_cons ?_ rfl
  show W B A (do
    let o ← attributeBase v (nm rcName) env (eval v env)
    standAt ap.atName
    let r ← holding [o] (getAttr o (nm rcName) true)
    letTemporaryGo v o r
    pure r) s _
  rw [base_ok q2]
  refine wpAny_bind (out1 (ho.v q3 hA I E hk) fun w c σ' α' s' hv hc I' X => ?_)
  refine wpAny_bind (wpAny_standAt (wpAny_bind (wpAny_holding ?_)))
  obtain ⟨hm, hv⟩ := hv
  cases w with
  | obj r =>
    simp only [mthS] at hm
    split at hm
    · rename_i d hr
      split at hm
      · rename_i es hd
        obtain ⟨cs, nn, rfl, h1, h2, hI⟩ := instAt I' hr hd hc
        refine bound_ok (I'.kin G.gr) hI r1 G.tab.cls.hasd r2 r3 r4 r5 r6 (h1.get.2 hm) ?_
        refine wpAny_bind (wpAny_letTemporaryGo (wpAny_pure ?_))
        refine wpAny_items_cons (wpAny_Constant_str ?_) rfl
        refine wpAny_items_nil ?_
        have n0 : s'.heap.get? s'.heap.objs.size = none := none_at _
        have lr := I'.get hr
        have J := I'.alloc (tk := s'.toks + 1 + 1) (x := .meth r) (o := methodObj (.ref B.rc) (.ref (α' r))) (fun b o e => Heap.get?_push_of_some _ e) n0 (Heap.get?_push_size _ rfl)
          ⟨Nat.lt_succ_of_lt lr, by rw [put_lt lr]⟩
        have Z := Ext.alloc (B := B) (own := noOwn) (σ := σ') (s := s') (α := α') (tk := s'.toks + 1 + 1) (x := .meth r) (h' := s'.heap.push (methodObj (.ref B.rc) (.ref (α' r)))) (fun b o e => Heap.get?_push_of_some _ e) n0
        refine cit_new (Heap.get?_push_size _ rfl) ?_
        refine Out.trans X (Out.trans Z ?_)
        have l2 : (σ' ++ [O.meth r]).length = σ'.length + 1 := by simp
        refine Out.alloc (x := .citer (some σ'.length)) J (by rw [l2]; exact hv) (fun b o e => Heap.get?_push_of_some _ e) (none_at _) (Heap.get?_push_size _ rfl) ?_
        refine ⟨by rw [l2]; lia, s'.toks + 1, ?_⟩
        rw [put_lt (by rw [l2]; exact Nat.lt_succ_self _), put_self]
      · exact hm.elim
    · exact hm.elim
  | _ => exact hm.elim

/-- expressions run as they mean -/
theorem snd (G : Gd B Kf T Φ n mg mb) : ∀ x : X, Snd B T Φ n x
  | .none => snd_none
  | .tru => snd_tru
  | .fls => snd_fls
  | .int _ => snd_int
  | .str _ => snd_str
  | .bytes _ => snd_bytes
  | .var _ => snd_var
  | .nil => snd_nil
  | .cons a b => snd_cons (snd G a) (snd G b)
  | .bin _ a b => snd_bin (snd G a) (snd G b)
  | .neg a => snd_neg (snd G a)
  | .not a => snd_not (snd G a)
  | .cmp _ a b => snd_cmp (snd G a) (snd G b)
  | .boolop _ a => snd_boolop (snd G a)
  | .ife t a b => snd_ife (snd G t) (snd G a) (snd G b)
  | .idx a b => snd_idx (snd G a) (snd G b)
  | .slice a b c => snd_slice (snd G a) (snd G b) (snd G c)
  | .list a => snd_list (snd G a)
  | .tup a => snd_tup (snd G a)
  | .comp a _ b c => snd_comp G (snd G a) (snd G b) (snd G c)
  | .range a => snd_range G (snd G a)
  | .call _ a => snd_call G (snd G a)
  | .new a => snd_new G (snd G a)
  | .bcall _ a => snd_bcall G (snd G a)
  | .bm _ a b => snd_bm (snd G a) (snd G b)
  | .cm _ _ a b => snd_cm G (snd G a) (snd G b)
  | .cr _ a b => snd_cr G (snd G a) (snd G b)
  | .attr a _ => snd_attr G (snd G a)
  | .isb a => snd_isb G (snd G a)
  | .citer a => snd_citer G (snd G a)
end
end MI.Internal
end

section
set_option Elab.async false
set_option linter.all false
set_option maxRecDepth 10000
namespace MI.Internal
open PySem PySem.W PySem.Calls

/-! ## statements -/
structure CkS where
  s : Stmt → Bool
  l : List Stmt → Bool
noncomputable def ofS (f : Stmt → Bool) : CkS := ⟨f, fun _ => false⟩
noncomputable def noComp : Expr → Bool
  | .ListComp .. | .SetComp .. | .DictComp .. => false
  | _ => true
noncomputable def noSetComp : Expr → Bool
  | .SetComp .. | .DictComp .. => false
  | _ => true
/-- which names a tuple's assignment stores from the last one on -/
noncomputable def swp (Γ : Fm) (ts : List Expr) (value : Expr) : Option (Option (List Str)) := match value with
  | .Tuple vs _ _ =>
    if !(ts.length == 2 || ts.length == 3) || vs.length != ts.length then some none else
    if (vs.any fun | .Starred .. => true | _ => false) then some none else
    let line := (ts.head?.map (·.pos.line)).getD 0
    let names := ts.filterMap fun
      | .Name id pos => if Γ.kind id == some .local && pos.line == line then some id else none
      | _ => none
    if names.length != ts.length || names.eraseDups.length != names.length then some none else
    if vs.all (foldedForSure 8) then some none else
    if vs.all (constantsAlone 8) then none else some (some names)
  | _ => some none
noncomputable def genName : Str := "_grouping_intervals"
noncomputable def sAssign (st : Stmt) (f : List Expr → Expr → Bool) : Bool := if h : st.ctorIdx = 5 then Stmt.Assign.elim (motive_2 := fun _ => Bool) st h fun a b _ => f a b else false
noncomputable def sAug (st : Stmt) (f : Expr → Operator → Expr → Bool) : Bool := if h : st.ctorIdx = 7 then Stmt.AugAssign.elim (motive_2 := fun _ => Bool) st h fun a b c _ => f a b c else false
noncomputable def sExpr (st : Stmt) (f : Expr → Bool) : Bool := if h : st.ctorIdx = 24 then Stmt.Expr.elim (motive_2 := fun _ => Bool) st h fun a _ => f a else false
noncomputable def sRet (st : Stmt) (f : Option Expr → Bool) : Bool := if h : st.ctorIdx = 3 then Stmt.Return.elim (motive_2 := fun _ => Bool) st h fun a _ => f a else false
noncomputable def sIf (st : Stmt) (f : Expr → List Stmt → List Stmt → Bool) : Bool := if h : st.ctorIdx = 12 then Stmt.If.elim (motive_2 := fun _ => Bool) st h fun a b c _ => f a b c else false
noncomputable def sFor (st : Stmt) (f : Expr → Expr → List Stmt → Bool) : Bool := if h : st.ctorIdx = 9 then Stmt.For.elim (motive_2 := fun _ => Bool) st h fun a b c d _ => d.isEmpty && f a b c else false
noncomputable def sWhile (st : Stmt) (f : Expr → List Stmt → Bool) : Bool := if h : st.ctorIdx = 11 then Stmt.While.elim (motive_2 := fun _ => Bool) st h fun a b c _ => c.isEmpty && f a b else false
noncomputable def sBrk (st : Stmt) : Bool := st.ctorIdx == 26
noncomputable def sCont (st : Stmt) : Bool := st.ctorIdx == 27
noncomputable def nmsB (es : List Expr) (f : List Str → Bool) : Bool := match namesE es with
  | some xs => f xs
  | none => false
noncomputable def oSome {α : Type} (o : Option α) (f : α → Bool) : Bool := match o with
  | some x => f x
  | none => false
section
variable {st : Stmt}
theorem sAssign_ok {f : List Expr → Expr → Bool} (h : sAssign st f = true) : Ex3 fun a b p => st = .Assign a b p ∧ f a b = true :=
  if q : st.ctorIdx = 5 then Stmt.Assign.elim (motive_2 := fun st => sAssign st f = true → Ex3 fun a b p => st = .Assign a b p ∧ f a b = true) st q (fun x0 x1 x2 h => ⟨x0, x1, x2, rfl, h⟩) h else (Bool.false_ne_true ((dif_neg q : sAssign st f = false).symm.trans h)).elim
theorem sAug_ok {f : Expr → Operator → Expr → Bool} (h : sAug st f = true) : Ex4 fun a b c p => st = .AugAssign a b c p ∧ f a b c = true :=
  if q : st.ctorIdx = 7 then Stmt.AugAssign.elim (motive_2 := fun st => sAug st f = true → Ex4 fun a b c p => st = .AugAssign a b c p ∧ f a b c = true) st q (fun x0 x1 x2 x3 h => ⟨x0, x1, x2, x3, rfl, h⟩) h else (Bool.false_ne_true ((dif_neg q : sAug st f = false).symm.trans h)).elim
theorem sExpr_ok {f : Expr → Bool} (h : sExpr st f = true) : Ex2 fun a p => st = .Expr a p ∧ f a = true :=
  if q : st.ctorIdx = 24 then Stmt.Expr.elim (motive_2 := fun st => sExpr st f = true → Ex2 fun a p => st = .Expr a p ∧ f a = true) st q (fun x0 x1 h => ⟨x0, x1, rfl, h⟩) h else (Bool.false_ne_true ((dif_neg q : sExpr st f = false).symm.trans h)).elim
theorem sRet_ok {f : Option Expr → Bool} (h : sRet st f = true) : Ex2 fun a p => st = .Return a p ∧ f a = true :=
  if q : st.ctorIdx = 3 then Stmt.Return.elim (motive_2 := fun st => sRet st f = true → Ex2 fun a p => st = .Return a p ∧ f a = true) st q (fun x0 x1 h => ⟨x0, x1, rfl, h⟩) h else (Bool.false_ne_true ((dif_neg q : sRet st f = false).symm.trans h)).elim
theorem sIf_ok {f : Expr → List Stmt → List Stmt → Bool} (h : sIf st f = true) : Ex4 fun a b c p => st = .If a b c p ∧ f a b c = true :=
  if q : st.ctorIdx = 12 then Stmt.If.elim (motive_2 := fun st => sIf st f = true → Ex4 fun a b c p => st = .If a b c p ∧ f a b c = true) st q (fun x0 x1 x2 x3 h => ⟨x0, x1, x2, x3, rfl, h⟩) h else (Bool.false_ne_true ((dif_neg q : sIf st f = false).symm.trans h)).elim
theorem sFor_ok' {f : Expr → Expr → List Stmt → Bool} (h : sFor st f = true) : Ex5 fun a b c d p => st = .For a b c d p ∧ (d.isEmpty && f a b c) = true :=
  if q : st.ctorIdx = 9 then Stmt.For.elim (motive_2 := fun st => sFor st f = true → Ex5 fun a b c d p => st = .For a b c d p ∧ (d.isEmpty && f a b c) = true) st q (fun x0 x1 x2 x3 x4 h => ⟨x0, x1, x2, x3, x4, rfl, h⟩) h else (Bool.false_ne_true ((dif_neg q : sFor st f = false).symm.trans h)).elim
theorem sFor_ok {f : Expr → Expr → List Stmt → Bool} (h : sFor st f = true) : Ex4 fun a b c p => st = .For a b c [] p ∧ f a b c = true := by
  obtain ⟨a, b, c, d, p, rfl, h⟩ := sFor_ok' h
  obtain ⟨h0, h⟩ := band h
  cases List.isEmpty_iff.mp h0
  exact ⟨a, b, c, p, rfl, h⟩
theorem sWhile_ok' {f : Expr → List Stmt → Bool} (h : sWhile st f = true) : Ex4 fun a b c p => st = .While a b c p ∧ (c.isEmpty && f a b) = true :=
  if q : st.ctorIdx = 11 then Stmt.While.elim (motive_2 := fun st => sWhile st f = true → Ex4 fun a b c p => st = .While a b c p ∧ (c.isEmpty && f a b) = true) st q (fun x0 x1 x2 x3 h => ⟨x0, x1, x2, x3, rfl, h⟩) h else (Bool.false_ne_true ((dif_neg q : sWhile st f = false).symm.trans h)).elim
theorem sWhile_ok {f : Expr → List Stmt → Bool} (h : sWhile st f = true) : Ex3 fun a b p => st = .While a b [] p ∧ f a b = true := by
  obtain ⟨a, b, c, p, rfl, h⟩ := sWhile_ok' h
  obtain ⟨h0, h⟩ := band h
  cases List.isEmpty_iff.mp h0
  exact ⟨a, b, p, rfl, h⟩
theorem sBrk_ok (h : sBrk st = true) : ∃ p, st = .Break p := Stmt.Break.elim (motive_2 := fun st => ∃ p, st = .Break p) st (beq_iff_eq.mp h) fun p => ⟨p, rfl⟩
theorem sCont_ok (h : sCont st = true) : ∃ p, st = .Continue p := Stmt.Continue.elim (motive_2 := fun st => ∃ p, st = .Continue p) st (beq_iff_eq.mp h) fun p => ⟨p, rfl⟩
theorem nmsB_ok {es : List Expr} {f : List Str → Bool} (h : nmsB es f = true) : ∃ xs, namesE es = some xs ∧ f xs = true := by
  unfold nmsB at h
  generalize namesE es = o at h
  cases o with
  | none => exact (Bool.false_ne_true h).elim
  | some xs => exact ⟨xs, rfl, h⟩
theorem oSome_ok {α : Type} {o : Option α} {f : α → Bool} (h : oSome o f = true) : ∃ x, o = some x ∧ f x = true := by
  cases o with
  | none => exact (Bool.false_ne_true h).elim
  | some x => exact ⟨x, rfl, h⟩
end
noncomputable def chkS (T : Tab) (Γ : Fm) : S → CkS
  | .nil => ⟨fun _ => false, fun l => l.isEmpty⟩
  | .cons a b => ⟨fun _ => false, fun l => match l with | st :: r => (chkS T Γ a).s st && (chkS T Γ b).l r | [] => false⟩
  | .asg i e => ofS fun st => sAssign st fun ts v => v1 ts fun t => vName t fun x => placesB Γ [i] [x] && (chk T e Γ).e v && noSetComp v
  | .asgT is e => ofS fun st => sAssign st fun ts v => v1 ts fun t => vTup t fun es => (chk T e Γ).e v && nmsB es fun xs => placesB Γ is xs && is.length != 1 && decide is.Nodup && (swp Γ es v == some none || swp Γ es v == some (some xs))
  | .asgA o name e => ofS fun st => sAssign st fun ts v => v1 ts fun t => vAttr t fun ov x _ => x == nm name && (chk T e Γ).e v && (chk T o Γ).e ov && T.att.contains name
  | .aug i op e => ofS fun st => sAug st fun t o v => vName t fun x => o == op && placesB Γ [i] [x] && (chk T e Γ).e v && !(x == ("__classdict__" : Str))
  | .augI a i op e => ofS fun st => sAug st fun t o v => vSub t fun ov iv => o == op && (chk T a Γ).e ov && (chk T i Γ).e iv && !isSl iv && (chk T e Γ).e v
  | .augA a name op e => ofS fun st => sAug st fun t o v => vAttr t fun ov x _ => o == op && x == nm name && (chk T a Γ).e ov && (chk T e Γ).e v && T.att.contains name
  | .expr e => ofS fun st => sExpr st fun v => (chk T e Γ).e v && noComp v
  | .ret e => ofS fun st => sRet st fun r => oSome r (chk T e Γ).e
  | .retN => ofS fun st => sRet st fun r => r.isNone
  | .ife t a b => ofS fun st => sIf st fun c x y => (chk T t Γ).t c && (chkS T Γ a).l x && (chkS T Γ b).l y
  | .for_ is iter b => ofS fun st => sFor st fun tg it body => (chk T iter Γ).i it && tgB tg fun xs => placesB Γ is xs && nmB is.length tg && (chkS T Γ b).l body
  | .forG i g b => ofS fun st => sFor st fun tg it body => vName tg fun x => vCallN it fun y ges => v1 ges fun ge => placesB Γ [i] [x] && y == genName && glob Γ y && oneE ge && (chk T g Γ).e ge && (chkS T Γ b).l body
  | .forC i c b => ofS fun st => sFor st fun tg it body => vName tg fun x => placesB Γ [i] [x] && noSet it && (chk T c Γ).e it && (chkS T Γ b).l body
  | .while_ t b => ofS fun st => sWhile st fun c body => (chk T t Γ).t c && (chkS T Γ b).l body
  | .brk => ofS sBrk
  | .cont => ofS sCont

noncomputable def FlR (α : Nat → Addr) (n : Nat) : Fl → Flow → Prop
  | .next, f => f = .next
  | .brk, f => f = .brk
  | .cont, f => f = .cont
  | .ret v, f => ∃ c, f = .ret c ∧ VR α n v c
/-- a statement's end -/
inductive OutF (B : Base) (Γ : Fm) (env : Env) (α : Nat → Addr) (σ : Sto) (s : Shared) (K : FK) (f : Flow) (s' : Shared) : Prop
  | mk (fl : Fl) (ρ' : Lv) (σ' : Sto) (α' : Nat → Addr) (a : FlR α' σ'.length fl f) (k : K fl ρ' σ') (i : SInv B α' σ' s') (e : EnvOk B Γ ρ' α' σ'.length env s'.heap) (x : Ext B (ownOf Γ env) α σ s α' σ' s')
section
variable (B : Base) (T : Tab) (Φ : Con) (n : Nat)
structure SndS (x : S) : Prop where
  s : ∀ {Γ : Fm} {ρ : Lv} {env : Env} {A : Around} {α : Nat → Addr} {σ : Sto} {s : Shared} {st : Stmt} {K : FK}, (chkS T Γ x).s st = true → AOk A n → SInv B α σ s → EnvOk B Γ ρ α σ.length env s.heap → wS Φ x ρ σ K →
    W B A (exec st env) s fun f s' => OutF B Γ env α σ s K f s'
  l : ∀ {Γ : Fm} {ρ : Lv} {env : Env} {A : Around} {α : Nat → Addr} {σ : Sto} {s : Shared} {st : List Stmt} {K : FK}, (chkS T Γ x).l st = true → AOk A n → SInv B α σ s → EnvOk B Γ ρ α σ.length env s.heap → wS Φ x ρ σ K →
    W B A (execs st env) s fun f s' => OutF B Γ env α σ s K f s'
end
section
variable {B : Base} {Kf : Frag} {T : Tab} {Φ : Con} {n : Nat} {mg mb : Str → Option Value} {α α' : Nat → Addr} {σ σ' : Sto} {s s' : Shared} {A : Around} {Γ : Fm} {ρ : Lv} {env : Env}

theorem OutF.trans {K : FK} {f : Flow} {s'' : Shared} (x : Ext B (ownOf Γ env) α σ s α' σ' s') (h : OutF B Γ env α' σ' s' K f s'') : OutF B Γ env α σ s K f s'' := by
  obtain ⟨fl, ρ₂, σ₂, α₂, a, b, c, d, e⟩ := h
  exact ⟨fl, ρ₂, σ₂, α₂, a, b, c, d, x.trans e⟩
theorem SndS.of {x : S} (hl : ∀ Γ, (chkS T Γ x).l = fun _ => false)
    (h : ∀ {Γ : Fm} {ρ : Lv} {env : Env} {A : Around} {α : Nat → Addr} {σ : Sto} {s : Shared} {st : Stmt} {K : FK}, (chkS T Γ x).s st = true → AOk A n → SInv B α σ s → EnvOk B Γ ρ α σ.length env s.heap → wS Φ x ρ σ K → W B A (exec st env) s fun f s' => OutF B Γ env α σ s K f s') :
    SndS B T Φ n x := ⟨h, fun q => by rw [hl] at q; exact (Bool.false_ne_true q).elim⟩

theorem inv_asg {i : Nat} {e : X} {st : Stmt} (q : (chkS T Γ (.asg i e)).s st = true) : Ex4 fun x p v pos => st = .Assign [.Name x p] v pos ∧ (placesB Γ [i] [x] && (chk T e Γ).e v && noSetComp v) = true := by
  obtain ⟨ts, v, pos, rfl, q⟩ := sAssign_ok q
  obtain ⟨t, rfl, q⟩ := v1_ok q
  obtain ⟨x, p, rfl, q⟩ := vName_ok q
  exact ⟨_, _, _, _, rfl, q⟩
theorem inv_asgA {o e : X} {name : List Nat} {st : Stmt} (q : (chkS T Γ (.asgA o name e)).s st = true) : Ex5 fun ov x p v pos => st = .Assign [.Attribute ov x p] v pos ∧ (x == nm name && (chk T e Γ).e v && (chk T o Γ).e ov && T.att.contains name) = true := by
  obtain ⟨ts, v, pos, rfl, q⟩ := sAssign_ok q
  obtain ⟨t, rfl, q⟩ := v1_ok q
  obtain ⟨ov, x, p, rfl, q⟩ := vAttr_ok q
  exact ⟨_, _, _, _, _, rfl, q⟩
theorem inv_aug {i : Nat} {op : Operator} {e : X} {st : Stmt} (q : (chkS T Γ (.aug i op e)).s st = true) : Ex5 fun x p o v pos => st = .AugAssign (.Name x p) o v pos ∧ (o == op && placesB Γ [i] [x] && (chk T e Γ).e v && !(x == ("__classdict__" : Str))) = true := by
  obtain ⟨t, o, v, pos, rfl, q⟩ := sAug_ok q
  obtain ⟨x, p, rfl, q⟩ := vName_ok q
  exact ⟨_, _, _, _, _, rfl, q⟩
theorem inv_augI {a i e : X} {op : Operator} {st : Stmt} (q : (chkS T Γ (.augI a i op e)).s st = true) : Ex6 fun ov iv p o v pos => st = .AugAssign (.Subscript ov iv p) o v pos ∧ (o == op && (chk T a Γ).e ov && (chk T i Γ).e iv && !isSl iv && (chk T e Γ).e v) = true := by
  obtain ⟨t, o, v, pos, rfl, q⟩ := sAug_ok q
  obtain ⟨ov, iv, p, rfl, q⟩ := vSub_ok q
  exact ⟨_, _, _, _, _, _, rfl, q⟩
theorem inv_augA {a e : X} {name : List Nat} {op : Operator} {st : Stmt} (q : (chkS T Γ (.augA a name op e)).s st = true) : Ex6 fun ov x p o v pos => st = .AugAssign (.Attribute ov x p) o v pos ∧ (o == op && x == nm name && (chk T a Γ).e ov && (chk T e Γ).e v && T.att.contains name) = true := by
  obtain ⟨t, o, v, pos, rfl, q⟩ := sAug_ok q
  obtain ⟨ov, x, p, rfl, q⟩ := vAttr_ok q
  exact ⟨_, _, _, _, _, _, rfl, q⟩
theorem inv_expr {e : X} {st : Stmt} (q : (chkS T Γ (.expr e)).s st = true) : Ex2 fun v pos => st = .Expr v pos ∧ ((chk T e Γ).e v && noComp v) = true := by
  exact sExpr_ok q
theorem inv_ret {e : X} {st : Stmt} (q : (chkS T Γ (.ret e)).s st = true) : Ex2 fun v pos => st = .Return (some v) pos ∧ (chk T e Γ).e v = true := by
  obtain ⟨r, pos, rfl, q⟩ := sRet_ok q
  obtain ⟨v, rfl, q⟩ := oSome_ok q
  exact ⟨v, pos, rfl, q⟩
theorem inv_retN  {st : Stmt} (q : (chkS T Γ .retN).s st = true) : ∃ pos, st = .Return none pos ∧ true = true := by
  obtain ⟨r, pos, rfl, q⟩ := sRet_ok q
  cases Option.isNone_iff_eq_none.mp q
  exact ⟨pos, rfl, rfl⟩
theorem inv_ife {t : X} {a b : S} {st : Stmt} (q : (chkS T Γ (.ife t a b)).s st = true) : Ex4 fun c x y pos => st = .If c x y pos ∧ ((chk T t Γ).t c && (chkS T Γ a).l x && (chkS T Γ b).l y) = true := by
  exact sIf_ok q
theorem inv_brk  {st : Stmt} (q : (chkS T Γ .brk).s st = true) : ∃ pos, st = .Break pos ∧ true = true := by
  obtain ⟨p, rfl⟩ := sBrk_ok q
  exact ⟨p, rfl, rfl⟩
theorem inv_cont  {st : Stmt} (q : (chkS T Γ .cont).s st = true) : ∃ pos, st = .Continue pos ∧ true = true := by
  obtain ⟨p, rfl⟩ := sCont_ok q
  exact ⟨p, rfl, rfl⟩
theorem inv_while {t : X} {b : S} {st : Stmt} (q : (chkS T Γ (.while_ t b)).s st = true) : Ex3 fun c body pos => st = .While c body [] pos ∧ ((chk T t Γ).t c && (chkS T Γ b).l body) = true := by
  exact sWhile_ok q
theorem inv_for {is : List Nat} {iter : X} {b : S} {st : Stmt} (q : (chkS T Γ (.for_ is iter b)).s st = true) : Ex4 fun tg it0 body pos => st = .For tg it0 body [] pos ∧ ((chk T iter Γ).i it0 && tgB tg fun xs => placesB Γ is xs && nmB is.length tg && (chkS T Γ b).l body) = true := by
  exact sFor_ok q
theorem snds_nil : SndS B T Φ n .nil := ⟨fun q => (Bool.false_ne_true q).elim, fun {Γ ρ env A α σ s st K} q hA I E hk => by
  cases List.isEmpty_iff.mp q
  exact wpAny_execs_nil ⟨.next, ρ, σ, α, rfl, hk, I, E, .refl⟩⟩
theorem snds_cons {a b : S} (ha : SndS B T Φ n a) (hb : SndS B T Φ n b) : SndS B T Φ n (.cons a b) := ⟨fun q => (Bool.false_ne_true q).elim, fun {Γ ρ env A α σ s st K} q hA I E hk => by
  cases st with
  | nil => exact (Bool.false_ne_true q).elim
  | cons st r =>
    obtain ⟨q1, q2⟩ := Bool.and_eq_true_iff.mp q
    refine wpAny_execs_cons (wpAny_mono (ha.s q1 hA I E hk) (fun f s' o_ => ?_) fun _ _ f => f)
    obtain ⟨fl, ρ', σ', α', h1, h2, h3, h4, h5⟩ := o_
    cases fl with
    | next =>
      cases h1
      exact wpAny_mono (hb.l q2 hA h3 h4 h2) (fun _ _ o => o.trans h5) fun _ _ f => f
    | brk => cases h1; exact ⟨.brk, ρ', σ', α', rfl, h2, h3, h4, h5⟩
    | cont => cases h1; exact ⟨.cont, ρ', σ', α', rfl, h2, h3, h4, h5⟩
    | ret v =>
      obtain ⟨c, rfl, hc⟩ := h1
      exact ⟨.ret v, ρ', σ', α', ⟨c, rfl, hc⟩, h2, h3, h4, h5⟩⟩

theorem sw_name {v : Expr} {x : Str} {p : Pos} {line : Nat} (h : noSetComp v = true) : swapsWith v (some (.Name x p)) line env = pure false ∨ (Ex4 fun el gens sc pos => v = .ListComp el gens sc pos) ∧ ∃ b, swapsWith v (some (.Name x p)) line env = pure b := by
  cases v <;> first | exact .inl rfl | exact (Bool.false_ne_true h).elim | skip
  exact .inr ⟨⟨_, _, _, _, rfl⟩, _, rfl⟩

theorem snds_asg {i : Nat} {e : X} (G : Gd B Kf T Φ n mg mb) : SndS B T Φ n (.asg i e) := .of (fun _ => rfl) fun {Γ ρ env A α σ s st K} q hA I E hk => by
  obtain ⟨x, p, v, pos, rfl, q⟩ := inv_asg q
  obtain ⟨q1, q2, q3⟩ := band3 q
  obtain ⟨p1, p2, p3, p4, _⟩ := places_of q1
  have plain : swapsWith v (some (.Name x p)) pos.line env = pure false → W B A (exec (.Assign [.Name x p] v pos) env) s fun f s' => OutF B Γ env α σ s K f s' := fun hs => by
    refine wpAny_Assign_Name (out1 ((snd G e).v q2 hA I E hk) fun w c σ' α' s' hv hc I' X => ?_) hs
    exact store_ok G.gr I' (E.ext I X) p1 p2 p3 p4 hc fun s'' I'' E'' X'' => ⟨.next, _, _, _, rfl, hv, I'', E'', X.lift.trans X''⟩
  rcases sw_name (env := env) (x := x) (p := p) (line := pos.line) q3 with h | ⟨⟨el, gens, sc, cp, rfl⟩, b, h⟩
  · exact plain h
  · cases b with
    | false => exact plain h
    | true =>
      show wpAny _ _ _ _ _ _
      rw [exec_Assign_Name_used _ _ _ _ h]
      refine wpAny_bind (wpAny_standAt (wpAny_bind ?_))
      have hx : Ex4 fun elt m iter cond => e = .comp elt m iter cond := by
        cases e <;> first | exact ⟨_, _, _, _, rfl⟩ | exact (Bool.false_ne_true q2).elim
      obtain ⟨elt, m, iter, cond, rfl⟩ := hx
      show W B A (comprehension (.ListComp el gens sc cp) sc env (firstIterPos gens cp) (newList []) (firstAsync gens) (firstIter gens env) (some (assign (.Name x p) env)) >>= fun _ => pure ()) s _
      refine wpAny_bind (comp_core (use := some (assign (.Name x p) env)) G (snd G elt) (snd G iter) (snd G cond) q2 hA I E hk fun D C s' α' σ' _ ⟨acc, h1, h2, h3⟩ h4 h5 h6 h7 ⟨z, h8⟩ => ?_)
      have hl : (σ' ++ [O.list acc]).length = σ'.length + 1 := by simp
      refine wpAny_assign_Name (store_ok G.gr h2 (E.ext I h3) p1 p2 p3 p4 (v := .obj σ'.length) ⟨by rw [hl]; exact Nat.lt_succ_self _, by rw [put_self]⟩ fun s'' I'' E'' X'' => ?_)
      have oC := fresh_off E h5
      obtain ⟨o, es, ep, ho, zz⟩ := h8
      refine ⟨z, ⟨o, es, ep, X''.keep C o ho (by rw [hl]; exact h7) oC.own (h2.ntb h4), zz⟩, fun h' hs => ?_⟩
      obtain ⟨J, Z⟩ := I''.aside (tk := s''.toks) (d := s''.drawn) h4 (by rw [hl]; exact h7) fun b o hb e => (hs.2 b hb).trans e
      refine wpAny_pure (wpAny_pure ⟨.next, _, _, _, rfl, h1, J, E''.extOwn I'' Z fun b q => by subst q; exact oC, ?_⟩)
      exact ((h3.lift (own := fun b => ownOf Γ env b ∨ b = C)).trans ((X''.weaken fun _ q => .inl q).trans (Z.weaken fun _ q => .inr q))).forget fun b q => q.elim .inl fun q => .inr (by rw [q]; exact h5)

theorem snds_asgA {o e : X} {name : List Nat} (G : Gd B Kf T Φ n mg mb) : SndS B T Φ n (.asgA o name e) := .of (fun _ => rfl) fun {Γ ρ env A α σ s st K} q hA I E hk => by
  obtain ⟨ov, x, p, v, pos, rfl, q⟩ := inv_asgA q
  obtain ⟨q0, q1, q2, q3⟩ := band4 q
  obtain rfl := seq q0
  have hn := G.tab.att name (List.contains_iff_mem.mp q3)
  refine wpAny_Assign_stores ?_ ?_ rfl
  · refine out1 ((snd G e).v q1 hA I E hk) fun w c σ' α' s' hv hc I' X => ?_
    show W B A (assign (.Attribute ov (nm name) p) env c) s' _
    show W B A (do
      let ov ← holding [c] (eval ov env)
      standAt p.atName
      holding [c, ov] (setAttr ov (nm name) c)
      release [c, ov] []) s' _
    refine wpAny_bind (wpAny_holding (out1 ((snd G o).v q2 hA I' (E.ext I X) hv) fun w₂ c₂ σ₂ α₂ s₂ hv₂ hc₂ I₂ X₂ => ?_))
    refine wpAny_bind (wpAny_standAt (wpAny_bind (wpAny_holding (wpAny_mono (attP_ok (own := noOwn) (I₂.kin G.gr) G.tab.cls I₂ hn hc₂ (hc.ext X₂) hv₂) (fun _ s₃ o_ => ?_) fun _ _ f => f))))
    obtain ⟨σ₃, α₃, h1, h2, h3⟩ := o_
    exact wpAny_release ⟨.next, ρ, σ₃, α₃, rfl, h1, h2, ((E.ext I X).ext I' X₂).ext I₂ h3, ((X.trans X₂).trans h3).lift⟩
  · show swapsWith v (some (.Attribute ov (nm name) p)) pos.line env = pure false
    cases v <;> rfl

theorem load_ok (h : EnvOk B Γ ρ α σ.length env s.heap) {i : Nat} {x : Str} {v : V} {Q : Value → Shared → Prop} (hx : Γ.names[i]? = some x) (hk : Γ.kind x = some .local ∨ isCell (Γ.kind x)) (hv : ρ[i]? = some (some v))
    (hcd : (x == ("__classdict__" : Str)) = false) (k : ∀ c, VR α σ.length v c → Q c s) : W B A (loadName env x) s Q := by
  have kf : env.scope.kind = .function := by rw [h.sc]; exact h.fn
  rcases hk with hk | hk | hk
  · obtain ⟨m, hn, q⟩ := h.loc
    obtain ⟨c, e, z⟩ := q i x hx hk v hv
    exact wpAny_loadName_local kf ((kindOf_eq h x).trans hk) hn e (k c z)
  · obtain ⟨c, v₀, a, b, q⟩ := h.cell i x hx (.inl hk)
    obtain ⟨cv, e, z⟩ := q v hv
    subst e
    exact wpAny_loadName_cell kf ((kindOf_eq h x).trans hk) a b (k cv z)
  · obtain ⟨c, v₀, a, b, q⟩ := h.cell i x hx (.inr hk)
    obtain ⟨cv, e, z⟩ := q v hv
    subst e
    exact wpAny_loadName_free kf ((kindOf_eq h x).trans hk) a b (k cv z) hcd
theorem aug_mean {i : Nat} {op : Operator} {e : X} {K : FK} (h : wS Φ (.aug i op e) ρ σ K) : ∃ x, ρ[i]? = some (some x) ∧ (mean Φ e).v ρ σ (one fun y σ => augS op x y σ fun v σ => K .next (ρ.set i (some v)) σ) := by
  have h : (match ρ[i]? with | some (some x) => (mean Φ e).v ρ σ (one fun y σ => augS op x y σ fun v σ => K .next (ρ.set i (some v)) σ) | _ => False) := h
  generalize ρ[i]? = o at h
  match o, h with
  | some (some x), h => exact ⟨x, rfl, h⟩
theorem snds_aug {i : Nat} {op : Operator} {e : X} (G : Gd B Kf T Φ n mg mb) : SndS B T Φ n (.aug i op e) := .of (fun _ => rfl) fun {Γ ρ env A α σ s st K} q hA I E hk => by
  obtain ⟨x, p, o, v, pos, rfl, q⟩ := inv_aug q
  obtain ⟨q0, q1, q2, q3⟩ := band4 q
  cases eq_of_beq q0
  have q3 := bnot q3
  obtain ⟨p1, p2, p3, p4, _⟩ := places_of q1
  obtain ⟨w, hw, hk⟩ := aug_mean hk
  · refine wpAny_AugAssign_Name (load_ok E p1 (p2.imp_right .inl) hw q3 fun c hc => ?_)
    refine out1 ((snd G e).v q2 hA I E hk) fun w₂ c₂ σ₂ α₂ s₂ hv₂ hc₂ I₂ X₂ => ?_
    refine out1 (augS_ok (own := noOwn) I₂ (hc.ext X₂) hc₂ hv₂) fun w₃ c₃ σ₃ α₃ s₃ hv₃ hc₃ I₃ X₃ => ?_
    exact store_ok G.gr I₃ ((E.ext I X₂).ext I₂ X₃) p1 p2 p3 p4 hc₃ fun s'' I'' E'' X'' => ⟨.next, _, _, _, rfl, hv₃, I'', E'', (X₂.trans X₃).lift.trans X''⟩
theorem aug_plain {i : Expr} (h : isSl i = false) (ov iv new : Value) : augStore i ov iv new = (do holding [new, ov, iv] (setItem ov iv new); release [new, ov, iv] []; pure .next) := by
  cases i <;> first | rfl | exact (Bool.false_ne_true h.symm).elim
theorem snds_augI {a i e : X} {op : Operator} (G : Gd B Kf T Φ n mg mb) : SndS B T Φ n (.augI a i op e) := .of (fun _ => rfl) fun {Γ ρ env A α σ s st K} q hA I E hk => by
  obtain ⟨ov, iv, p, o, v, pos, rfl, q⟩ := inv_augI q
  obtain ⟨q0, q1, q2, q3, q4⟩ := band5 q
  cases eq_of_beq q0
  have q3 := bnot q3
  refine wpAny_AugAssign_SubscriptAny (out1 ((snd G a).v q1 hA I E hk) fun w₁ c₁ σ₁ α₁ s₁ hv₁ hc₁ I₁ X₁ => ?_) (aug_plain q3)
  have E₁ := E.ext I X₁
  refine out1 ((snd G i).v q2 hA I₁ E₁ hv₁) fun w₂ c₂ σ₂ α₂ s₂ hv₂ hc₂ I₂ X₂ => ?_
  have E₂ := E₁.ext I₁ X₂
  refine out1 (idxS_ok (own := noOwn) I₂ (hc₁.ext X₂) hc₂ hv₂).2 fun w₃ c₃ σ₃ α₃ s₃ hv₃ hc₃ I₃ X₃ => ?_
  have E₃ := E₂.ext I₂ X₃
  refine out1 ((snd G e).v q4 hA I₃ E₃ hv₃) fun w₄ c₄ σ₄ α₄ s₄ hv₄ hc₄ I₄ X₄ => ?_
  have E₄ := E₃.ext I₃ X₄
  refine out1 (augS_ok (own := noOwn) I₄ (hc₃.ext X₄) hc₄ hv₄) fun w₅ c₅ σ₅ α₅ s₅ hv₅ hc₅ I₅ X₅ => ?_
  have E₅ := E₄.ext I₄ X₅
  refine wpAny_mono (putS_ok (own := noOwn) I₅ ((((hc₁.ext X₂).ext X₃).ext X₄).ext X₅) (((hc₂.ext X₃).ext X₄).ext X₅) hc₅ hv₅) (fun _ s₆ o_ => ?_) fun _ _ f => f
  obtain ⟨σ₆, α₆, h1, h2, h3⟩ := o_
  exact ⟨.next, ρ, σ₆, α₆, rfl, h1, h2, E₅.ext I₅ h3, (((((X₁.trans X₂).trans X₃).trans X₄).trans X₅).trans h3).lift⟩
theorem snds_augA {a e : X} {name : List Nat} {op : Operator} (G : Gd B Kf T Φ n mg mb) : SndS B T Φ n (.augA a name op e) := .of (fun _ => rfl) fun {Γ ρ env A α σ s st K} q hA I E hk => by
  obtain ⟨ov, x, p, o, v, pos, rfl, q⟩ := inv_augA q
  obtain ⟨q0, q9, q1, q2, q3⟩ := band5 q
  cases eq_of_beq q0
  obtain rfl := seq q9
  have hn := G.tab.att name (List.contains_iff_mem.mp q3)
  refine wpAny_AugAssign_AttributeAny (out1 ((snd G a).v q1 hA I E hk) fun w₁ c₁ σ₁ α₁ s₁ hv₁ hc₁ I₁ X₁ => ?_)
  have E₁ := E.ext I X₁
  refine out1 (attS_ok (own := noOwn) (I₁.kin G.gr) G.tab.cls I₁ hn hc₁ hv₁) fun w₃ c₃ σ₃ α₃ s₃ hv₃ hc₃ I₃ X₃ => ?_
  have E₃ := E₁.ext I₁ X₃
  refine out1 ((snd G e).v q2 hA I₃ E₃ hv₃) fun w₄ c₄ σ₄ α₄ s₄ hv₄ hc₄ I₄ X₄ => ?_
  have E₄ := E₃.ext I₃ X₄
  refine out1 (augS_ok (own := noOwn) I₄ (hc₃.ext X₄) hc₄ hv₄) fun w₅ c₅ σ₅ α₅ s₅ hv₅ hc₅ I₅ X₅ => ?_
  have E₅ := E₄.ext I₄ X₅
  refine wpAny_mono (attP_ok (own := noOwn) (I₅.kin G.gr) G.tab.cls I₅ hn (((hc₁.ext X₃).ext X₄).ext X₅) hc₅ hv₅) (fun _ s₆ o_ => ?_) fun _ _ f => f
  obtain ⟨σ₆, α₆, h1, h2, h3⟩ := o_
  exact ⟨.next, ρ, σ₆, α₆, rfl, h1, h2, E₅.ext I₅ h3, ((((X₁.trans X₃).trans X₄).trans X₅).trans h3).lift⟩
theorem snds_expr {e : X} (G : Gd B Kf T Φ n mg mb) : SndS B T Φ n (.expr e) := .of (fun _ => rfl) fun {Γ ρ env A α σ s st K} q hA I E hk => by
  obtain ⟨v, pos, rfl, q⟩ := inv_expr q
  obtain ⟨q1, q2⟩ := Bool.and_eq_true_iff.mp q
  refine wpAny_Expr_any (out1 ((snd G e).v q1 hA I E hk) fun w₁ c₁ σ₁ α₁ s₁ hv₁ hc₁ I₁ X₁ => ⟨.next, ρ, σ₁, α₁, rfl, hv₁, I₁, E.ext I X₁, X₁.lift⟩) ?_ ?_
  · have kf : env.scope.kind = .function := by rw [E.sc]; exact E.fn
    unfold interactive
    rw [kf]; rfl
  · cases v <;> first | rfl | exact (Bool.false_ne_true q2).elim
theorem snds_ret {e : X} (G : Gd B Kf T Φ n mg mb) : SndS B T Φ n (.ret e) := .of (fun _ => rfl) fun {Γ ρ env A α σ s st K} q hA I E hk => by
  obtain ⟨v, pos, rfl, q⟩ := inv_ret q
  exact wpAny_Return_some (out1 ((snd G e).v q hA I E hk) fun w₁ c₁ σ₁ α₁ s₁ hv₁ hc₁ I₁ X₁ => ⟨.ret w₁, ρ, σ₁, α₁, ⟨c₁, rfl, hc₁⟩, hv₁, I₁, E.ext I X₁, X₁.lift⟩)
theorem snds_retN : SndS B T Φ n .retN := .of (fun _ => rfl) fun {Γ ρ env A α σ s st K} q hA I E hk => by
  obtain ⟨pos, rfl, q⟩ := inv_retN q
  exact wpAny_Return_none ⟨.ret .none, ρ, σ, α, ⟨.none, rfl, rfl⟩, hk, I, E, .refl⟩
theorem snds_ife {t : X} {a b : S} (G : Gd B Kf T Φ n mg mb) (ha : SndS B T Φ n a) (hb : SndS B T Φ n b) : SndS B T Φ n (.ife t a b) := .of (fun _ => rfl) fun {Γ ρ env A α σ s st K} q hA I E hk => by
  obtain ⟨c, x, y, pos, rfl, q⟩ := inv_ife q
  obtain ⟨q1, q2, q3⟩ := band3 q
  refine wpAny_If (outB ((snd G t).t q1 hA I E hk) fun c σ₁ α₁ s₁ hv₁ I₁ X₁ => ?_)
  cases c with
  | true => exact wpAny_mono (ha.l q2 hA I₁ (E.ext I X₁) (hv₁.1 rfl)) (fun _ _ o => o.trans X₁.lift) fun _ _ f => f
  | false => exact wpAny_mono (hb.l q3 hA I₁ (E.ext I X₁) (hv₁.2 rfl)) (fun _ _ o => o.trans X₁.lift) fun _ _ f => f
theorem snds_brk : SndS B T Φ n .brk := .of (fun _ => rfl) fun {Γ ρ env A α σ s st K} q hA I E hk => by
  obtain ⟨pos, rfl, q⟩ := inv_brk q
  exact wpAny_Break ⟨.brk, ρ, σ, α, rfl, hk, I, E, .refl⟩
theorem snds_cont : SndS B T Φ n .cont := .of (fun _ => rfl) fun {Γ ρ env A α σ s st K} q hA I E hk => by
  obtain ⟨pos, rfl, q⟩ := inv_cont q
  exact wpAny_Continue ⟨.cont, ρ, σ, α, rfl, hk, I, E, .refl⟩

theorem snds_while {t : X} {b : S} (G : Gd B Kf T Φ n mg mb) (hb : SndS B T Φ n b) : SndS B T Φ n (.while_ t b) := .of (fun _ => rfl) fun {Γ ρ env A α σ s st K} q hA I E hk => by
  obtain ⟨c, body, pos, rfl, q⟩ := inv_while q
  obtain ⟨q1, q2⟩ := Bool.and_eq_true_iff.mp q
  obtain ⟨k, hk⟩ := hk
  refine wpAny_While (codeAny_whileLoop (fun k s' => Ex3 fun (α' : Nat → Addr) (σ' : Sto) (ρ' : Lv) => A4 (SInv B α' σ' s') (EnvOk B Γ ρ' α' σ'.length env s'.heap) (Ext B (ownOf Γ env) α σ s α' σ' s') (whileS (fun ρ σ K => (mean Φ t).t ρ σ K) (fun ρ σ K => wS Φ b ρ σ K) k ρ' σ' K)) (fun k s₁ hI => ?_) k ⟨α, σ, ρ, I, E, .refl, hk⟩)
  obtain ⟨α₁, σ₁, ρ₁, I₁, E₁, X₁, h₁⟩ := hI
  cases k with
  | zero => exact h₁.elim
  | succ k =>
    refine W.lift (outB ((snd G t).t q1 hA I₁ E₁ h₁) fun c σ₂ α₂ s₂ hv₂ I₂ X₂ => ?_)
    have E₂ := E₁.ext I₁ X₂
    cases c with
    | false => exact wpAny_execs_nil ⟨.next, ρ₁, σ₂, α₂, rfl, hv₂.1 rfl, I₂, E₂, X₁.trans X₂.lift⟩
    | true =>
      refine W.lift (wpAny_mono (hb.l q2 hA I₂ E₂ (hv₂.2 rfl)) (fun f s₃ o_ => ?_) fun _ _ f => f)
      obtain ⟨fl, ρ₃, σ₃, α₃, a, b, c, d, e⟩ := o_
      have Z := X₁.trans (X₂.lift.trans e)
      cases fl with
      | next => cases a; exact ⟨k, Nat.lt_succ_self k, α₃, σ₃, ρ₃, c, d, Z, b⟩
      | cont => cases a; exact ⟨k, Nat.lt_succ_self k, α₃, σ₃, ρ₃, c, d, Z, b⟩
      | brk => cases a; exact ⟨.next, ρ₃, σ₃, α₃, rfl, b, c, d, Z⟩
      | ret v =>
        obtain ⟨cv, rfl, hc⟩ := a
        exact ⟨.ret v, ρ₃, σ₃, α₃, ⟨cv, rfl, hc⟩, b, c, d, Z⟩

/-- a loop's turn, and what comes of it -/
noncomputable def TurnF (I : Nat → Shared → Prop) (Q : Flow → Shared → Prop) (k : Nat) (f : Flow) (s : Shared) : Prop := match f with
  | .next | .cont => ∃ m, m < k ∧ I m s
  | .brk => Q .next s
  | .ret v => Q (.ret v) s
noncomputable def NextF (B : Base) (A : Around) (tg : Expr) (it : Value) (body : List Stmt) (env : Env) (I : Nat → Shared → Prop) (Q : Flow → Shared → Prop) (k : Nat) (r : Option Value) (s : Shared) : Prop := match r with
  | none => Q .next s
  | some v => W B A (letOwnedTupleGo tg it v) s fun _ s => W B A (assign tg env v) s fun _ s => W B A (execs body env) s (TurnF I Q k)
theorem for_run {tg : Expr} {it : Value} {body : List Stmt} {Q : Flow → Shared → Prop} {R : Result → Shared → Prop} (I : Nat → Shared → Prop) (hR : ∀ f s, Q f s → R (.ok f) s)
    (turn : ∀ k s, I k s → W B A (pyNext it) s (NextF B A tg it body env I Q k)) (k : Nat) (h : I k s) : codeAny (model B.p B.w) A (.forLoop tg it body [] env) R s := by
  refine codeAny_forLoop_any I (fun k s h => W.lift (wpAny_mono (turn k s h) (fun r s₁ h₁ => ?_) fun _ _ f => f)) k h
  cases r with
  | none => exact wpAny_execs_nil (hR _ _ h₁)
  | some v =>
    refine W.lift (wpAny_mono h₁ (fun _ s₂ h₂ => W.lift (wpAny_mono h₂ (fun _ s₃ h₃ => W.lift (wpAny_mono h₃ (fun f s₄ h₄ => ?_) fun _ _ f => f)) fun _ _ f => f)) fun _ _ f => f)
    cases f with
    | next => exact h₄
    | cont => exact h₄
    | brk => exact hR _ _ h₄
    | ret v => exact hR _ _ h₄
inductive ForI (B : Base) (Φ : Con) (Γ : Fm) (env : Env) (a : Addr) (is : List Nat) (b : S) (α : Nat → Addr) (σ : Sto) (s : Shared) (K : FK) (k : Nat) (s' : Shared) : Prop
  | mk (α' : Nat → Addr) (σ' : Sto) (ρ' : Lv) (it : It) (i : SInv B α' σ' s') (e : EnvOk B Γ ρ' α' σ'.length env s'.heap) (y : ItAt B α' σ' it a s') (x : Ext B (fun b => ownOf Γ env b ∨ b = a) α σ s α' σ' s')
    (l : loopS (fun v ρ σ K => bindV is.length v σ fun xs σ => wS Φ b (setsL is xs ρ) σ K) k it ρ' σ' K)
theorem places_len : ∀ {is : List Nat} {xs : List Str}, Places Γ is xs → is.length = xs.length
  | [], [], _ => rfl
  | _ :: _, _ :: _, h => congrArg (· + 1) (places_len h.2.2.2.2)
  | [], _ :: _, h => h.elim
  | _ :: _, [], h => h.elim
theorem for_done {K : FK} {a : Addr} (fa : s.heap.get? a = none) {fl : Fl} {f : Flow} {ρ' : Lv} (h1 : FlR α' σ'.length fl f) (h2 : K fl ρ' σ') (h3 : SInv B α' σ' s') (h4 : EnvOk B Γ ρ' α' σ'.length env s'.heap) (h5 : Ext B (fun b => ownOf Γ env b ∨ b = a) α σ s α' σ' s') : OutF B Γ env α σ s K f s' :=
  ⟨_, _, _, _, h1, h2, h3, h4, h5.forget fun b q => q.elim .inl fun q => .inr (by rw [q]; exact fa)⟩
theorem for_turn {b : S} {is : List Nat} {tg : Expr} {xs : List Str} {body : List Stmt} {K : FK} {a : Addr} {k : Nat} {s₁ : Shared} (G : Gd B Kf T Φ n mg mb) (hb : SndS B T Φ n b) (hA : AOk A n) (ht : tgtNames tg = some xs) (hp : Places Γ is xs) (q3 : nmB is.length tg = true)
    (q4 : (chkS T Γ b).l body = true) (oa : OffEnv Γ env a) (fa : s.heap.get? a = none) (hI : ForI B Φ Γ env a is b α σ s K k s₁) : W B A (pyNext (.ref a)) s₁ (NextF B A tg (.ref a) body env (ForI B Φ Γ env a is b α σ s K) (OutF B Γ env α σ s K) k) := by
  obtain ⟨α₁, σ₁, ρ₁, it, I₁, E₁, Y₁, X₁, h₁⟩ := hI
  cases k with
  | zero => exact h₁.elim
  | succ k =>
    rcases loop_cases h₁ with ⟨e, h₁⟩ | ⟨v, it', e, h₁⟩
    · refine wpAny_mono (next_ok hA.h I₁ Y₁ e) (fun r s₃ o => ?_) fun _ _ f => f
      obtain ⟨I₃, X₃, rfl⟩ := o
      exact for_done (fl := .next) fa rfl h₁ I₃ (E₁.extOwn I₁ X₃ fun b q => by subst q; exact oa) (X₁.trans (X₃.weaken fun b q => .inr q))
    · refine wpAny_mono (next_ok hA.h I₁ Y₁ e) (fun r s₃ o => ?_) fun _ _ f => f
      obtain ⟨I₃, X₃, c, rfl, hcv, Y₃⟩ := o
      have E₃ := E₁.extOwn I₁ X₃ fun b q => by subst q; exact oa
      refine lot_ok Y₃.ok ?_
      refine wpAny_mono (target_ok G.gr hA.h I₃ E₃ ht hp hcv h₁ (places_len hp) (fun h1 => (nmB_ok q3).elim (fun q => absurd ((places_len hp).trans h1) q) id)) (fun _ s₄ o => ?_) fun _ _ f => f
      obtain ⟨ws, hk₄, _, α₄, I₄, E₄, X₄⟩ := o
      have Y₄ := Y₃.ext I₃ X₄ oa.own
      refine wpAny_mono (hb.l q4 hA I₄ E₄ hk₄) (fun f s₅ o_ => ?_) fun _ _ f => f
      obtain ⟨fl, ρ₅, σ₅, α₅, a', b', c', d', e'⟩ := o_
      have Z := X₁.trans ((X₃.weaken fun b q => .inr q).trans ((X₄.weaken fun b q => .inl q).trans (e'.weaken fun b q => .inl q)))
      have Y₅ := Y₄.ext I₄ e' oa.own
      cases fl with
      | next => cases a'; exact ⟨k, Nat.lt_succ_self k, α₅, σ₅, ρ₅, it', c', d', Y₅, Z, b'⟩
      | cont => cases a'; exact ⟨k, Nat.lt_succ_self k, α₅, σ₅, ρ₅, it', c', d', Y₅, Z, b'⟩
      | brk => cases a'; exact for_done (fl := .next) fa rfl b' c' d' Z
      | ret v =>
        obtain ⟨cv, rfl, hc⟩ := a'
        exact for_done (fl := .ret v) fa ⟨cv, rfl, hc⟩ b' c' d' Z
theorem snds_for {iter : X} {b : S} {is : List Nat} (G : Gd B Kf T Φ n mg mb) (hb : SndS B T Φ n b) : SndS B T Φ n (.for_ is iter b) := .of (fun _ => rfl) fun {Γ ρ env A α σ s st K} q hA I E hk => by
  obtain ⟨tg, it0, body, pos, rfl, q⟩ := inv_for q
  obtain ⟨q1, q2⟩ := band q
  obtain ⟨xs, ht, q2⟩ := tgB_ok q2
  obtain ⟨q2, q3, q4⟩ := band3 q2
  refine wpAny_For (wpAny_mono ((snd G iter).it q1 hA I E hk) (fun c s₁ h₁ => wpAny_mono h₁ (fun itv s₂ o => ?_) fun _ _ f => f) fun _ _ f => f) (noSet_fold (i_noSet q1) env)
  obtain ⟨it, a, σ₂, α₂, rfl, ⟨k, hk₂⟩, I₂, X₂, Y₂, fa⟩ := o
  exact for_run (ForI B Φ Γ env a is b α σ s K) (fun _ _ h => h) (fun k s₁ hI => for_turn G hb hA ht (places_of q2) q3 q4 (fresh_off E fa) fa hI) k ⟨α₂, σ₂, ρ, it, I₂, E.ext I X₂, Y₂, X₂.lift, hk₂⟩
end
end MI.Internal
end

section
set_option Elab.async false
set_option linter.all false
set_option maxRecDepth 10000
namespace MI.Internal
open PySem PySem.W PySem.Calls

section
variable {B : Base} {Kf : Frag} {T : Tab} {Φ : Con} {n : Nat} {mg mb : Str → Option Value} {α α' : Nat → Addr} {σ σ' : Sto} {s s' : Shared} {A : Around} {Γ : Fm} {ρ : Lv} {env : Env}

theorem inv_asgT {is : List Nat} {e : X} {st : Stmt} (q : (chkS T Γ (.asgT is e)).s st = true) : Ex5 fun es k p v pos => st = .Assign [.Tuple es k p] v pos ∧ ((chk T e Γ).e v && nmsB es fun xs => placesB Γ is xs && is.length != 1 && decide is.Nodup && (swp Γ es v == some none || swp Γ es v == some (some xs))) = true := by
  obtain ⟨ts, v, pos, rfl, q⟩ := sAssign_ok q
  obtain ⟨t, rfl, q⟩ := v1_ok q
  obtain ⟨es, k, p, rfl, q⟩ := vTup_ok q
  exact ⟨_, _, _, _, _, rfl, q⟩

theorem swp_eq {es : List Expr} {k : Nat} {p : Pos} {v : Expr} {r : Option (List Str)} (E : env.scope = Γ.sc) (fn : Γ.sc.kind = .function) (h : swp Γ es v = some r) : swappedStores [.Tuple es k p] v env = pure r := by
  have hb : env.blockKind = .function := by unfold Env.blockKind; rw [E, fn]; rfl
  have hk : ∀ x, env.kindOf x = Γ.kind x := fun x => by unfold Env.kindOf Fm.kind; rw [E]
  unfold swp at h
  cases v with
  | Tuple vs kk pp =>
    simp only at h
    unfold swappedStores
    simp only [hb, hk]
    rw [show (ScopeKind.function != ScopeKind.function) = false from rfl, Bool.or_false]
    split at h <;> rename_i c1
    · refine (if_pos c1).trans ?_; cases h; rfl
    · refine (if_neg c1).trans ?_
      split at h <;> rename_i c2
      · refine (if_pos c2).trans ?_; cases h; rfl
      · refine (if_neg c2).trans ?_
        split at h <;> rename_i c3
        · refine (if_pos c3).trans ?_; cases h; rfl
        · refine (if_neg c3).trans ?_
          split at h <;> rename_i c4
          · refine (if_pos c4).trans ?_; cases h; rfl
          · refine (if_neg c4).trans ?_
            split at h <;> rename_i c5
            · cases h
            · refine (if_neg c5).trans ?_; cases h; rfl
  | _ =>
    cases h
    rfl

theorem places_app : ∀ {is js : List Nat} {xs ys : List Str}, Places Γ is xs → Places Γ js ys → Places Γ (is ++ js) (xs ++ ys)
  | [], _, [], _, _, h => h
  | _ :: _, _, _ :: _, _, ⟨a, b, c, d, e⟩, h => ⟨a, b, c, d, places_app e h⟩
  | [], _, _ :: _, _, h, _ => h.elim
  | _ :: _, _, [], _, h, _ => h.elim
theorem places_rev : ∀ {is : List Nat} {xs : List Str}, Places Γ is xs → Places Γ is.reverse xs.reverse
  | [], [], _ => trivial
  | _ :: _, _ :: _, ⟨a, b, c, d, e⟩ => by
    rw [List.reverse_cons, List.reverse_cons]
    exact places_app (places_rev e) ⟨a, b, c, d, trivial⟩
  | [], _ :: _, h => h.elim
  | _ :: _, [], h => h.elim
theorem setsL_off {i : Nat} {v : V} : ∀ {is : List Nat} {vs : List V} {ρ : Lv}, i ∉ is → setsL is vs (ρ.set i (some v)) = (setsL is vs ρ).set i (some v)
  | [], _, _, _ => rfl
  | j :: is, [], _, _ => rfl
  | j :: is, w :: vs, ρ, h => by
    have hj : i ≠ j := fun e => h (e ▸ .head _)
    show setsL is vs ((ρ.set i (some v)).set j (some w)) = (setsL is vs (ρ.set j (some w))).set i (some v)
    rw [List.set_comm _ _ hj, setsL_off fun q => h (.tail _ q)]
theorem setsL_app : ∀ {is js : List Nat} {vs ws : List V} {ρ : Lv}, is.length = vs.length → setsL (is ++ js) (vs ++ ws) ρ = setsL js ws (setsL is vs ρ)
  | [], _, [], _, _, _ => rfl
  | i :: is, js, v :: vs, ws, ρ, h => by
    exact setsL_app (is := is) (vs := vs) (ρ := ρ.set i (some v)) (by simpa using h)
  | [], _, _ :: _, _, _, h => by simp at h
  | _ :: _, _, [], _, _, h => by simp at h
theorem setsL_rev : ∀ {is : List Nat} {vs : List V} {ρ : Lv}, is.Nodup → is.length = vs.length → setsL is.reverse vs.reverse ρ = setsL is vs ρ
  | [], [], _, _, _ => rfl
  | i :: is, v :: vs, ρ, hn, hl => by
    rw [List.reverse_cons, List.reverse_cons, setsL_app (by simpa using hl)]
    obtain ⟨h1, h2⟩ := List.nodup_cons.mp hn
    rw [setsL_rev h2 (by simpa using hl)]
    show (setsL is vs ρ).set i (some v) = setsL is vs (ρ.set i (some v))
    rw [setsL_off h1]
  | [], _ :: _, _, _, h => by simp at h
  | _ :: _, [], _, _, h => by simp at h
theorem VRs.reverse {n : Nat} : ∀ {vs : List V} {cs : List Value}, VRs α n vs cs → VRs α n vs.reverse cs.reverse
  | [], [], _ => trivial
  | _ :: _, _ :: _, ⟨a, b⟩ => by
    rw [List.reverse_cons, List.reverse_cons]
    exact b.reverse.append ⟨a, trivial⟩
  | [], _ :: _, h => h.elim
  | _ :: _, [], h => h.elim

theorem snds_asgT {is : List Nat} {e : X} (G : Gd B Kf T Φ n mg mb) : SndS B T Φ n (.asgT is e) := .of (fun _ => rfl) fun {Γ ρ env A α σ s st K} q hA I E hk => by
  obtain ⟨es, k, p, v, pos, rfl, q⟩ := inv_asgT q
  obtain ⟨q1, q2⟩ := band q
  obtain ⟨xs, ht, q2⟩ := nmsB_ok q2
  · obtain ⟨p1, p2, p3, p4⟩ := band4 q2
    have p2 := bne_iff_ne.mp p2
    have p3 := of_decide_eq_true p3
    have p4 := (Bool.or_eq_true_iff.mp p4).imp eq_of_beq eq_of_beq
    have hp := places_of p1
    have hs : swapsWithSole [.Tuple es k p] v pos.line env = pure false := by
      show swapsWith v (some (.Tuple es k p)) pos.line env = pure false
      cases v <;> rfl
    rcases p4 with p4 | p4
    · refine wpAny_Assign_stores (out1 ((snd G e).v q1 hA I E hk) fun w c σ' α' s' hv hc I' X => ?_) hs (swp_eq E.sc E.fn p4)
      show W B A (assign (.Tuple es k p) env c) s' (fun _ s'' => OutF B Γ env α σ s K .next s'')
      refine wpAny_mono (target_ok G.gr hA.h I' (E.ext I X) (t := .Tuple es k p) ht hp hc hv (places_len hp) (fun h1 => absurd ((places_len hp).trans h1) p2)) (fun _ s₂ o_ => ?_) fun _ _ f => f
      obtain ⟨ws, h1, h2, α₂, h3, h4, h5⟩ := o_
      exact ⟨.next, _, _, α₂, rfl, h1, h3, h4, X.lift.trans h5⟩
    · show wpAny _ _ _ _ _ _
      rw [arm_exec_Assign, hs]
      refine wpAny_bind (wpAny_standAt (wpAny_bind (wpAny_pure ?_)))
      rw [if_neg (by decide)]
      refine wpAny_bind (out1 ((snd G e).v q1 hA I E hk) fun w c σ' α' s' hv hc I' X => ?_)
      rw [swp_eq E.sc E.fn p4]
      refine wpAny_bind (wpAny_pure ?_)
      show W B A (do
        rule "assign.swapped-stores"
        let items ← unpackItems c xs.length none
        assignInOrder (xs.reverse.map fun n => bindName env n) items.reverse
        pure Flow.next) s' (fun f s'' => OutF B Γ env α σ s K f s'')
      refine wpAny_bind (wpAny_rule ?_)
      rw [← places_len hp]
      refine wpAny_bind (vals_ok hA.h I' p2 hc hv fun vs cs h' hk' hlen hvs keep => ?_)
      have J := I'.grow (tk := s'.toks) (d := s'.drawn) keep
      have X' : Ext B noOwn α' σ' s' α' σ' { s' with heap := h' } := .grow (tk := s'.toks) (d := s'.drawn) keep
      refine wpAny_bind (wpAny_mono (bind_ok G.gr 0 (A := A) (fs := xs.reverse.map fun n => bindName env n) (places_rev hp) (by simp) (fun j f x h1 h2 v s Q hq => ?_) J ((E.ext I X).ext I' X') (by simp [hlen]) hvs.reverse) (fun _ s'' ⟨α₂, h1, h2, h3⟩ => ?_) fun _ _ f => f)
      · rw [List.getElem?_map, h2] at h1
        cases h1
        exact wpAny_bindName hq
      · rw [setsL_rev p3 hlen.symm] at h2
        exact wpAny_pure ⟨.next, _, _, α₂, rfl, hk', h1, h2, (X.lift.trans X'.lift).trans h3⟩
end
end MI.Internal
end

section
set_option Elab.async false
set_option linter.all false
set_option maxRecDepth 10000
namespace MI.Internal
open PySem PySem.W PySem.Calls

section
variable {B : Base} {Kf : Frag} {T : Tab} {Φ : Con} {n : Nat} {mg mb : Str → Option Value} {α α' : Nat → Addr} {σ σ' : Sto} {s s' : Shared} {A : Around} {Γ : Fm} {ρ : Lv} {env : Env}

/-! ### a function is called -/
/-- what a call's end hands on -/
noncomputable def retK (K : VK) : FK := fun fl _ σ => match fl with
  | .ret v => K v σ
  | .next => K .none σ
  | _ => False

theorem bindL_get {k : Str → Option NameKind} {x : Str} {c : Value} (hk : k x = some .local) : ∀ {ps : List Str} {cs : List Value} {m : Str → Option Value} {i : Nat}, ps.Nodup → ps[i]? = some x → cs[i]? = some c → bindL k (ps.zip cs) m x = some c
  | p :: ps, d :: cs, m, 0, hn, h1, h2 => by
    simp at h1 h2
    subst h1 h2
    simp only [List.zip_cons_cons, bindL, hk, if_true]
    have off : ∀ (ps : List Str) (cs : List Value) (m : Str → Option Value), p ∉ ps → bindL k (ps.zip cs) m p = m p := by
      intro ps
      induction ps with
      | nil => intro cs m _; rfl
      | cons q ps ih =>
        intro cs m h
        cases cs with
        | nil => rfl
        | cons d cs =>
          simp only [List.zip_cons_cons, bindL]
          rw [ih cs _ (fun z => h (.tail _ z))]
          split
          · exact if_neg fun (e : p = q) => h (by rw [e]; exact .head _)
          · rfl
    rw [off ps cs _ (List.nodup_cons.mp hn).1]
    simp
  | p :: ps, d :: cs, m, i + 1, hn, h1, h2 => by
    simp only [List.zip_cons_cons, bindL]
    exact bindL_get hk (List.nodup_cons.mp hn).2 (by simpa using h1) (by simpa using h2)
  | [], _, _, _, _, h1, _ => by simp at h1
  | _ :: _, [], _, _, _, _, h2 => by simp at h2
theorem bindC_get {k : Str → Option NameKind} {x : Str} {c : Value} (hk : k x ≠ some .local) : ∀ {ps : List Str} {cs : List Value} {m : Str → Option Value} {i : Nat}, ps.Nodup → ps[i]? = some x → cs[i]? = some c → bindC k (ps.zip cs) m x = some c
  | p :: ps, d :: cs, m, 0, hn, h1, h2 => by
    simp at h1 h2
    subst h1 h2
    simp only [List.zip_cons_cons, bindC]
    rw [if_neg hk]
    have off : ∀ (ps : List Str) (cs : List Value) (m : Str → Option Value), p ∉ ps → bindC k (ps.zip cs) m p = m p := by
      intro ps
      induction ps with
      | nil => intro cs m _; rfl
      | cons q ps ih =>
        intro cs m h
        cases cs with
        | nil => rfl
        | cons d cs =>
          simp only [List.zip_cons_cons, bindC]
          rw [ih cs _ (fun z => h (.tail _ z))]
          split
          · rfl
          · exact if_neg fun (e : p = q) => h (by rw [e]; exact .head _)
    rw [off ps cs _ (List.nodup_cons.mp hn).1]
    simp
  | p :: ps, d :: cs, m, i + 1, hn, h1, h2 => by
    simp only [List.zip_cons_cons, bindC]
    exact bindC_get hk (List.nodup_cons.mp hn).2 (by simpa using h1) (by simpa using h2)
  | [], _, _, _, _, h1, _ => by simp at h1
  | _ :: _, [], _, _, _, _, h2 => by simp at h2

/-- what is asked of a def -/
structure DefOk (Kf : Frag) (a : Addr) (fd : FuncData) (ps : List Str) (Γ : Fm) (body : List Stmt) : Prop where
  at_ : ∃ oc od osl, Kf.lookup a = some ⟨oc, od, .func fd, osl⟩
  code : codeIn Kf fd.code fd.qualname = true
  body : fd.body = .stmts body
  sc : Γ.sc = fd.scope
  glob : fd.globals = mainGlobals
  blt : fd.builtins = builtinsNs
  clo : fd.closure = []
  co : fd.scope.isCoroutine = false
  gen : fd.scope.isGenerator = false
  fn : fd.scope.kind = .function
  bind : ∀ cs : List Value, cs.length = ps.length → bindArgs fd ⟨cs, []⟩ = pure (ps.zip cs)
  nd : ps.Nodup
  pre : ps <+: Γ.names
  par : ∀ x ∈ ps, Γ.kind x = some .local ∨ Γ.kind x = some .cell
  free : ∀ x ∈ Γ.names, Γ.kind x ≠ some .free

noncomputable def start (Γ : Fm) (vs : List V) : Lv := vs.map some ++ List.replicate (Γ.names.length - vs.length) none

/-- a body's end, that a call asks for -/
inductive OutG (B : Base) (Γ : Fm) (env : Env) (α : Nat → Addr) (σ : Sto) (s : Shared) (K : VK) (f : Flow) (s' : Shared) : Prop
  | mk (fl : Fl) (σ' : Sto) (α' : Nat → Addr) (a : FlR α' σ'.length fl f) (k : retK K fl [] σ') (i : SInv B α' σ' s') (x : Ext B (ownOf Γ env) α σ s α' σ' s')
theorem OutF.g {K : VK} {f : Flow} {s' : Shared} (h : OutF B Γ env α σ s (retK K) f s') : OutG B Γ env α σ s K f s' := by
  obtain ⟨fl, ρ', σ', α', a, b, c, _, e⟩ := h
  exact ⟨fl, σ', α', a, b, c, e⟩
/-- the end of a called def's body, seen from outside -/
noncomputable def OutC (B : Base) (α : Nat → Addr) (σ : Sto) (s : Shared) (K : VK) (r : Result) (s' : Shared) : Prop := match r with
  | .ok (.ret c) => Out B noOwn α σ s (one K) [c] s'
  | _ => False
theorem call_hand {a : Addr} {fd : FuncData} {ps : List Str} {body : List Stmt} {vs : List V} {cs : List Value} {K : VK} (G : Gr B mg mb Kf) (D : DefOk Kf a fd ps Γ body) (hA : AOk A (n + 1)) (I : SInv B α σ s)
    (hv : VRs α σ.length vs cs) (hl : vs.length = ps.length)
    (hb : ∀ {env : Env} {A : Around} {s : Shared}, (∃ L, env = callEnvC fd L a) → AOk A n → SInv B α σ s → EnvOk B Γ (start Γ vs) α σ.length env s.heap → W B A (execs body env) s fun f s' => OutG B Γ env α σ s K f s') : codeAny (model B.p B.w) A (.call (.ref a) ⟨cs, []⟩) (OutC B α σ s K) s := by
  obtain ⟨oc, od, osl, ha⟩ := D.at_
  have hcs : cs.length = ps.length := hv.length.trans hl
  have KI := I.kin G
  have kindE : ∀ x, (callEnvC fd s.heap.objs.size a).kindOf x = Γ.kind x := fun x => by
    show fd.scope.names.lookup x = Γ.sc.names.lookup x
    rw [D.sc]
  refine codeAny_call_cells (vals := cs) (binds := ps.zip cs) hA.room (KI _ _ ha) rfl (I.lim G) (codeRec_of KI D.code) D.body (D.bind cs hcs) D.clo (fun x hx => ?_) (fun s₁ x => ?_) D.co D.gen D.fn
  · have hm : x.1 ∈ ps := (List.of_mem_zip hx).1
    rcases D.par _ hm with k | k
    · left
      have : Γ.sc.names.lookup x.1 = some .local := k
      rwa [D.sc] at this
    · right
      have : Γ.sc.names.lookup x.1 = some .cell := k
      rw [D.sc] at this
      exact ⟨this, cells_some _ _ _ (.inl (mem_of_lookup this))⟩
  · obtain ⟨⟨⟨h₁, tk, rfl⟩, ns, keep, fresh⟩, cell, apart, above⟩ := x
    have I₁ := I.grow (tk := tk) (d := s.drawn) keep
    have X₁ : Ext B noOwn α σ s α σ { s with heap := h₁, toks := tk } := .grow (tk := tk) (d := s.drawn) keep
    have L0 : s.heap.get? s.heap.objs.size = none := none_at _
    have newc : ∀ y c, (y, c) ∈ (callEnvC fd s.heap.objs.size a).cells → s.heap.get? c = none ∧ c ≠ s.heap.objs.size := fun y c h => by
      have := above y c h
      have h2 : s.heap.objs.size < c := this
      refine ⟨?_, Nat.ne_of_gt h2⟩
      cases q : s.heap.get? c with
      | none => rfl
      | some o => exact absurd (Heap.lt_size q) (Nat.not_lt.mpr (Nat.le_of_lt h2))
    have vals : ∀ (i : Nat) (v : V), (start Γ vs)[i]? = some (some v) → vs[i]? = some v := fun i v h => by
      unfold start at h
      rw [List.getElem?_append] at h
      split at h
      · rw [List.getElem?_map] at h
        obtain ⟨w, e1, e2⟩ := Option.map_eq_some_iff.mp h
        cases e2
        exact e1
      · rw [List.getElem?_replicate] at h
        split at h <;> simp at h
    have nameP : ∀ (i : Nat) (x : Str) (v : V), Γ.names[i]? = some x → vs[i]? = some v → ps[i]? = some x := fun i x v h1 h2 => by
      obtain ⟨r, hr⟩ := D.pre
      have hi : i < ps.length := by rw [← hl]; exact (List.getElem?_eq_some_iff.mp h2).1
      rw [← hr, List.getElem?_append_left hi] at h1
      exact h1
    have E₁ : EnvOk B Γ (start Γ vs) α σ.length (callEnvC fd s.heap.objs.size a) h₁ := by
      refine ⟨D.sc.symm, by rw [D.sc]; exact D.fn, D.glob, D.blt, ?_, ⟨_, ns, fun i x h1 h2 v h3 => ?_⟩, fun i x h1 h2 => ?_, I.offTop L0, I.off L0, fun i x c h1 h2 h3 => ?_, fun x y c h1 h2 => ?_⟩
      · unfold start
        rw [List.length_append, List.length_map, List.length_replicate]
        have := D.pre.length_le
        lia
      · have e := vals i v h3
        obtain ⟨c, e1, e2⟩ := hv.get e
        exact ⟨c, bindL_get ((kindE x).trans h2) D.nd (nameP i x v h1 e) e1, e2⟩
      · have hx : Γ.kind x = some .cell := h2.resolve_right (D.free x (List.mem_iff_getElem?.mpr ⟨i, h1⟩))
        have hx' : fd.scope.names.lookup x = some .cell := by
          have : Γ.sc.names.lookup x = some .cell := hx
          rwa [D.sc] at this
        obtain ⟨c, hc⟩ := Option.isSome_iff_exists.mp (cells_some (x := x) fd.scope.names (s.heap.objs.size + 1) [] (.inl (mem_of_lookup hx')))
        refine ⟨c, _, hc, cell x c hc, fun v h3 => ?_⟩
        have e := vals i v h3
        obtain ⟨d, e1, e2⟩ := hv.get e
        exact ⟨d, bindC_get (fun z => by rw [kindE, hx] at z; cases z) D.nd (nameP i x v h1 e) e1, e2⟩
      · obtain ⟨a1, a2⟩ := newc x c (mem_of_lookup h3)
        exact ⟨I.offTop a1, I.off a1, a2⟩
      · exact name_of_addr apart (mem_of_lookup h1) (mem_of_lookup h2)
    refine W.lift (wpAny_mono (hb ⟨_, rfl⟩ (AOk.deeper hA) I₁ E₁) (fun f s' o_ => ?_) fun _ _ f => f)
    obtain ⟨fl, σ', α', e1, e2, e3, e5⟩ := o_
    have Z := (X₁.lift.trans e5).forget (own' := noOwn) fun b q => .inr (by
      rcases q with q | ⟨i, x, _, _, _, q⟩
      · have q' : b = s.heap.objs.size := q
        rw [q']; exact L0
      · exact (newc x b (mem_of_lookup q)).1)
    cases fl with
    | next => cases e1; exact ⟨[.none], σ', α', e2, ⟨rfl, trivial⟩, e3, Z⟩
    | ret v => obtain ⟨c, rfl, hc⟩ := e1; exact ⟨[v], σ', α', e2, ⟨hc, trivial⟩, e3, Z⟩
    | brk => exact e2.elim
    | cont => exact e2.elim

theorem call_code {a : Addr} {fd : FuncData} {ps : List Str} {body : List Stmt} {b : S} {vs : List V} {cs : List Value} {K : VK} (G : Gr B mg mb Kf) (D : DefOk Kf a fd ps Γ body) (hb : SndS B T Φ n b) (q : (chkS T Γ b).l body = true) (hA : AOk A (n + 1)) (I : SInv B α σ s)
    (hv : VRs α σ.length vs cs) (hl : vs.length = ps.length) (h : wS Φ b (start Γ vs) σ (retK K)) : codeAny (model B.p B.w) A (.call (.ref a) ⟨cs, []⟩) (OutC B α σ s K) s :=
  call_hand G D hA I hv hl fun _ hA I E => wpAny_mono (hb.l q hA I E h) (fun _ _ o => o.g) fun _ _ f => f
theorem call_of {f : Value} {cs : List Value} {K : VK} (h : codeAny (model B.p B.w) A (.call f ⟨cs, []⟩) (OutC B α σ s K) s) : W B A (call f cs) s fun c s' => Out B noOwn α σ s (one K) [c] s' :=
  wpAny_call (codeAny_mono h fun r s' hr => by
    match r, hr with
    | .ok (.ret c), hr => exact hr)
theorem call_ok {a : Addr} {fd : FuncData} {ps : List Str} {body : List Stmt} {b : S} {vs : List V} {cs : List Value} {K : VK} (G : Gr B mg mb Kf) (D : DefOk Kf a fd ps Γ body) (hb : SndS B T Φ n b) (q : (chkS T Γ b).l body = true) (hA : AOk A (n + 1)) (I : SInv B α σ s)
    (hv : VRs α σ.length vs cs) (hl : vs.length = ps.length) (h : wS Φ b (start Γ vs) σ (retK K)) : W B A (call (.ref a) cs) s fun c s' => Out B noOwn α σ s (one K) [c] s' :=
  call_of (call_code G D hb q hA I hv hl h)
end
end MI.Internal
end

section
set_option Elab.async false
set_option linter.all false
set_option maxRecDepth 10000
namespace MI.Internal
open PySem PySem.W PySem.Calls

/-! ### the generator of locale -/
section
variable {prog : Program} {w : World} {A : Around} {E : Value → Shared → Prop} {s : Shared} {a : Addr} {g : Nat}
/-- the next of a generator is its waking -/
theorem next_wake {Q : Option Value → Shared → Prop} (hg : s.heap.IsGen a g)
    (h : wpAny (model prog w) A.in1 (Builtin.Generator.genWake (.ref a) (.send .none)) (fun f s' => ∃ v, f = .done (.ret v) ∧ Q (some v) s')
      (fun e s' => wpAny (model prog w) A (do if ← isInstance e (.type "StopIteration") then pure none else throw e) Q E s') s) :
    wpAny (model prog w) A (pyNext (.ref a)) Q E s := by
  unfold pyNext
  exact wpAny_bind (wpAny_attempt (wpAny_callSpecial?_slot hg.typeIs slot_gen_next (wpAny_call_entry slot_gen_next hg.typeIs entry_gen_next
    (wpAny_mono h (fun f s' ⟨v, q, k⟩ => ⟨v, q, wpAny_pure k⟩) fun _ _ k => k) (args_gen_next _))))
/-- a generator that can go on, woken -/
theorem wake_to {n : Nat} {gs : GenState} {R : GenEnd} {Y : Protocol} {Q : Fin → Shared → Prop} (hl : s.heap.NoLimit) (hroom : A.depth < recursionLimit) (hg : s.heap.IsGen a g) (hgs : s.gens[g]? = some gs)
    (hgo : gs.Goes (model prog w) A.in1 R Y n (.send .none) (s.setGen g .running))
    (hR : ∀ x s₁, R n (s.setGen g .running) x s₁ → (x = .ok (.ret .none) ∧ A.handled = none ∧ ∀ e h', (∀ b o, s₁.heap.get? b = some o → h'.get? b = some o) → Shared.TypeIs { s₁ with heap := h' } (.ref e) "StopIteration" → E (.ref e) { s₁.setGen g .finished with heap := h' }) ∨
      ∃ e, x = .error e ∧ wpAny (model prog w) A.in1 (Builtin.Generator.genLeft (.ref a) e) Q E (s₁.setGen g .finished))
    (hY : ∀ v s₁ gs', gs'.bare = true → Y (n - 1) (s.setGen g .running) v s₁ (fun r' s' => match n with
        | 0 => False
        | m + 1 => gs'.Goes (model prog w) A.in1 R Y m r' s') → Q (.done (.ret v)) (s₁.setGen g gs')) :
    wpAny (model prog w) A.in1 (Builtin.Generator.genWake (.ref a) (.send .none)) Q E s := by
  unfold Builtin.Generator.genWake
  refine wpAny_bind (wpAny_holding (wpAny_genNumber hg (wpAny_bind (wpAny_genState hgs ?_))))
  obtain c | ⟨k₀, l₀, c₀, p₀, fs₀, b₀⟩ | _ | _ := gs
  rotate_right 2
  · exact hgo.elim
  · exact hgo.elim
  all_goals
    refine wpAny_bind (wpAny_roomToWake hl hroom (wpAny_resumeQ hgs hgo (fun x s₁ r => ?_) fun v s₁ gs' b y => wpAny_pure (hY v s₁ gs' b y)))
    rcases hR x s₁ r with ⟨rfl, hh, h⟩ | ⟨e, rfl, h⟩
    · exact wpAny_bind (m := newExc _ _) (stop_new fun e h' k t => wpAny_bind (m := raiseNew _) (wpAny_raiseNew_none hh (h e h' k t)))
    · exact h
end
theorem pyNext_genQ {prog : Program} {w : World} {A : Around} {E : Value → Shared → Prop} {s : Shared} {a : Addr} {g n : Nat} {gs : GenState} {P : Nat → Shared → Shared → Prop} {Y : Protocol} {Q : Option Value → Shared → Prop} (hh : A.handled = none)
    (hl : s.heap.NoLimit) (hroom : A.depth < recursionLimit)
    (hg : s.heap.IsGen a g) (hgs : s.gens[g]? = some gs)
    (hgo : gs.Goes (model prog w) A.in1 (fun n s₀ r s₁ => r = .ok (.ret .none) ∧ P n s₀ s₁) Y n (.send .none) (s.setGen g .running))
    (hY : ∀ v s₁ gs', gs'.bare = true → Y (n - 1) (s.setGen g .running) v s₁ (fun r' s'' => match n with
        | 0 => False
        | m + 1 => gs'.Goes (model prog w) A.in1 (fun n s₀ r s₁ => r = .ok (.ret .none) ∧ P n s₀ s₁) Y m r' s'') → Q (some v) (s₁.setGen g gs'))
    (hP : ∀ s₁, P n (s.setGen g .running) s₁ → ∀ h', (∀ b o, s₁.heap.get? b = some o → h'.get? b = some o) → Q none { s₁.setGen g .finished with heap := h' }) :
    wpAny (model prog w) A (pyNext (.ref a)) Q E s :=
  next_wake hg (wake_to hl hroom hg hgs hgo (fun x s₁ ⟨q, p⟩ => .inl ⟨q, hh, fun e h' k t => stop_seen t (hP s₁ p h' k)⟩) fun v s₁ gs' b y => ⟨v, rfl, hY v s₁ gs' b y⟩)
section
variable {M : Model} {A : Around} {R : GenEnd} {Y : Protocol} {n : Nat} {s₀ : Shared} {c : Code} {fs : List Frame} {s : Shared} {env : Env} {K : Flow → Sem Fin} {H : Value → Sem Fin} {gd : Bool → Bool} {lv : List Value → List Value}
theorem seg_For {target iter : Expr} {body orelse : List Stmt} {pos : Pos} (hs : ∀ x, foldedSetIterable iter env x = pure x)
    (h : wpAny M (A.over c fs) (eval iter env) (fun x s₁ => wpAny M (A.over c fs) (pyIter x) (fun it s₂ => ∀ p, Seg M A R Y n s₀ (.forLoop target it body orelse env) (M.den (.forLoop target it body orelse env))
      (.ret (fun r => ((match r with | .ok f => (.pure f : Sem Flow) | .error e => .raise e).onRaise fun (x : Value) => do
        if (← field x 1) == Value.none then unsupported "frame.own-activation:exception-without-traceback"
        setFlight x env.frame).wrap K H gd lv) none (gd false) (lv []) c p [] :: fs) s₂) (fun x s' => Seg M A R Y n s₀ c (H x) fs s') s₁) (fun x s' => Seg M A R Y n s₀ c (H x) fs s') s) :
    Seg M A R Y n s₀ c ((exec (.For target iter body orelse pos) env).wrap K H gd lv) fs s := by
  refine seg_at (p' := pos) ?_
  show Seg M A R Y n s₀ c ((eval iter env >>= fun x => foldedSetIterable iter env x >>= fun x => standAt iter.pos >>= fun _ => holding [x] (pyIter x) >>= fun it => runOwn (.forLoop target it body orelse env) env : Sem Flow).wrap K H gd lv) fs s
  rw [Sem.bind_eq_wrap', Sem.wrap_wrap]
  refine seg_wrap (wpAny_mono h (fun x s₁ h₁ => ?_) fun _ _ y => y)
  rw [hs, pure_bind]
  refine seg_at (p' := iter.pos) ?_
  show Seg M A R Y n s₀ c ((holding [x] (pyIter x) >>= fun it => runOwn (.forLoop target it body orelse env) env : Sem Flow).wrap K H _ _) fs s₁
  rw [Sem.bind_eq_wrap', Sem.wrap_wrap]
  refine seg_wrap (wpAny_holding (wpAny_mono h₁ (fun it s₂ h₂ => ?_) fun _ _ y => y))
  exact seg_call h₂
end
section
variable {prog : Program} {w : World} {A : Around} {R : GenEnd} {Y : Protocol} {n : Nat} {s₀ : Shared} {fs : List Frame} {s : Shared} {env : Env}
/-- what a raise in a loop's turn runs on to -/
noncomputable def noteH (env : Env) (e : Value) : Sem Fin := (do noteFrame e env; theTreesLotGoes e : Sem Unit).wrap (fun _ => .raise e) .raise id id
theorem seg_forLoop {target : Expr} {it : Value} {body orelse : List Stmt}
    (h : wpAny (model prog w) (A.over (.forLoop target it body orelse env) fs) (pyNext it) (fun r s₁ => match r with
      | none => Seg (model prog w) A R Y n s₀ (.forLoop target it body orelse env) (.pure (.again (.block orelse env))) fs s₁
      | some v => wpAny (model prog w) (A.over (.forLoop target it body orelse env) fs) (letOwnedTupleGo target it v) (fun _ s₂ => wpAny (model prog w) (A.over (.forLoop target it body orelse env) fs) (assign target env v) (fun _ s₃ =>
          Seg (model prog w) A R Y n s₀ (.forLoop target it body orelse env) ((execs body env).wrap (fun f => match f with
            | .next | .cont => .pure (.again (.forLoop target it body orelse env))
            | .brk => .pure (.done .next)
            | .ret v => .pure (.done (.ret v))) (noteH env) id id) fs s₃) (fun _ _ => False) s₂) (fun _ _ => False) s₁) (fun _ _ => False) s) :
    Seg (model prog w) A R Y n s₀ (.forLoop target it body orelse env) ((model prog w).den (.forLoop target it body orelse env)) fs s := by
  show Seg _ A R Y n s₀ _ ((forTurn target it body orelse env).onRaise (fun x => do noteFrame x env; theTreesLotGoes x)) fs s
  unfold forTurn
  rw [Sem.onRaise_eq_wrap]
  refine seg_at (p' := target.pos) ?_
  show Seg _ A R Y n s₀ _ ((((pyNext it).onRaise (fun _ => standAt { target.pos with line := 0 })) >>= _).wrap _ _ _ _) fs s
  rw [Sem.onRaise_eq_wrap, Sem.bind_eq_wrap', Sem.wrap_wrap, Sem.wrap_wrap]
  refine seg_wrap (wpAny_mono h (fun r s₁ h₁ => ?_) fun _ _ y => y.elim)
  cases r with
  | none => exact h₁
  | some v =>
    show Seg _ A R Y n s₀ _ ((letOwnedTupleGo target it v >>= fun _ => (assign target env v >>= fun _ => (execs body env >>= fun f => match f with
        | .next | .cont => again (.forLoop target it body orelse env)
        | .brk => pure (.done .next)
        | .ret v => pure (.done (.ret v)))) : Sem Fin).wrap _ _ _ _) fs s₁
    rw [Sem.bind_eq_wrap', Sem.wrap_wrap]
    refine seg_wrap (wpAny_mono h₁ (fun _ s₂ h₂ => ?_) fun _ _ y => y.elim)
    rw [Sem.bind_eq_wrap', Sem.wrap_wrap]
    refine seg_wrap (wpAny_mono h₂ (fun _ s₃ h₃ => ?_) fun _ _ y => y.elim)
    rw [Sem.bind_eq_wrap', Sem.wrap_wrap]
    rw [Sem.wrap_congr (execs body env) _ _ (K' := fun f => match f with
            | .next | .cont => .pure (.again (.forLoop target it body orelse env))
            | .brk => .pure (.done .next)
            | .ret v => .pure (.done (.ret v))) (H' := noteH env)
        (fun f => by cases f <;> rfl)
        (fun e => by first | exact Sem.bind_eq_wrap _ _ | (show (do noteFrame e env; theTreesLotGoes e : Sem Unit).bind (fun _ => .raise e) = _; rw [Sem.bind_eq_wrap]; rfl))]
    exact h₃
end
end MI.Internal
end

section
set_option Elab.async false
set_option linter.all false
set_option maxRecDepth 10000
namespace MI.Internal
open PySem PySem.W PySem.Calls

/-! ### the generator's own text, turn by turn -/
noncomputable def IntsAt (ns : List Int) (a : Addr) (h : Heap) : Prop := ∃ cs : List Value, h.IsList a cs.toArray ∧ cs.length = ns.length ∧ ∀ (i : Nat) (x : Int), ns[i]? = some x → ∃ t, cs[i]? = some (.int x t)
structure GEnv (mg : Str → Option Value) (env : Env) : Prop where
  fn : env.scope.kind = .function
  glob : env.globals = mainGlobals
  co : env.scope.isCoroutine = false
  kg : env.kindOf "grouping" = some .local
  kl : env.kindOf "last_interval" = some .local
  ki : env.kindOf "interval" = some .local
  kc : env.kindOf "CHAR_MAX" = some .globalImplicit
  mc : ∃ t, mg "CHAR_MAX" = some (.int 127 t)
noncomputable def Eff (L Ia : Addr) (s s' : Shared) : Prop := s'.gens = s.gens ∧ s'.os = s.os ∧ ∀ b o, b ≠ L → b ≠ Ia → s.heap.get? b = some o → s'.heap.get? b = some o
noncomputable def gY (mg : Str → Option Value) (L Ia a : Addr) (ns : List Int) (N : Nat) : Protocol := fun n s₀ v s₁ κ =>
  (∃ x t, genSeq ns none (N - n) = some x ∧ v = .int x t) ∧ Eff L Ia s₀ s₁ ∧ (∃ o, s₁.heap.get? L = some o) ∧ (∃ o, s₁.heap.get? Ia = some o) ∧
    (1 ≤ n → ∀ s'', s''.heap.get? L = s₁.heap.get? L → s''.heap.get? Ia = s₁.heap.get? Ia → IntsAt ns a s''.heap → s''.heap.Ns mainGlobals mg → κ (.send .none) s'')
noncomputable def gP (L Ia : Addr) (ns : List Int) (N : Nat) : Nat → Shared → Shared → Prop := fun n s₀ s₁ => Eff L Ia s₀ s₁ ∧ genSeq ns none (N + 1 - n) = none
noncomputable def gR (L Ia : Addr) (ns : List Int) (N : Nat) : GenEnd := fun n s₀ r s₁ => r = .ok (.ret .none) ∧ gP L Ia ns N n s₀ s₁
theorem Eff.refl {L Ia : Addr} {s : Shared} : Eff L Ia s s := ⟨rfl, rfl, fun _ _ _ _ e => e⟩
theorem Eff.trans {L Ia : Addr} {s s' s'' : Shared} (x : Eff L Ia s s') (y : Eff L Ia s' s'') : Eff L Ia s s'' := ⟨y.1.trans x.1, y.2.1.trans x.2.1, fun b o h1 h2 e => y.2.2 b o h1 h2 (x.2.2 b o h1 h2 e)⟩

section
variable {B : Base} {mg : Str → Option Value} {A : Around} {env : Env} {Ia a : Addr} {ns : List Int} {N : Nat}
theorem inter_off (G : GEnv mg env) : interactive env = false := by
  unfold interactive
  rw [G.fn]; rfl
/-- a local name of the generator's is read -/
theorem gloc (G : GEnv mg env) {A : Around} {s : Shared} {x : Str} {pos : Pos} {m : Str → Option Value} {v : Value} {Q : Value → Shared → Prop} {E : Value → Shared → Prop} (hx : env.kindOf x = some .local) (hn : s.heap.Ns env.locals m) (hv : m x = some v)
    (hd : (x == ("__debug__" : Str)) = false) (k : Q v s) : wpAny (model B.p B.w) A (eval (.Name x pos) env) Q E s := wpAny_Name (wpAny_loadName_local G.fn hx hn hv k) hd
theorem Eff.same {L Ia b : Addr} {s s' : Shared} {h' : Heap} {tk : Nat} (x : Eff L Ia s s') (hb : b = L ∨ b = Ia) (hs : ∀ c o, c ≠ b → s'.heap.get? c = some o → h'.get? c = some o) : Eff L Ia s { s' with heap := h', toks := tk } :=
  x.trans ⟨rfl, rfl, fun c o h1 h2 e => hs c o (fun q => hb.elim (fun z => h1 (q.trans z)) fun z => h2 (q.trans z)) e⟩

/-- the endless row of one number -/
theorem gen_while (G : GEnv mg env) {p1 p2 p3 p4 : Pos} {x : Int} {t : Tok} : ∀ (n : Nat) {s₀ s : Shared} {fs : List Frame} {m : Str → Option Value}, n ≤ N → splitAtGen fs = none → fs.any Frame.guarded = false → (∀ k, genSeq ns none (N - n + k) = some x) → Eff env.locals Ia s₀ s →
    s.heap.Ns env.locals m → m "last_interval" = some (.int x t) → (∃ o, s.heap.get? Ia = some o) →
    Seg (model B.p B.w) A (gR env.locals Ia ns N) (gY mg env.locals Ia a ns N) (n + 1) s₀ (.whileLoop (.Constant (.bool true) 0 p1) [.Expr (.Yield (some (.Name "last_interval" p2)) p3) p4] [] env)
      ((model B.p B.w).den (.whileLoop (.Constant (.bool true) 0 p1) [.Expr (.Yield (some (.Name "last_interval" p2)) p3) p4] [] env)) fs s
  := by
    intro n
    induction n using Nat.strongRecOn with | _ n ih => ?_
    intro s₀ s fs m hn h1 h2 hx he hm hl hI
    refine seg_whileLoop (wpAny_isTrue_value (wpAny_Constant_bool (wpAny_truthy_bool ?_)))
    rw [if_pos rfl]
    refine seg_execs_cons (seg_Expr_Yield h1 rfl h2 (gloc G G.kl hm hl (by decide) fun κ hκ => ?_) G.co (inter_off G))
    refine ⟨⟨x, t, hx 0, rfl⟩, he, let ⟨o, _, _, ho, _⟩ := hm; ⟨o, ho⟩, hI, fun hn1 s'' e1 e2 e3 e4 => hκ _ _ ?_⟩
    obtain ⟨n, rfl⟩ : ∃ k, n = k + 1 := ⟨n - 1, by lia⟩
    refine seg_execs_nil (seg_again (by rfl) ?_)
    refine ih n (Nat.lt_succ_self n) (by lia) h1 h2 (fun k => ?_) .refl ?_ hl ?_
    · rw [show N - n + k = N - (n + 1) + (k + 1) by lia]; exact hx (k + 1)
    · obtain ⟨o, es, ep, ho, r⟩ := hm
      exact ⟨o, es, ep, e1.trans ho, r⟩
    · obtain ⟨o, ho⟩ := hI
      exact ⟨o, e2.trans ho⟩
end
end MI.Internal
end

section
set_option Elab.async false
set_option linter.all false
set_option maxRecDepth 10000
namespace MI.Internal
open PySem PySem.W PySem.Calls

section
variable {M : Model} {A : Around} {R : GenEnd} {Y : Protocol} {n : Nat} {s₀ : Shared} {c : Code} {fs : List Frame} {s : Shared} {env : Env} {K : Flow → Sem Fin} {H : Value → Sem Fin} {gd : Bool → Bool} {lv : List Value → List Value}
theorem seg_If {test : Expr} {body orelse : List Stmt} {pos : Pos}
    (h : wpAny M (A.over c fs) (isTrue test env (eval test env)) (fun b s' => if b then Seg M A R Y n s₀ c ((execs body env).wrap K H gd lv) fs s' else Seg M A R Y n s₀ c ((execs orelse env).wrap K H gd lv) fs s') (fun x s' => Seg M A R Y n s₀ c (H x) fs s') s) :
    Seg M A R Y n s₀ c ((exec (.If test body orelse pos) env).wrap K H gd lv) fs s := by
  rw [exec_If]
  refine seg_at (p' := pos) ?_
  show Seg M A R Y n s₀ c ((isTrue test env (eval test env) >>= fun b => if b then execs body env else execs orelse env : Sem Flow).wrap K H gd lv) fs s
  rw [Sem.bind_eq_wrap', Sem.wrap_wrap]
  refine seg_wrap (wpAny_mono h (fun b s' hb => ?_) fun _ _ y => y)
  cases b <;> exact hb
end

noncomputable def gLoop (pp : Nat → Pos) (rz : List Stmt) : List Stmt := [
  .If (.Compare (.Name "interval" (pp 0)) [.Eq] [.Name "CHAR_MAX" (pp 1)] (pp 2)) [.Return none (pp 3)] [] (pp 4),
  .If (.Compare (.Name "interval" (pp 5)) [.Eq] [.Constant (.int 0) 0 (pp 6)] (pp 7)) [.If (.Compare (.Name "last_interval" (pp 8)) [.Is] [.Constant .none 0 (pp 9)] (pp 10)) rz [] (pp 11),
    .While (.Constant (.bool true) 0 (pp 12)) [.Expr (.Yield (some (.Name "last_interval" (pp 13))) (pp 14)) (pp 15)] [] (pp 16)] [] (pp 17),
  .Expr (.Yield (some (.Name "interval" (pp 18))) (pp 19)) (pp 20),
  .Assign [.Name "last_interval" (pp 21)] (.Name "interval" (pp 22)) (pp 23)]
noncomputable def gBody (pp : Nat → Pos) (rz : List Stmt) : List Stmt := [.Assign [.Name "last_interval" (pp 24)] (.Constant .none 0 (pp 25)) (pp 26), .For (.Name "interval" (pp 27)) (.Name "grouping" (pp 28)) (gLoop pp rz) [] (pp 29)]
noncomputable def lastV : Option Int → Tok → Value
  | none, _ => .none
  | some x, t => .int x t

section
variable {B : Base} {mg : Str → Option Value} {A : Around} {env : Env} {Ia a : Addr} {ns : List Int} {N : Nat}
theorem gsto (G : GEnv mg env) {A : Around} {s : Shared} {x : Str} {m : Str → Option Value} {v : Value} {Q : Unit → Shared → Prop} {E : Value → Shared → Prop} (hx : env.kindOf x = some .local) (hn : s.heap.Ns env.locals m)
    (h : ∀ h', h'.Ns env.locals (fun y => if y = x then some v else m y) → Heap.SameBut env.locals s.heap h' → Q () { s with heap := h', toks := s.toks + 1 }) : wpAny (model B.p B.w) A (storeName env x v) Q E s :=
  wpAny_storeName_local hx hn h (by rw [G.fn]; rfl)
theorem IntsAt.keep {h h' : Heap} (x : IntsAt ns a h) (e : ∀ o, h.get? a = some o → h'.get? a = some o) : IntsAt ns a h' := by
  obtain ⟨cs, ⟨o, ho, r⟩, z⟩ := x
  exact ⟨cs, ⟨o, e _ ho, r⟩, z⟩
theorem Ns_keep {h h' : Heap} {b : Addr} {m : Str → Option Value} (x : h.Ns b m) (e : ∀ o, h.get? b = some o → h'.get? b = some o) : h'.Ns b m := by
  obtain ⟨o, es, ep, ho, r⟩ := x
  exact ⟨o, es, ep, e _ ho, r⟩

theorem gen_for (G : GEnv mg env) {pp : Nat → Pos} {rz : List Stmt} (hLI : env.locals ≠ Ia) (hLg : env.locals ≠ mainGlobals) (hIg : Ia ≠ mainGlobals) (haL : a ≠ env.locals) (haI : a ≠ Ia) : ∀ (n : Nat) {s₀ s : Shared} {fs : List Frame} {m : Str → Option Value} {i : Nat} {last : Option Int} {t : Tok},
    n + i = N → splitAtGen fs = none → fs.any Frame.guarded = false → (A.over (.forLoop (.Name "interval" (pp 27)) (.ref Ia) (gLoop pp rz) [] env) fs).handled = none →
    (∀ k, genSeq ns none (i + k) = genSeq (ns.drop i) last k) → (last = none → ns[i]? ≠ some 0) → Eff env.locals Ia s₀ s → s.heap.Ns env.locals m → m "last_interval" = some (lastV last t) →
    s.heap.IsListIter Ia a i → IntsAt ns a s.heap → s.heap.Ns mainGlobals mg →
    (∀ c' n s₀ s r, (r = .next ∨ r = .ret .none) → gP env.locals Ia ns N n s₀ s → Seg (model B.p B.w) A (gR env.locals Ia ns N) (gY mg env.locals Ia a ns N) n s₀ c' (leafOf (.ok r)) fs s) →
    Seg (model B.p B.w) A (gR env.locals Ia ns N) (gY mg env.locals Ia a ns N) (n + 1) s₀ (.forLoop (.Name "interval" (pp 27)) (.ref Ia) (gLoop pp rz) [] env)
      ((model B.p B.w).den (.forLoop (.Name "interval" (pp 27)) (.ref Ia) (gLoop pp rz) [] env)) fs s
  := by
    intro n
    induction n using Nat.strongRecOn with | _ n ih => ?_
    intro s₀ s fs m i last t hN h1 h2 hh hseq hz he hm hl hI hns hmg hend
    refine seg_forLoop ?_
    obtain ⟨cs, hcl, hlen, hcs⟩ := id hns
    have idx : N + 1 - (n + 1) = i := by lia
    have seq0 := hseq 0
    rw [Nat.add_zero] at seq0
    cases q : ns[i]? with
    | none =>
      have hl' : ns.length ≤ i := List.getElem?_eq_none_iff.mp q
      refine wpAny_pyNext_list_end hh hI hcl (by simp; lia) fun h' hs => ?_
      refine seg_again (by rfl) (hend _ _ _ _ .next (.inl rfl) ⟨he.same (tk := s.toks) (.inr rfl) fun c o hc e => hs c o hc e, ?_⟩)
      rw [idx, seq0, List.drop_eq_nil_iff.mpr hl']; rfl
    | some x =>
      obtain ⟨t', hct⟩ := hcs i x q
      have hdrop : ns.drop i = x :: ns.drop (i + 1) := by
        have := (List.getElem?_eq_some_iff.mp q)
        obtain ⟨hlt, e⟩ := this
        rw [List.drop_eq_getElem_cons hlt, e]
      refine wpAny_pyNext_list_item hI hcl (by simpa using hct) fun h₁ hi₁ hs₁ => ?_
      refine wpAny_pure (wpAny_assign_Name (gsto G G.ki (hm.sameBut hs₁ hLI) fun h₂ hn₂ hs₂ => ?_))
      have hi₂ : h₂.IsListIter Ia a (i + 1) := by
        obtain ⟨o, ho, r⟩ := hi₁
        exact ⟨o, (hs₂.2 Ia hLI.symm).trans ho, r⟩
      have e₂ : Eff env.locals Ia s₀ { s with heap := h₂, toks := s.toks + 1 } := he.trans ⟨rfl, rfl, fun b o b1 b2 e => (hs₂.2 b b1).trans ((hs₁.2 b b2).trans e)⟩
      have hmg₂ : h₂.Ns mainGlobals mg := Ns_keep hmg fun o e => (hs₂.2 _ hLg.symm).trans ((hs₁.2 _ hIg.symm).trans e)
      have hns₂ : IntsAt ns a h₂ := hns.keep fun o e => (hs₂.2 a haL).trans ((hs₁.2 a haI).trans e)
      have hl₂ : (fun y => if y = ("interval" : Str) then some (.int x t' : Value) else m y) "last_interval" = some (lastV last t) := by
        show (if ("last_interval" : Str) = ("interval" : Str) then _ else _) = _
        rw [if_neg (by decide)]; exact hl
      have hv₂ : (fun y => if y = ("interval" : Str) then some (.int x t' : Value) else m y) "interval" = some (.int x t') := if_pos rfl
      generalize hm₂ : (fun y => if y = ("interval" : Str) then some (.int x t' : Value) else m y) = m₂ at hn₂ hl₂ hv₂
      obtain ⟨tm, hmax⟩ := G.mc
      refine seg_execs_cons (seg_If (wpAny_isTrue_Compare1 (gloc G G.ki hn₂ hv₂ (by decide) (Name_function_global G.fn G.kc (loadGlobal_global (by rw [G.glob]; exact hmg₂) hmax (P.eq_int (wpAny_truthy_bool ?_))) (by decide)))))
      by_cases c1 : x = 127
      · rw [show (x == 127) = true by simpa using c1]
        refine seg_execs_cons (seg_wrap (wpAny_Return_none ?_))
        refine hend _ _ _ _ (.ret .none) (.inr rfl) ⟨e₂, ?_⟩
        rw [idx, seq0, hdrop]
        simp [genSeq, c1]
      · rw [show (x == 127) = false by simpa using c1]
        refine seg_execs_nil (seg_execs_cons (seg_If (wpAny_isTrue_Compare1 (gloc G G.ki hn₂ hv₂ (by decide) (wpAny_Constant_int (P.eq_int (wpAny_truthy_bool ?_)))))))
        by_cases c2 : x = 0
        · rw [show (x == 0) = true by simpa using c2]
          cases last with
          | none => exact absurd (c2 ▸ q) (hz rfl)
          | some y =>
            refine seg_execs_cons (seg_If (wpAny_isTrue_Compare1 (gloc G G.kl hn₂ hl₂ (by decide) (wpAny_Constant_none (wpAny_is_plain rfl (wpAny_truthy_bool ?_))))))
            show Seg _ _ _ _ _ _ _ _ _ _
            refine seg_execs_nil (seg_execs_cons (seg_While fun p => ?_))
            refine gen_while G n (by lia) (by simp [splitAtGen, h1]) (by simp [Frame.guarded, h2]) (fun k => ?_) (e₂.trans ⟨rfl, rfl, fun _ _ _ _ e => e⟩) hn₂ hl₂ (let ⟨o, ho, _⟩ := hi₂; ⟨o, ho⟩)
            rw [show N - n + k = i + k by lia, hseq k, hdrop]
            simp [genSeq, c2]
        · rw [show (x == 0) = false by simpa using c2]
          refine seg_execs_nil (seg_execs_cons (seg_Expr_Yield h1 rfl h2 (gloc G G.ki hn₂ hv₂ (by decide) fun κ hκ => ?_) G.co (inter_off G)))
          refine ⟨⟨x, t', ?_, rfl⟩, e₂.trans ⟨rfl, rfl, fun _ _ _ _ e => e⟩, let ⟨o, _, _, ho, _⟩ := hn₂; ⟨o, ho⟩, let ⟨o, ho, _⟩ := hi₂; ⟨o, ho⟩, fun hn1 s'' e1 e2 e3 e4 => hκ _ _ ?_⟩
          · rw [show N - n = i by lia, seq0, hdrop]
            simp [genSeq, c1, c2]
          obtain ⟨k, rfl⟩ : ∃ k, n = k + 1 := ⟨n - 1, by lia⟩
          have hn₃ : s''.heap.Ns env.locals m₂ := Ns_keep hn₂ fun o e => e1.trans e
          have hi₃ : s''.heap.IsListIter Ia a (i + 1) := by
            obtain ⟨o, ho, r⟩ := hi₂
            exact ⟨o, e2.trans ho, r⟩
          refine seg_execs_cons (seg_wrap (wpAny_Assign_Name (gloc G G.ki hn₃ hv₂ (by decide) (gsto G G.kl hn₃ fun h₄ hn₄ hs₄ => ?_))))
          refine seg_execs_nil (seg_again (by rfl) ?_)
          refine ih k (Nat.lt_succ_self k) (i := i + 1) (last := some x) (t := t') (by lia) h1 h2 hh (fun j => ?_) (fun e => (by cases e)) ⟨rfl, rfl, fun b o b1 b2 e => (hs₄.2 b b1).trans e⟩ hn₄ (if_pos rfl) ?_ (e3.keep fun o e => (hs₄.2 a haL).trans e) (Ns_keep e4 fun o e => (hs₄.2 _ hLg.symm).trans e) hend
          · rw [show i + 1 + j = i + (j + 1) by lia, hseq (j + 1), hdrop]
            simp [genSeq, c1, c2]
          · obtain ⟨o, ho, r⟩ := hi₃
            exact ⟨o, (hs₄.2 Ia hLI.symm).trans ho, r⟩
end
end MI.Internal
end

section
set_option Elab.async false
set_option linter.all false
set_option maxRecDepth 10000
namespace MI.Internal
open PySem PySem.W PySem.Calls

section
variable {B : Base} {mg : Str → Option Value} {A : Around} {env : Env} {Ia a : Addr} {ns : List Int} {N : Nat}
theorem gen_start (G : GEnv mg env) {pp : Nat → Pos} {rz : List Stmt} {s : Shared} {m : Str → Option Value} (hA : A.handled = none) (hIa : Ia = s.heap.objs.size) (hLg : env.locals ≠ mainGlobals) (haL : a ≠ env.locals)
    (hm : s.heap.Ns env.locals m) (hg : m "grouping" = some (.ref a)) (hns : IntsAt ns a s.heap) (hmg : s.heap.Ns mainGlobals mg) (hz : ns.head? ≠ some 0) :
    Seg (model B.p B.w) A (gR env.locals Ia ns N) (gY mg env.locals Ia a ns N) (N + 1) s (.func (gBody pp rz) env) ((model B.p B.w).den (.func (gBody pp rz) env)) [] s := by
  subst hIa
  have live : ∀ {b : Addr} {o : Obj}, s.heap.get? b = some o → b ≠ s.heap.objs.size := fun e q => by
    have := Heap.lt_size e
    rw [q] at this; exact Nat.lt_irrefl _ this
  obtain ⟨L0, hL0⟩ : ∃ o, s.heap.get? env.locals = some o := let ⟨o, _, _, ho, _⟩ := hm; ⟨o, ho⟩
  obtain ⟨G0, hG0⟩ : ∃ o, s.heap.get? mainGlobals = some o := let ⟨o, _, _, ho, _⟩ := hmg; ⟨o, ho⟩
  obtain ⟨a0, ha0⟩ : ∃ o, s.heap.get? a = some o := let ⟨_, ⟨o, ho, _⟩, _⟩ := hns; ⟨o, ho⟩
  refine seg_func (seg_execs_cons (seg_wrap (wpAny_Assign_Name (wpAny_Constant_none (gsto G G.kl hm fun h₁ hn₁ hs₁ => ?_)))))
  have hns₁ : IntsAt ns a h₁ := hns.keep fun o e => (hs₁.2 a haL).trans e
  obtain ⟨cs, hcl, _⟩ := id hns₁
  have hg₁ : (fun y => if y = ("last_interval" : Str) then some (.none : Value) else m y) "grouping" = some (.ref a) := by
    show (if ("grouping" : Str) = ("last_interval" : Str) then _ else _) = _
    rw [if_neg (by decide)]; exact hg
  refine seg_execs_cons (seg_For (fun _ => rfl) (gloc G G.kg hn₁ hg₁ (by decide) (wpAny_pyIter_list hcl fun p => ?_)))
  have push : ∀ {b o}, h₁.get? b = some o → (h₁.push { cls := .type "list_iterator", data := .fields #[.ref a, .int 0 0] }).get? b = some o := fun e => Heap.get?_push_of_some _ e
  have hsz : h₁.objs.size = s.heap.objs.size := hs₁.1
  rw [show (Value.ref ({ s with heap := h₁, toks := s.toks + 1 } : Shared).heap.objs.size) = .ref s.heap.objs.size from by rw [← hsz]]
  refine gen_for G (m := fun y => if y = ("last_interval" : Str) then some (.none : Value) else m y) (live hL0) hLg (live hG0).symm haL (live ha0) N (i := 0) (last := none) (t := 0) rfl (by rfl) (by rfl) (by exact hA) (fun k => by simp) (fun _ => by
    rw [← List.head?_eq_getElem?]; exact hz) ⟨rfl, rfl, fun b o b1 b2 e => push ((hs₁.2 b b1).trans e)⟩ (Ns_keep hn₁ fun o e => push e) (if_pos rfl) ⟨_, by rw [← hsz]; exact Heap.get?_push_size _ rfl, rfl, rfl⟩ (hns₁.keep fun o e => push e)
    (Ns_keep hmg fun o e => push ((hs₁.2 _ hLg.symm).trans e)) (fun c' n s₀ s r hr hp => ?_)
  refine seg_leaf (.ok r) ?_
  rcases hr with rfl | rfl
  · exact seg_end (.ok (.ret .none)) ⟨rfl, hp⟩
  · exact seg_end (.ok (.ret .none)) ⟨rfl, hp⟩
end

/-! ### steps beside the store -/
section
variable {B : Base} {own : Addr → Prop} {α α' α₁ : Nat → Addr} {σ σ' σ₁ : Sto} {s s' s₁ s₂ : Shared} {Γ : Fm} {ρ : Lv} {env : Env}
theorem SInv.step (I : SInv B α σ s) (hk : ∀ b o, ¬ own b → s.heap.get? b = some o → s'.heap.get? b = some o) (ht : ∀ b, own b → B.h₀.get? b = none) (ho : ∀ b, own b → ∀ r, r < σ.length → α r ≠ b)
    (hb : PyProof.Rows.AllBare s'.gens) (hos : s'.os = s.os) : SInv B α σ s' := by
  refine ⟨I.inj, I.top, fun r y e => ?_, fun b o h2 h3 => hk b o (fun q => by rw [ht b q] at h3; cases h3) (I.base b o h2 h3), ?_, hb, hos.trans I.os⟩
  · obtain ⟨o, e', z⟩ := I.objs r y e
    exact ⟨o, hk _ _ (fun q => ho _ q r (I.get e) rfl) e', z⟩
  · exact I.tab.keep fun o e => hk _ _ (fun q => by have := I.tab.1; rw [ht _ q] at this; cases this) e
theorem Ext.step (X : Ext B own α σ s α₁ σ₁ s₁) (hk : ∀ b o, ¬ own b → s₁.heap.get? b = some o → s₂.heap.get? b = some o) (hg : s₁.gens.size ≤ s₂.gens.size ∧ ∀ g, g < s.gens.size → s₂.gens[g]? = s₁.gens[g]?) : Ext B own α σ s α₁ σ₁ s₂ :=
  ⟨X.agree, X.len, X.fresh, fun b o h1 h2 h3 h4 => hk b o h3 (X.keep b o h1 h2 h3 h4), fun b o e hn => let ⟨o', e'⟩ := X.live b o e hn; ⟨o', hk b o' hn e'⟩, Nat.le_trans X.gens.1 hg.1, fun g h => (hg.2 g h).trans (X.gens.2 g h)⟩
theorem EnvOk.step (I : SInv B α σ s) (E : EnvOk B Γ ρ α σ.length env s.heap) (hk : ∀ b o, ¬ own b → s.heap.get? b = some o → s'.heap.get? b = some o) (ho : ∀ b, own b → OffEnv Γ env b) : EnvOk B Γ ρ α σ.length env s'.heap :=
  E.extOwn I (s' := { s' with gens := s.gens }) (σ' := σ) (α' := α) (own := own) ⟨fun _ _ => rfl, Nat.le_refl _, fun _ a b => absurd b (Nat.not_lt.mpr a), fun b o h1 _ h3 _ => hk b o h3 h1, fun b o e hn => ⟨o, hk b o hn e⟩, Nat.le_refl _, fun _ _ => rfl⟩ ho
end
end MI.Internal
end

section
set_option Elab.async false
set_option linter.all false
set_option maxRecDepth 10000
namespace MI.Internal
open PySem PySem.W PySem.Calls

structure GFn (Kf : Frag) (ga : Addr) (fd : FuncData) : Prop where
  ns : nsIn Kf mainGlobals genName = some (some (.ref ga))
  keep : keepIn Kf (.ref ga) = true
  at_ : ∃ oc od osl, Kf.lookup ga = some ⟨oc, od, .func fd, osl⟩
  code : codeIn Kf fd.code fd.qualname = true
  body : ∃ pp rz, fd.body = .stmts (gBody pp rz)
  co : fd.scope.isCoroutine = false
  gen : fd.scope.isGenerator = true
  fn : fd.scope.kind = .function
  glob : fd.globals = mainGlobals
  clo : fd.closure = []
  nocell : ∀ x ∈ fd.scope.names, x.2 ≠ .cell
  kg : fd.scope.names.lookup ("grouping" : Str) = some .local
  kl : fd.scope.names.lookup ("last_interval" : Str) = some .local
  ki : fd.scope.names.lookup ("interval" : Str) = some .local
  kc : fd.scope.names.lookup ("CHAR_MAX" : Str) = some .globalImplicit
  bind : ∀ c : Value, bindArgs fd ⟨[c], []⟩ = pure [(("grouping" : Str), c)]
  mc : ∃ t, nsIn Kf mainGlobals "CHAR_MAX" = some (some (.int 127 t))
/-- a generator that has told j of its numbers -/
structure GenAt (B : Base) (mg : Str → Option Value) (A : Around) (N j : Nat) (ns : List Int) (a L Ia gO : Addr) (g : Nat) (s : Shared) : Prop where
  isg : s.heap.IsGen gO g
  go : ∃ gs, s.gens[g]? = some gs ∧ gs.Goes (model B.p B.w) A.in1 (gR L Ia ns N) (gY mg L Ia a ns N) (N + 1 - j) (.send .none) (s.setGen g .running)

section
variable {B : Base} {mg mb : Str → Option Value} {Kf : Frag} {A : Around} {α : Nat → Addr} {σ : Sto} {s : Shared} {ga : Addr} {fd : FuncData}
theorem ints_get : ∀ {l : List V} {ns : List Int}, intsV l = some ns → l = ns.map .int
  | [], ns, h => by cases (show some [] = some ns from h); rfl
  | v :: l, ns, h => by
    cases v with
    | int i =>
      have h : (intsV l).map (i :: ·) = some ns := h
      obtain ⟨ms, h1, rfl⟩ := Option.map_eq_some_iff.mp h
      rw [ints_get h1]; rfl
    | _ => cases h
theorem intsAt_of (I : SInv B α σ s) {r : Nat} {l : List V} {ns : List Int} (hr : σ[r]? = some (.list l)) (hns : intsV l = some ns) : IntsAt ns (α r) s.heap := by
  obtain ⟨cs, n, _, h1, ho⟩ := listAt I hr (c := .ref (α r)) ⟨I.get hr, rfl⟩
  refine ⟨cs, ho.isList, ?_, fun i x hx => ?_⟩
  · rw [h1.length, ints_get hns, List.length_map]
  · have : l[i]? = some (.int x) := by rw [ints_get hns, List.getElem?_map, hx]; rfl
    obtain ⟨c, e1, e2⟩ := h1.get this
    obtain ⟨t, rfl⟩ := e2
    exact ⟨t, e1⟩

theorem gen_make (F : GFn Kf ga fd) (G : Gr B mg mb Kf) {n : Nat} (hA : AOk A n) (I : SInv B α σ s) {r : Nat} {l : List V} {ns : List Int} (hr : σ[r]? = some (.list l)) (hns : intsV l = some ns) (hz : ns.head? ≠ some 0) :
    W B A (call (.ref ga) [.ref (α r)]) s fun c s' => Ex2 fun L gO => A13 (c = .ref gO) (s.heap.get? L = none) (s.heap.get? gO = none) (s.heap.get? s'.heap.objs.size = none) (L ≠ gO) (L ≠ s'.heap.objs.size) (gO ≠ s'.heap.objs.size) ((∀ b o, s.heap.get? b = some o → s'.heap.get? b = some o)) (s.gens.size < s'.gens.size) ((∀ g, g < s.gens.size → s'.gens[g]? = s.gens[g]?)) (PyProof.Rows.AllBare s'.gens) (s'.os = s.os) (∀ N A', A'.handled = none → GenAt B mg A' N 0 ns (α r) L s'.heap.objs.size gO s.gens.size s') := by
  obtain ⟨oc, od, osl, ha⟩ := F.at_
  obtain ⟨pp, rz, hb⟩ := F.body
  obtain ⟨tm, hmc⟩ := F.mc
  have KI := I.kin G
  refine wpAny_call (codeAny_call_generator hA.room (KI _ _ ha) rfl F.co F.gen hb (codeRec_of KI F.code) ?_)
  rw [F.bind]
  refine wpAny_pure (wpAny_newFunctionEnv F.nocell (fun x hx => ?_) (fun h' hn hs => ?_) F.fn)
  · rw [List.mem_singleton] at hx; subst hx; exact F.kg
  have none_ : ∀ k, s.heap.objs.size ≤ k → s.heap.get? k = none := fun k hk => by
    cases q : s.heap.get? k with
    | none => rfl
    | some o => exact absurd (Heap.lt_size q) (Nat.not_lt.mpr hk)
  have keep : ∀ b o, s.heap.get? b = some o → h'.get? b = some o := fun b o e => (hs.2 b (fun q => by rw [q, none_ _ (Nat.le_refl _)] at e; cases e)).trans (Heap.get?_push_of_some _ e)
  have sz : h'.objs.size = s.heap.objs.size + 1 := by rw [hs.1]; simp [Heap.push]
  have J := I.grow (tk := s.toks + [(("grouping" : Str), Value.ref (α r))].length) (d := s.drawn) keep
  have szp : ∀ o : Obj, (h'.push o).objs.size = s.heap.objs.size + 1 + 1 := fun o => by simp [Heap.push, sz]
  refine ⟨J.lim G, s.heap.objs.size, h'.objs.size, rfl, none_ _ (Nat.le_refl _), none_ _ (by rw [sz]; exact Nat.le_succ _), none_ _ ?_, ?_, ?_, ?_, fun b o e => Heap.get?_push_of_some _ (keep b o e), ?_, fun g hg => ?_, I.bare.push (g := .fresh _) rfl, rfl, fun N A' hA' => ⟨⟨_, _, _, Heap.get?_push_size _ rfl, rfl, rfl, rfl⟩, _, Array.getElem?_push_size, rfl, ?_⟩⟩
  · show s.heap.objs.size ≤ (h'.push _).objs.size
    rw [szp]; exact Nat.le_trans (Nat.le_succ _) (Nat.le_succ _)
  · rw [sz]; exact Nat.ne_of_lt (Nat.lt_succ_self _)
  · show s.heap.objs.size ≠ (h'.push _).objs.size
    rw [szp]; exact Nat.ne_of_lt (Nat.lt_of_lt_of_le (Nat.lt_succ_self _) (Nat.le_succ _))
  · show h'.objs.size ≠ (h'.push _).objs.size
    rw [szp, sz]; exact Nat.ne_of_lt (Nat.lt_succ_self _)
  · show s.gens.size < (s.gens.push _).size
    simp
  · show (s.gens.push _)[g]? = _
    rw [Array.getElem?_push, if_neg (Nat.ne_of_lt hg)]
  · have hgl : s.heap.get? mainGlobals ≠ none := by
      obtain ⟨o, _, _, ho, _⟩ := I.nsG G
      rw [ho]; exact fun e => by cases e
    have GE : GEnv mg (newEnv fd.scope s.heap.objs.size fd.globals fd.closure (fd.qualname ++ Str.ofString ".<locals>.") (some ga) fd.code none fd.builtins) := ⟨F.fn, F.glob, F.co, F.kg, F.kl, F.ki, F.kc, tm, mg_of G.kin G.ng hmc⟩
    refine gen_start (mg := mg) GE (by exact hA') rfl (fun e => hgl ?_) (fun e => ?_) (Ns_keep hn fun o e => Heap.get?_push_of_some _ e) ?_ ((intsAt_of I hr hns).keep fun o e => Heap.get?_push_of_some _ (keep _ _ e)) (Ns_keep (I.nsG G) fun o e => Heap.get?_push_of_some _ (keep _ _ e)) hz
    -- F.glob, F.co, F.kg, F.kl, F.ki, F.kc, tm, mg_of G.kin G.ng hmc⟩ (by exact hA') rfl (fun e => hgl ?_) (fun e => ?_) (Ns_keep hn fun o e => Heap.get?_push_of_some _ e) ?_ ((intsAt_of I hr hns).keep fun o e => Heap.get?_push_of_some _ (keep _ _ e)) (Ns_keep (I.nsG G) fun o e => Heap.get?_push_of_some _ (keep _ _ e)) hz
    · rw [← e]; exact none_ _ (Nat.le_refl _)
    · obtain ⟨o, ho, _⟩ := I.objs r _ hr
      have e' : α r = s.heap.objs.size := e
      rw [e', none_ _ (Nat.le_refl _)] at ho; cases ho
    · rfl

theorem gen_next {N j : Nat} {ns : List Int} {a L Ia gO : Addr} {g : Nat} (hA : A.handled = none) (room : A.depth < recursionLimit) (lim : s.heap.NoLimit) (X : GenAt B mg A N j ns a L Ia gO g s) (hj : j ≤ N) (hgL : gO ≠ L) (hgI : gO ≠ Ia) (hb : PyProof.Rows.AllBare s.gens) :
    W B A (pyNext (.ref gO)) s fun r s' => (∀ b o, b ≠ L → b ≠ Ia → s.heap.get? b = some o → s'.heap.get? b = some o) ∧ s'.gens.size = s.gens.size ∧ (∀ k, k ≠ g → s'.gens[k]? = s.gens[k]?) ∧ PyProof.Rows.AllBare s'.gens ∧ s'.os = s.os ∧ match r with
      | none => genSeq ns none j = none
      | some c => Ex2 fun x t => A5 (c = .int x t) (genSeq ns none j = some x) ((∃ o, s'.heap.get? L = some o)) ((∃ o, s'.heap.get? Ia = some o)) ((j < N → ∀ s'', s''.heap.get? L = s'.heap.get? L → s''.heap.get? Ia = s'.heap.get? Ia → IntsAt ns a s''.heap → s''.heap.Ns mainGlobals mg → s''.gens[g]? = s'.gens[g]? → s''.heap.IsGen gO g →
          GenAt B mg A N (j + 1) ns a L Ia gO g s'')) := by
  obtain ⟨isg, gs, hgs, hgo⟩ := X
  have glt : g < s.gens.size := (Array.getElem?_eq_some_iff.mp hgs).1
  have bareSet : ∀ {gens : Array GenState} {x : GenState}, PyProof.Rows.AllBare gens → x.bare = true → PyProof.Rows.AllBare (gens.setIfInBounds g x) := fun h hx y hy => by
    rcases Array.mem_or_eq_of_mem_setIfInBounds hy with q | q
    · exact h y q
    · exact q ▸ hx
  refine pyNext_genQ hA lim room isg hgs hgo (fun v s₁ gs' hbare hy => ?_) (fun s₁ hp h' hk => ?_)
  · obtain ⟨⟨x, t, hx, rfl⟩, ⟨eg, eo, eh⟩, hL, hI, hf⟩ := hy
    have eg' : s₁.gens = s.gens.setIfInBounds g .running := eg
    refine ⟨fun b o b1 b2 e => eh b o b1 b2 e, ?_, fun k hk => ?_, ?_, eo, x, t, rfl, ?_, hL, hI, fun hj' s'' e1 e2 e3 e4 e5 e6 => ?_⟩
    · simp [Shared.setGen, eg']
    · simp [Shared.setGen, eg', hk.symm]
    · show PyProof.Rows.AllBare (s₁.gens.setIfInBounds g gs')
      rw [eg']
      exact bareSet (bareSet hb rfl) hbare
    · rw [show N + 1 - j - 1 = N - j by lia, show N - (N - j) = j by lia] at hx
      exact hx
    · have hf' := hf (by lia) (s''.setGen g .running) e1 e2 e3 e4
      rw [show N + 1 - j = (N + 1 - (j + 1)) + 1 by lia] at hf'
      refine ⟨e6, gs', ?_, hf'⟩
      rw [e5]
      simp [Shared.setGen, eg', glt]
  · obtain ⟨⟨eg, eo, eh⟩, hs⟩ := hp
    have eg' : s₁.gens = s.gens.setIfInBounds g .running := eg
    refine ⟨fun b o b1 b2 e => hk b o (eh b o b1 b2 e), ?_, fun k hk => ?_, ?_, eo, ?_⟩
    · simp [Shared.setGen, eg']
    · simp [Shared.setGen, eg', hk.symm]
    · show PyProof.Rows.AllBare (s₁.gens.setIfInBounds g .finished)
      rw [eg']
      exact bareSet (bareSet hb rfl) rfl
    · rw [show N + 1 - (N + 1 - j) = j by lia] at hs
      exact hs
end
end MI.Internal
end

section
set_option Elab.async false
set_option linter.all false
set_option maxRecDepth 10000
namespace MI.Internal
open PySem PySem.W PySem.Calls

section
variable {B : Base} {Kf : Frag} {T : Tab} {Φ : Con} {n : Nat} {mg mb : Str → Option Value} {α α' : Nat → Addr} {σ σ' : Sto} {s s' : Shared} {A : Around} {Γ : Fm} {ρ : Lv} {env : Env} {ga : Addr} {fd : FuncData}
theorem inv_forG {i : Nat} {g : X} {b : S} {st : Stmt} (q : (chkS T Γ (.forG i g b)).s st = true) : Ex8 fun x xp y yp ge cp body pos => st = .For (.Name x xp) (.Call (.Name y yp) [ge] [] cp) body [] pos ∧ (placesB Γ [i] [x] && y == genName && glob Γ y && oneE ge && (chk T g Γ).e ge && (chkS T Γ b).l body) = true := by
  obtain ⟨tg, it, body, pos, rfl, q⟩ := sFor_ok q
  obtain ⟨x, xp, rfl, q⟩ := vName_ok q
  obtain ⟨y, yp, ges, cp, rfl, q⟩ := vCallN_ok q
  obtain ⟨ge, rfl, q⟩ := v1_ok q
  exact ⟨_, _, _, _, _, _, _, _, rfl, q⟩

noncomputable def genK (Φ : Con) (i : Nat) (b : S) (ρ : Lv) (K : FK) : VK := fun v σ => match v with
    | .obj r => ∃ l ns, σ[r]? = some (.list l) ∧ intsV l = some ns ∧ ns.head? ≠ some 0 ∧ ∃ n, genL (fun v ρ σ K => wS Φ b (ρ.set i (some v)) σ K) r ns l n 0 ρ σ K
    | _ => False
theorem genK_ok {i : Nat} {b : S} {K : FK} {v : V} (h : genK Φ i b ρ K v σ) : Ex4 fun r l ns N => A5 (v = .obj r) (σ[r]? = some (.list l)) (intsV l = some ns) (ns.head? ≠ some 0) (genL (fun v ρ σ K => wS Φ b (ρ.set i (some v)) σ K) r ns l N 0 ρ σ K) := by
  cases v with
  | obj r =>
    obtain ⟨l, ns, hr, hns, hz, N, hG⟩ := h
    exact ⟨r, l, ns, N, rfl, hr, hns, hz, hG⟩
  | _ => exact h.elim
noncomputable abbrev gOwn (Γ : Fm) (env : Env) (L gO Ia : Addr) : Addr → Prop := fun b => ownOf Γ env b ∨ b = L ∨ b = gO ∨ b = Ia
inductive GenI (B : Base) (Φ : Con) (mg : Str → Option Value) (A : Around) (Γ : Fm) (env : Env) (i : Nat) (b : S) (r : Nat) (ns : List Int) (l : List V) (N : Nat) (L Ia gO aR : Addr) (g : Nat) (α : Nat → Addr) (σ : Sto) (s : Shared) (K : FK) (k : Nat) (s' : Shared) : Prop
  | mk (α₁ : Nat → Addr) (σ₁ : Sto) (ρ₁ : Lv) (j : Nat) (i' : SInv B α₁ σ₁ s') (e : EnvOk B Γ ρ₁ α₁ σ₁.length env s'.heap) (x : Ext B (gOwn Γ env L gO Ia) α σ s α₁ σ₁ s') (ga : GenAt B mg A N j ns aR L Ia gO g s') (hj : j + k = N)
    (off : ∀ r, r < σ₁.length → α₁ r ≠ L ∧ α₁ r ≠ gO ∧ α₁ r ≠ Ia) (ag : α₁ r = aR) (h : genL (fun v ρ σ K => wS Φ b (ρ.set i (some v)) σ K) r ns l k j ρ₁ σ₁ K)
structure GenF (B : Base) (Γ : Fm) (env : Env) (L Ia gO : Addr) (g : Nat) (s : Shared) : Prop where
  n1 : L ≠ gO
  n2 : L ≠ Ia
  n3 : gO ≠ Ia
  oL : OffEnv Γ env L
  oG : OffEnv Γ env gO
  oI : OffEnv Γ env Ia
  tL : B.h₀.get? L = none
  tI : B.h₀.get? Ia = none
  tG : B.h₀.get? gO = none
  fL : s.heap.get? L = none
  fG : s.heap.get? gO = none
  fI : s.heap.get? Ia = none
  gs : s.gens.size ≤ g
theorem gen_done {K : FK} {L Ia gO : Addr} {g : Nat} (F : GenF B Γ env L Ia gO g s) {fl : Fl} {f : Flow} {ρ' : Lv} (h1 : FlR α' σ'.length fl f) (h2 : K fl ρ' σ') (h3 : SInv B α' σ' s') (h4 : EnvOk B Γ ρ' α' σ'.length env s'.heap) (h5 : Ext B (gOwn Γ env L gO Ia) α σ s α' σ' s') : OutF B Γ env α σ s K f s' :=
  ⟨_, _, _, _, h1, h2, h3, h4, h5.forget fun b q => q.elim .inl fun q => .inr (q.elim (fun q => q ▸ F.fL) fun q => q.elim (fun q => q ▸ F.fG) fun q => q ▸ F.fI)⟩
theorem isGen_keep {h h' : Heap} {a : Addr} {g : Nat} (x : h.IsGen a g) (k : ∀ o, h.get? a = some o → h'.get? a = some o) : h'.IsGen a g := by
  obtain ⟨o, nm, qn, ho, rr⟩ := x
  exact ⟨o, nm, qn, k o ho, rr⟩
theorem gen_again {b : S} {i r N k j : Nat} {ns : List Int} {l : List V} {L Ia gO : Addr} {g : Nat} {K : FK} {aR : Addr} {α₁ α₅ : Nat → Addr} {σ₁ σ₅ : Sto} {ρ₅ : Lv} {s₃ s₅ : Shared} (G : Gd B Kf T Φ n mg mb) (F : GenF B Γ env L Ia gO g s) (I₃ : SInv B α₁ σ₁ s₃) (lr : r < σ₁.length)
    (off₁ : ∀ r, r < σ₁.length → α₁ r ≠ L ∧ α₁ r ≠ gO ∧ α₁ r ≠ Ia) (hα : α₁ r = aR) (gen3 : s₃.heap.IsGen gO g) (glt : g < s₃.gens.size) (hns : intsV l = some ns) (hL3 : ∃ o, s₃.heap.get? L = some o) (hI3 : ∃ o, s₃.heap.get? Ia = some o)
    (hfut : j < N → ∀ s'', s''.heap.get? L = s₃.heap.get? L → s''.heap.get? Ia = s₃.heap.get? Ia → IntsAt ns aR s''.heap → s''.heap.Ns mainGlobals mg → s''.gens[g]? = s₃.gens[g]? → s''.heap.IsGen gO g → GenAt B mg A N (j + 1) ns aR L Ia gO g s'')
    (X₅ : Ext B (ownOf Γ env) α₁ σ₁ s₃ α₅ σ₅ s₅) (Z : Ext B (gOwn Γ env L gO Ia) α σ s α₅ σ₅ s₅) (c' : SInv B α₅ σ₅ s₅) (d' : EnvOk B Γ ρ₅ α₅ σ₅.length env s₅.heap) (hj : j + (k + 1) = N) (hgl : genL (fun v ρ σ K => wS Φ b (ρ.set i (some v)) σ K) r ns l k (j + 1) ρ₅ σ₅ K) :
    ∃ m, m < k + 1 ∧ GenI B Φ mg A Γ env i b r ns l N L Ia gO aR g α σ s K m s₅ := by
  have kp : ∀ {b o}, OffEnv Γ env b → (∀ r, r < σ₁.length → α₁ r ≠ b) → B.h₀.get? b = none → s₃.heap.get? b = some o → s₅.heap.get? b = some o := fun hb ho ht e => X₅.keep _ _ e ho hb.own (I₃.ntb ht)
  have oP : ∀ {b o}, OffEnv Γ env b → (∀ r, r < σ₁.length → α₁ r ≠ b) → s₃.heap.get? b = some o → ∀ r, r < σ₅.length → α₅ r ≠ b := fun hb ho e => X₅.off I₃ e ho hb.own
  obtain ⟨oL', hL3⟩ := hL3
  obtain ⟨oI', hI3⟩ := hI3
  obtain ⟨oG', hG3⟩ : ∃ o, s₃.heap.get? gO = some o := let ⟨o, _, _, ho, _⟩ := gen3; ⟨o, ho⟩
  have ag : α₅ r = aR := (X₅.agree r lr).trans hα
  refine ⟨k, Nat.lt_succ_self k, α₅, σ₅, ρ₅, j + 1, c', d', Z, ?_, by lia, fun r h => ⟨oP F.oL (fun r h => (off₁ r h).1) hL3 r h, oP F.oG (fun r h => (off₁ r h).2.1) hG3 r h, oP F.oI (fun r h => (off₁ r h).2.2) hI3 r h⟩, ag, hgl⟩
  cases k with
  | zero => exact hgl.elim
  | succ k =>
    exact hfut (by lia) s₅ ((kp F.oL (fun r h => (off₁ r h).1) F.tL hL3).trans hL3.symm) ((kp F.oI (fun r h => (off₁ r h).2.2) F.tI hI3).trans hI3.symm) (by rw [← ag]; exact intsAt_of c' hgl.1 hns) (c'.nsG G.gr) (X₅.gens.2 _ glt)
      (isGen_keep gen3 fun o ho => kp F.oG (fun r h => (off₁ r h).2.1) F.tG ho)
theorem gen_turn {b : S} {i r N k : Nat} {ns : List Int} {l : List V} {L Ia gO : Addr} {g : Nat} {K : FK} {aR : Addr} {s₁ : Shared} {x : Str} {xp : Pos} {body : List Stmt} (G : Gd B Kf T Φ n mg mb) (hb : SndS B T Φ n b) (hA : AOk A n) (F : GenF B Γ env L Ia gO g s) (q5 : (chkS T Γ b).l body = true) (q1 : Places Γ [i] [x])
    (hns : intsV l = some ns) (hI : GenI B Φ mg A Γ env i b r ns l N L Ia gO aR g α σ s K k s₁) : W B A (pyNext (.ref gO)) s₁ (NextF B A (.Name x xp) (.ref gO) body env (GenI B Φ mg A Γ env i b r ns l N L Ia gO aR g α σ s K) (OutF B Γ env α σ s K) k) := by
  obtain ⟨α₁, σ₁, ρ₁, j, I₁, E₁, X₁, GA, hjk, off₁, hα, h₁⟩ := hI
  cases k with
  | zero => exact h₁.elim
  | succ k =>
    obtain ⟨hl₁, h₁⟩ := h₁
    have glt : g < s₁.gens.size := let ⟨_, h, _⟩ := GA.go; (Array.getElem?_eq_some_iff.mp h).1
    refine wpAny_mono (gen_next hA.h hA.room (I₁.lim G.gr) GA (by lia) F.n1.symm F.n3 I₁.bare) (fun rr s₃ o_ => ?_) fun _ _ f => f
    obtain ⟨hkp, gs1, gs2, bare3, os3, hrr⟩ := o_
    have I₃ : SInv B α₁ σ₁ s₃ := I₁.step (own := fun b => b = L ∨ b = Ia) (fun b o hb e => hkp b o (fun q => hb (.inl q)) (fun q => hb (.inr q)) e) (fun b q => q.elim (fun q => q ▸ F.tL) fun q => q ▸ F.tI)
      (fun b q r hr => q.elim (fun q => q ▸ (off₁ r hr).1) fun q => q ▸ (off₁ r hr).2.2) bare3 os3
    have E₃ : EnvOk B Γ ρ₁ α₁ σ₁.length env s₃.heap := E₁.step (own := fun b => b = L ∨ b = Ia) I₁ (fun b o hb e => hkp b o (fun q => hb (.inl q)) (fun q => hb (.inr q)) e) (fun b q => q.elim (fun q => q ▸ F.oL) fun q => q ▸ F.oI)
    have X₃ : Ext B (gOwn Γ env L gO Ia) α σ s α₁ σ₁ s₃ := X₁.step (fun b o hb e => hkp b o (fun q => hb (.inr (.inl q))) (fun q => hb (.inr (.inr (.inr q)))) e) ⟨by rw [gs1]; exact Nat.le_refl _, fun h hg => gs2 h (Nat.ne_of_lt (Nat.lt_of_lt_of_le hg F.gs))⟩
    cases rr with
    | none =>
      rw [show genSeq ns none j = none from hrr] at h₁
      exact gen_done F (fl := .next) rfl h₁ I₃ E₃ X₃
    | some c =>
      obtain ⟨xv, t, rfl, hx, hL3, hI3, hfut⟩ := hrr
      rw [hx] at h₁
      refine wpAny_pure (wpAny_assign_Name (store_ok G.gr I₃ E₃ q1.1 q1.2.1 q1.2.2.1 q1.2.2.2.1 (v := .int xv) ⟨t, rfl⟩ fun s₄ I₄ E₄ X₄ => ?_))
      refine wpAny_mono (hb.l q5 hA I₄ E₄ h₁) (fun f s₅ o_ => ?_) fun _ _ f => f
      obtain ⟨fl, ρ₅, σ₅, α₅, a', b', c', d', e'⟩ := o_
      have X₅ := X₄.trans e'
      have Z : Ext B (gOwn Γ env L gO Ia) α σ s α₅ σ₅ s₅ := X₃.trans (X₅.weaken fun b q => .inl q)
      have again := fun h => gen_again (i := i) (b := b) (K := K) G F I₃ (I₁.get hl₁) off₁ hα (isGen_keep GA.isg fun o ho => hkp _ _ F.n1.symm F.n3 ho) (by rw [gs1]; exact glt) hns hL3 hI3 hfut X₅ Z c' d' hjk h
      cases fl with
      | next => cases a'; exact again b'
      | cont => cases a'; exact again b'
      | brk => cases a'; exact gen_done F (fl := .next) rfl b' c' d' Z
      | ret v =>
        obtain ⟨cv, rfl, hc⟩ := a'
        exact gen_done F (fl := .ret v) ⟨cv, rfl, hc⟩ b' c' d' Z
theorem snds_forG {i : Nat} {gx : X} {b : S} (G : Gd B Kf T Φ n mg mb) (F : GFn Kf ga fd) (hb : SndS B T Φ n b) : SndS B T Φ n (.forG i gx b) := .of (fun _ => rfl) fun {Γ ρ env A α σ s st K} q hA I E hk => by
  obtain ⟨x, xp, y, yp, ge, cp, body, pos, e, qq⟩ := inv_forG q
  subst e
  obtain ⟨q1, q0, q2, q3, q4, q5⟩ := band6 qq
  obtain rfl := seq q0
  have qc : (chk T (.cons gx .nil) Γ).l [ge] = true := by
    exact Bool.and_eq_true_iff.mpr ⟨Bool.and_eq_true_iff.mpr ⟨q4, q3⟩, rfl⟩
  have hk' : (mean Φ (.cons gx .nil)).v ρ σ (one (genK Φ i b ρ K)) := hk
  refine wpAny_For (callN_ok (gname G q2 I E F.ns (callK_ok q3 F.keep (outL ((snd G (.cons gx .nil)).l qc hA I E hk') fun vs cs σ' α' s' hv hc I' X => ⟨I'.kin G.gr, ?_⟩)))) (fun _ => rfl)
  obtain ⟨v, rfl, hv⟩ := one_ok hv
  obtain ⟨c, rfl, hcv⟩ := hc.one
  obtain ⟨r, l, ns, N, rfl, hr, hns, hz, hG⟩ := genK_ok hv
  obtain ⟨_, rfl⟩ := hcv
  refine wpAny_mono (gen_make F G.gr hA I' hr hns hz) (fun c s₂ o_ => ?_) fun _ _ f => f
  obtain ⟨L, gO, hc2, hL0, hG0, hI0, n1, n2, n3, keep, gsz, gsame, bare, hos, mk⟩ := o_
  subst hc2
  refine wpAny_pyIter_gen (mk 0 A hA.h).isg ?_
  have E' := E.ext I X
  have back : ∀ {b : Addr}, s'.heap.get? b = none → s.heap.get? b = none := fun {b} e => by
    cases p : s.heap.get? b with
    | none => rfl
    | some o => obtain ⟨o', e'⟩ := X.live b o p id; rw [e] at e'; cases e'
  have FF : GenF B Γ env L s₂.heap.objs.size gO s'.gens.size s := ⟨n1, n2, n3, fresh_off E' hL0, fresh_off E' hG0, fresh_off E' hI0, I'.offTop hL0, I'.offTop hI0, I'.offTop hG0, back hL0, back hG0, back hI0, X.gens.1⟩
  have I₂ : SInv B α' σ' s₂ := I'.step (own := noOwn) (fun b o _ e => keep b o e) (fun _ q => q.elim) (fun _ q => q.elim) bare hos
  have E₂ : EnvOk B Γ ρ α' σ'.length env s₂.heap := E'.step (own := noOwn) I' (fun b o _ e => keep b o e) fun _ q => q.elim
  have X₂ : Ext B (gOwn Γ env L gO s₂.heap.objs.size) α σ s α' σ' s₂ := (X.lift (own := gOwn Γ env L gO s₂.heap.objs.size)).step (fun b o _ e => keep b o e) ⟨Nat.le_of_lt gsz, fun g hg => gsame g (Nat.lt_of_lt_of_le hg X.gens.1)⟩
  exact for_run (GenI B Φ mg A Γ env i b r ns l N L s₂.heap.objs.size gO (α' r) s'.gens.size α σ s K) (fun _ _ h => h) (fun k s₁ hI => gen_turn G hb hA FF q5 (places_of q1) hns hI) N
    ⟨α', σ', ρ, 0, I₂, E₂, X₂, mk N A hA.h, Nat.zero_add N, fun r h => ⟨I'.off hL0 r h, I'.off hG0 r h, I'.off hI0 r h⟩, rfl, hG⟩
end
end MI.Internal
end

section
set_option Elab.async false
set_option linter.all false
set_option maxRecDepth 10000
namespace MI.Internal
open PySem PySem.W PySem.Calls

/-- the method that an iterator calls, one call deeper -/
noncomputable def RcOk (B : Base) (Φ : Con) (m : Nat) : Prop := ∀ {A : Around} {α : Nat → Addr} {σ : Sto} {s : Shared} {v : V} {c : Value} {K : VK}, AOk A m → SInv B α σ s → VR α σ.length v c → Φ.me 0 v [] σ K →
  codeAny (model B.p B.w) A (.call (.ref B.rc) ⟨[c], []⟩) (OutC B α σ s K) s
section
variable {B : Base} {Kf : Frag} {T : Tab} {Φ : Con} {n m : Nat} {mg mb : Str → Option Value} {α α' : Nat → Addr} {σ σ' : Sto} {s s' : Shared} {A : Around} {Γ : Fm} {ρ : Lv} {env : Env}
theorem inv_forC {i : Nat} {c : X} {b : S} {st : Stmt} (q : (chkS T Γ (.forC i c b)).s st = true) : Ex5 fun x xp it body pos => st = .For (.Name x xp) it body [] pos ∧ (placesB Γ [i] [x] && noSet it && (chk T c Γ).e it && (chkS T Γ b).l body) = true := by
  obtain ⟨tg, it, body, pos, rfl, q⟩ := sFor_ok q
  obtain ⟨x, xp, rfl, q⟩ := vName_ok q
  exact ⟨_, _, _, _, _, rfl, q⟩
noncomputable def citK (Φ : Con) (i : Nat) (b : S) (ρ : Lv) (K : FK) : VK := fun v σ => match v with
    | .obj q => ∃ n, citS (Φ.me 0) (fun v ρ σ K => wS Φ b (ρ.set i (some v)) σ K) n q ρ σ K
    | _ => False
theorem citK_ok {i : Nat} {b : S} {K : FK} {v : V} (h : citK Φ i b ρ K v σ) : Ex2 fun q n => v = .obj q ∧ citS (Φ.me 0) (fun v ρ σ K => wS Φ b (ρ.set i (some v)) σ K) n q ρ σ K := by
  cases v with
  | obj q =>
    obtain ⟨n, h⟩ := h
    exact ⟨q, n, rfl, h⟩
  | _ => exact h.elim
theorem cit_at {q : Nat} {c : Option Nat} (I : SInv B α σ s) (h : σ[q]? = some (.citer c)) : ∃ t, s.heap.get? (α q) = some (citObj (c.map α) t) ∧ ∀ m, c = some m → m < σ.length := by
  obtain ⟨o, ho, hx⟩ := I.objs q _ h
  cases c with
  | none => obtain ⟨t, rfl⟩ := hx; exact ⟨t, ho, fun _ e => by cases e⟩
  | some m => obtain ⟨lm, t, rfl⟩ := hx; exact ⟨t, ho, fun _ e => by cases e; exact lm⟩
theorem meth_at {q d : Nat} (I : SInv B α σ s) (h : σ[q]? = some (.meth d)) : s.heap.get? (α q) = some (methodObj (.ref B.rc) (.ref (α d))) ∧ d < σ.length := by
  obtain ⟨o, ho, ld, rfl⟩ := I.objs q _ h
  exact ⟨ho, ld⟩
inductive CitI (B : Base) (Φ : Con) (Γ : Fm) (env : Env) (i : Nat) (b : S) (qq : Nat) (aq : Addr) (α : Nat → Addr) (σ : Sto) (s : Shared) (K : FK) (k : Nat) (s' : Shared) : Prop
  | mk (α₁ : Nat → Addr) (σ₁ : Sto) (ρ₁ : Lv) (i' : SInv B α₁ σ₁ s') (e : EnvOk B Γ ρ₁ α₁ σ₁.length env s'.heap) (x : Ext B (ownOf Γ env) α σ s α₁ σ₁ s') (ag : α₁ qq = aq) (h : citS (Φ.me 0) (fun v ρ σ K => wS Φ b (ρ.set i (some v)) σ K) k qq ρ₁ σ₁ K)
theorem outC_ok {K : VK} {r : Result} (h : OutC B α σ s K r s') : ∃ c, r = .ok (.ret c) ∧ Out B noOwn α σ s (one K) [c] s' := by
  cases r with
  | error _ => exact h.elim
  | ok f => cases f <;> first | exact ⟨_, rfl, h⟩ | exact h.elim
theorem cit_call {b : S} {i qq d mm k : Nat} {K : FK} {aq : Addr} {x : Str} {xp : Pos} {body : List Stmt} {α₁ α₂ : Nat → Addr} {σ₁ σ₂ : Sto} {ρ₁ : Lv} {s₁ s₂ : Shared} {l : List Nat} {u : Tok} {oR : Obj} (G : Gd B Kf T Φ n mg mb) (hR1 : Kf.lookup B.rc = some oR) (hb : SndS B T Φ n b) (hA : AOk A n) (q4 : (chkS T Γ b).l body = true) (q1 : Places Γ [i] [x])
    (I₁ : SInv B α₁ σ₁ s₁) (E₁ : EnvOk B Γ ρ₁ α₁ σ₁.length env s₁.heap) (X₁ : Ext B (ownOf Γ env) α σ s α₁ σ₁ s₁) (hα : α₁ qq = aq) (e : σ₁[qq]? = some (.citer (some mm))) (lm : mm < σ₁.length) (ld : d < σ₁.length) (I₂ : SInv B α₂ σ₂ s₂) (X₂ : Ext B noOwn α₁ σ₁ s₁ α₂ σ₂ s₂)
    (hK : citZ (fun v ρ σ K => wS Φ b (ρ.set i (some v)) σ K) (fun ρ' σ' => citS (Φ.me 0) (fun v ρ σ K => wS Φ b (ρ.set i (some v)) σ K) k qq ρ' σ' K) qq mm d ρ₁ K (.str l) σ₂) :
    (∃ t, s₂.heap.get? aq = some (citObj (some (α₁ mm)) t)) ∧ s₂.heap.get? (α₁ mm) = some (methodObj (.ref B.rc) (.ref (α₁ d))) ∧ s₂.heap.get? B.rc = some oR ∧ ((⟨l.toArray⟩ : Str) ≠ ⟨#[]⟩ → NextF B A (.Name x xp) (.ref aq) body env (CitI B Φ Γ env i b qq aq α σ s K) (OutF B Γ env α σ s K) (k + 1) (some (.str ⟨l.toArray⟩ u)) s₂) ∧
      ((⟨l.toArray⟩ : Str) = ⟨#[]⟩ → ∀ h', (∀ b o, b ≠ aq → s₂.heap.get? b = some o → h'.get? b = some o) → h'.get? aq = some (citObj none 0) → OutF B Γ env α σ s K .next { s₂ with heap := h' }) := by
  obtain ⟨g1, g2, g3, g4⟩ := hK
  have a1 : α₂ qq = aq := (X₂.agree qq (I₁.get e)).trans hα
  have a2 : α₂ mm = α₁ mm := X₂.agree mm lm
  have a3 : α₂ d = α₁ d := X₂.agree d ld
  have E₂ := E₁.ext I₁ X₂
  refine ⟨?_, ?_, (I₂.kin G.gr) _ _ hR1, fun hx => ?_, fun hx h' hs he => ?_⟩
  · obtain ⟨t2, hc2, _⟩ := cit_at I₂ g1
    rw [a1] at hc2
    exact ⟨t2, by rw [← a2]; exact hc2⟩
  · rw [← a2, ← a3]; exact (meth_at I₂ g2).1
  · have hl : l ≠ [] := fun z => hx (by rw [z])
    refine wpAny_pure (wpAny_assign_Name (store_ok G.gr I₂ E₂ q1.1 q1.2.1 q1.2.2.1 q1.2.2.2.1 (v := .str l) ⟨u, rfl⟩ fun s₄ I₄ E₄ X₄ => ?_))
    refine wpAny_mono (hb.l q4 hA I₄ E₄ (g4 hl)) (fun f s₅ o_ => ?_) fun _ _ f => f
    obtain ⟨fl, ρ₅, σ₅, α₅, a', b', c', d', e'⟩ := o_
    have Z : Ext B (ownOf Γ env) α σ s α₅ σ₅ s₅ := X₁.trans (X₂.lift.trans (X₄.trans e'))
    have aq' : α₅ qq = aq := ((X₄.trans e').agree qq (I₂.get g1)).trans a1
    cases fl with
    | next => cases a'; exact ⟨k, Nat.lt_succ_self k, α₅, σ₅, ρ₅, c', d', Z, aq', b'⟩
    | cont => cases a'; exact ⟨k, Nat.lt_succ_self k, α₅, σ₅, ρ₅, c', d', Z, aq', b'⟩
    | brk => cases a'; exact ⟨.next, ρ₅, σ₅, α₅, rfl, b', c', d', Z⟩
    | ret v =>
      obtain ⟨cv, rfl, hc⟩ := a'
      exact ⟨.ret v, ρ₅, σ₅, α₅, ⟨cv, rfl, hc⟩, b', c', d', Z⟩
  · have hl : l = [] := by
      have : l.toArray = #[] := congrArg Str.cps hx
      simpa using this
    have hs' : ∀ b, b ≠ α₂ qq → ∀ o, s₂.heap.get? b = some o → h'.get? b = some o := fun b hb o e => hs b o (by rw [← a1]; exact hb) e
    have he' : h'.get? (α₂ qq) = some (citObj none 0) := by rw [a1]; exact he
    have J := I₂.turn (tk := s₂.toks) g1 (fun e => by cases e) hs' he' (x := .citer none) ⟨0, rfl⟩
    have Y : Ext B noOwn α₂ σ₂ s₂ α₂ (σ₂.set qq (.citer none)) { s₂ with heap := h', toks := s₂.toks } := .turn (I₂.get g1) hs' he'
    exact ⟨.next, ρ₁, _, α₂, rfl, g3 hl, J, E₂.ext I₂ Y, X₁.trans (X₂.lift.trans Y.lift)⟩
theorem cit_turn {b : S} {i qq k : Nat} {K : FK} {aq : Addr} {x : Str} {xp : Pos} {body : List Stmt} {s₁ : Shared} {oR : Obj} {fdR : FuncData} (G : Gd B Kf T Φ n mg mb) (hR1 : Kf.lookup B.rc = some oR) (hR2 : oR.data = .func fdR) (hm : m + 1 ≤ n) (R : RcOk B Φ m) (hb : SndS B T Φ n b) (hA : AOk A n) (q4 : (chkS T Γ b).l body = true) (q1 : Places Γ [i] [x])
    (hI : CitI B Φ Γ env i b qq aq α σ s K k s₁) : W B A (pyNext (.ref aq)) s₁ (NextF B A (.Name x xp) (.ref aq) body env (CitI B Φ Γ env i b qq aq α σ s K) (OutF B Γ env α σ s K) k) := by
  obtain ⟨α₁, σ₁, ρ₁, I₁, E₁, X₁, hα, h₁⟩ := hI
  cases k with
  | zero => exact h₁.elim
  | succ k =>
    rcases cit_cases h₁ with ⟨e, h₁⟩ | ⟨mm, e, h₁⟩
    · obtain ⟨t, hc, _⟩ := cit_at I₁ e
      rw [hα] at hc
      exact cit_next_end hA.h hc fun h' hk => ⟨.next, ρ₁, σ₁, α₁, rfl, h₁, I₁.grow (tk := s₁.toks) (d := s₁.drawn) hk, E₁.ext I₁ (.grow (tk := s₁.toks) (d := s₁.drawn) hk), X₁.trans (Ext.grow (own := ownOf Γ env) (tk := s₁.toks) (d := s₁.drawn) hk)⟩
    · obtain ⟨d, e2, h₁⟩ := citM_ok h₁
      obtain ⟨t, hc, hlt⟩ := cit_at I₁ e
      obtain ⟨hme, ld⟩ := meth_at I₁ e2
      rw [hα] at hc
      refine cit_next hA.h hc hme ((I₁.kin G.gr) _ _ hR1) hR2 (codeAny_mono (R (hA.less hm).in1 I₁ (v := .obj d) ⟨ld, rfl⟩ h₁) fun r s₂ hr => ?_)
      obtain ⟨c, rfl, vs, σ₂, α₂, hK, hcv, I₂, X₂⟩ := outC_ok hr
      obtain ⟨v, rfl, hK⟩ := one_ok hK
      obtain ⟨l, rfl, _⟩ := tStr_ok hK
      obtain ⟨u, rfl⟩ := hcv.1
      exact cit_call G hR1 hb hA q4 q1 I₁ E₁ X₁ hα e (hlt mm rfl) ld I₂ X₂ hK
theorem snds_forC {i : Nat} {cx : X} {b : S} (G : Gd B Kf T Φ n mg mb) (hrc : ∃ o fd, Kf.lookup B.rc = some o ∧ o.data = .func fd) (hm : m + 1 ≤ n) (R : RcOk B Φ m) (hb : SndS B T Φ n b) : SndS B T Φ n (.forC i cx b) := .of (fun _ => rfl) fun {Γ ρ env A α σ s st K} q hA I E hk => by
  obtain ⟨x, xp, it, body, pos, e, qq⟩ := inv_forC q
  subst e
  obtain ⟨q1, q2, q3, q4⟩ := band4 qq
  obtain ⟨oR, fdR, hR1, hR2⟩ := hrc
  have hk' : (mean Φ cx).v ρ σ (one (citK Φ i b ρ K)) := hk
  refine wpAny_For (out1 ((snd G cx).v q3 hA I E hk') fun v c σ' α' s' hv hc I' X => ?_) (noSet_fold q2 env)
  obtain ⟨qq, N, rfl, hN⟩ := citK_ok hv
  obtain ⟨lq, rfl⟩ := hc
  have itr : ∃ c t, s'.heap.get? (α' qq) = some (citObj c t) := by
    cases N with
    | zero => exact hN.elim
    | succ N =>
      rcases cit_cases hN with ⟨e, _⟩ | ⟨_, e, _⟩
      · obtain ⟨t, h, _⟩ := cit_at I' e; exact ⟨_, t, h⟩
      · obtain ⟨t, h, _⟩ := cit_at I' e; exact ⟨_, t, h⟩
  obtain ⟨c0, t0, hit⟩ := itr
  exact cit_iter hit (for_run (CitI B Φ Γ env i b qq (α' qq) α σ s K) (fun _ _ h => h) (fun k s₁ hI => cit_turn G hR1 hR2 hm R hb hA q4 (places_of q1) hI) N ⟨α', σ', ρ, I', E.ext I X, X.lift, rfl, hN⟩)
end
end MI.Internal
end

section
set_option Elab.async false
set_option linter.all false
set_option maxRecDepth 10000
namespace MI.Internal
open PySem PySem.W PySem.Calls

section
variable {B : Base} {Kf : Frag} {T : Tab} {Φ : Con} {n m : Nat} {mg mb : Str → Option Value} {ga : Addr} {fd : FuncData}
/-- statements run as they mean -/
theorem snds (G : Gd B Kf T Φ n mg mb) (F : GFn Kf ga fd) (hrc : ∃ o fd, Kf.lookup B.rc = some o ∧ o.data = .func fd) (hm : m + 1 ≤ n) (R : RcOk B Φ m) : ∀ x : S, SndS B T Φ n x
  | .nil => snds_nil
  | .cons a b => snds_cons (snds G F hrc hm R a) (snds G F hrc hm R b)
  | .asg _ _ => snds_asg G
  | .asgT _ _ => snds_asgT G
  | .asgA _ _ _ => snds_asgA G
  | .aug _ _ _ => snds_aug G
  | .augI _ _ _ _ => snds_augI G
  | .augA _ _ _ _ => snds_augA G
  | .expr _ => snds_expr G
  | .ret _ => snds_ret G
  | .retN => snds_retN
  | .ife _ a b => snds_ife G (snds G F hrc hm R a) (snds G F hrc hm R b)
  | .for_ _ _ b => snds_for G (snds G F hrc hm R b)
  | .forG _ _ b => snds_forG G F (snds G F hrc hm R b)
  | .forC _ _ b => snds_forC G hrc hm R (snds G F hrc hm R b)
  | .while_ _ b => snds_while G (snds G F hrc hm R b)
  | .brk => snds_brk
  | .cont => snds_cont
end

/-! ## the levels of calls -/
structure Dfn where
  ir : S
  np : Nat
  nn : Nat
structure Defs where
  fn : Nat → Option Dfn
  me : Nat → Option Dfn
  ini : Dfn
  hand : Nat → Con → List V → Sto → VK → Prop
noncomputable def startN (nn : Nat) (vs : List V) : Lv := vs.map some ++ List.replicate (nn - vs.length) none
noncomputable def runD (Φ : Con) (d : Dfn) (vs : List V) (σ : Sto) (K : VK) : Prop := vs.length = d.np ∧ wS Φ d.ir (startN d.nn vs) σ (retK K)
/-- the inner def that reads a sign -/
noncomputable def rdS (q : Nat) (vs : List V) (σ : Sto) (K : VK) : Prop := match σ[q]? with
  | some (.fn c k) => (match σ[c]?, σ[k]? with
    | some (.cell (.obj r)), some .code => (match σ[r]? with
      | some (.list l) => vs = [.int 1] ∧ Fits l.length ∧ (match l with
        | [] => K (.str []) σ
        | v :: l' => K v (σ.set r (.list l')))
      | _ => False)
    | _, _ => False)
  | _ => False
noncomputable def conOf (D : Defs) : Nat → Con
  | 0 => ⟨fun _ _ _ _ => False, fun _ _ _ _ _ => False, fun _ _ _ => False, fun _ _ _ _ => False⟩
  | k + 1 => {
      fn := fun f vs σ K => match D.fn f with
        | some d => runD (conOf D k) d vs σ K
        | none => D.hand f (conOf D k) vs σ K
      me := fun m v vs σ K => match D.me m with
        | some d => runD (conOf D k) d (v :: vs) σ K
        | none => False
      nw := fun vs σ K => runD (conOf D k) D.ini (.obj (σ.length + 1) :: vs) (σ ++ [.dict [], .inst σ.length]) fun v σ' => v = .none ∧ K (.obj (σ.length + 1)) σ'
      rd := rdS }

structure FnOk (T : Tab) (Kf : Frag) (a : Addr) (d : Dfn) : Prop where
  ok : ∃ fd ps Γ body, DefOk Kf a fd ps Γ body ∧ (chkS T Γ d.ir).l body = true ∧ ps.length = d.np ∧ Γ.names.length = d.nn

/-- what is the same at each level -/
structure Fix (B : Base) (Kf : Frag) (T : Tab) (mg mb : Str → Option Value) : Prop where
  gr : Gr B mg mb Kf
  tab : TabOk B Kf T
  bb : ∀ x : Str, x ≠ "__name__" → mb x = bootBuiltins x
  gen : ∃ ga fd, GFn Kf ga fd
  rc : ∃ o fd, Kf.lookup B.rc = some o ∧ o.data = .func fd

noncomputable def ConAll (B : Base) (T : Tab) (D : Defs) (k : Nat) : Prop := ConOk B T (conOf D k) (3 * k) ∧ RcOk B (conOf D k) (3 * k)
section
variable {B : Base} {Kf : Frag} {T : Tab} {mg mb : Str → Option Value} {D : Defs} {k : Nat}
theorem ConOk.more {Φ : Con} {n m : Nat} (h : ConOk B T Φ n) (hn : n ≤ m) : ConOk B T Φ m :=
  ⟨fun x f a hm _ _ _ _ _ _ _ hA I hv hk => h.fn x f a hm (hA.less hn) I hv hk, fun x f a hm _ _ _ _ _ _ _ _ _ hA I hc hv hk => h.me x f a hm (hA.less hn) I hc hv hk, fun hA I hv hk => h.nw (hA.less hn) I hv hk, fun hA I hq hv hk => h.rd (hA.less hn) I hq hv hk⟩
theorem level_gd (X : Fix B Kf T mg mb) (C : ConAll B T D k) : Gd B Kf T (conOf D k) (3 * k + 1) mg mb := ⟨X.gr, X.tab, C.1.more (Nat.le_succ _), X.bb⟩
theorem level_snds (X : Fix B Kf T mg mb) (C : ConAll B T D k) (x : S) : SndS B T (conOf D k) (3 * k + 1) x := by
  obtain ⟨ga, fd, F⟩ := X.gen
  exact snds (level_gd X C) F X.rc (Nat.le_refl _) C.2 x
theorem level_code (X : Fix B Kf T mg mb) (C : ConAll B T D k) {a : Addr} {d : Dfn} (F : FnOk T Kf a d) {A : Around} {α : Nat → Addr} {σ : Sto} {s : Shared} {vs : List V} {cs : List Value} {K : VK} (hA : AOk A (3 * k + 2)) (I : SInv B α σ s) (hv : VRs α σ.length vs cs)
    (h : runD (conOf D k) d vs σ K) : codeAny (model B.p B.w) A (.call (.ref a) ⟨cs, []⟩) (OutC B α σ s K) s := by
  obtain ⟨fd, ps, Γ, body, h1, h2, h3, h4⟩ := F.ok
  refine call_code X.gr h1 (level_snds X C d.ir) h2 hA I hv (h.1.trans h3.symm) ?_
  have := h.2
  unfold startN at this
  rw [← h4] at this
  exact this

/-- what is shown of each def, once for all levels -/
structure AllOk (B : Base) (Kf : Frag) (T : Tab) (mg mb : Str → Option Value) (D : Defs) : Prop where
  fix : Fix B Kf T mg mb
  fn : ∀ x f a, (x, f, a) ∈ T.fn → ∀ d, D.fn f = some d → FnOk T Kf a d
  hand : ∀ x f a, (x, f, a) ∈ T.fn → D.fn f = none → ∀ (k : Nat), ConAll B T D k → ∀ {A : Around} {α : Nat → Addr} {σ : Sto} {s : Shared} {vs : List V} {cs : List Value} {K : VK}, AOk A (3 * (k + 1)) → SInv B α σ s → VRs α σ.length vs cs → D.hand f (conOf D k) vs σ K →
    W B A (call (.ref a) cs) s fun c s' => Out B noOwn α σ s (one K) [c] s'
  me : ∀ x f a, (x, f, a) ∈ T.me → ∀ d, D.me f = some d → FnOk T Kf a d
  rc : ∀ d, D.me 0 = some d → FnOk T Kf B.rc d
  nw : ∀ (k : Nat), ConAll B T D k → ∀ {A : Around} {α : Nat → Addr} {σ : Sto} {s : Shared} {vs : List V} {cs : List Value} {K : VK}, AOk A (3 * (k + 1)) → SInv B α σ s → VRs α σ.length vs cs →
    runD (conOf D k) D.ini (.obj (σ.length + 1) :: vs) (σ ++ [.dict [], .inst σ.length]) (fun v σ' => v = .none ∧ K (.obj (σ.length + 1)) σ') → W B A (call (.ref B.cls) cs) s fun c s' => Out B noOwn α σ s (one K) [c] s'
  rd : ∀ {A : Around} {α : Nat → Addr} {σ : Sto} {s : Shared} {q : Nat} {vs : List V} {cs : List Value} {K : VK}, AOk A 2 → SInv B α σ s → q < σ.length → VRs α σ.length vs cs → rdS q vs σ K →
    (∃ o fd, s.heap.get? (α q) = some o ∧ o.data = .func fd) ∧ W B A (call (.ref (α q)) cs) s fun c s' => Out B noOwn α σ s (one K) [c] s'
theorem con_all (X : AllOk B Kf T mg mb D) : ∀ k, ConAll B T D k
  | 0 => ⟨⟨fun _ _ _ _ _ _ _ _ _ _ _ _ _ _ h => h.elim, fun _ _ _ _ _ _ _ _ _ _ _ _ _ _ _ _ _ h => h.elim, fun _ _ _ h => h.elim, fun _ _ _ _ h => h.elim⟩, fun _ _ _ h => h.elim⟩
  | k + 1 => by
    have C := con_all X k
    refine ⟨⟨fun x f a hm A α σ s vs cs K hA I hv h => ?_, fun x f a hm A α σ s v c vs cs K hA I hc hv h => ?_, fun {A α σ s vs cs K} hA I hv h => X.nw k C hA I hv h, fun {A α σ s q vs cs K} hA I hq hv h => X.rd (hA.less (by lia)) I hq hv h⟩, fun {A α σ s v c K} hA I hc h => ?_⟩
    · have h' : (match D.fn f with
        | some d => runD (conOf D k) d vs σ K
        | none => D.hand f (conOf D k) vs σ K) := h
      split at h'
      · rename_i d e
        exact call_of (level_code X.fix C (X.fn x f a hm d e) (hA.less (by lia)) I hv h')
      · rename_i e
        exact X.hand x f a hm e k C hA I hv h'
    · have h' : (match D.me f with
        | some d => runD (conOf D k) d (v :: vs) σ K
        | none => False) := h
      split at h'
      · rename_i d e
        exact call_of (level_code (vs := v :: vs) X.fix C (X.me x f a hm d e) (hA.less (by lia)) I ⟨hc, hv⟩ h')
      · exact h'.elim
    · have h' : (match D.me 0 with
        | some d => runD (conOf D k) d (v :: []) σ K
        | none => False) := h
      split at h'
      · rename_i d e
        exact level_code (vs := [v]) X.fix C (X.rc d e) (hA.less (by lia)) I ⟨hc, trivial⟩ h'
      · exact h'.elim
end
end MI.Internal
end

section
set_option Elab.async false
set_option linter.all false
set_option maxRecDepth 10000
namespace MI.Internal
open PySem PySem.W PySem.Calls

/-! ## by hand: the inner def that reads a sign -/
noncomputable def rdBody (pp : Nat → Pos) : List Stmt := [
  .If (.BoolOp .And [.Compare (.Name "size" (pp 0)) [.Eq] [.Constant (.int 1) 0 (pp 1)] (pp 2), .Name "signs" (pp 3)] (pp 4))
    [.Return (some (.Call (.Attribute (.Name "signs" (pp 5)) "pop" (pp 6)) [.Constant (.int 0) 0 (pp 7)] [] (pp 8))) (pp 9)] [] (pp 10),
  .Return (some (.Constant (.str "") 0 (pp 11))) (pp 12)]
structure RdFn (B : Base) : Prop where
  body : ∃ pp, (∀ c k, (B.fd c k).body = .stmts (rdBody pp)) ∧ (pp 6).endLine = (pp 8).line
  co : ∀ c k, (B.fd c k).scope.isCoroutine = false
  gen : ∀ c k, (B.fd c k).scope.isGenerator = false
  fn : ∀ c k, (B.fd c k).scope.kind = .function
  clo : ∀ c k, (B.fd c k).closure = [(("signs" : Str), c)]
  code : ∀ c k, (B.fd c k).code = k
  qn : ∀ c k, (B.fd c k).qualname = B.qn
  nocell : ∀ c k, ∀ x ∈ (B.fd c k).scope.names, x.2 ≠ .cell
  ks : ∀ c k, (B.fd c k).scope.names.lookup ("size" : Str) = some .local
  kf : ∀ c k, (B.fd c k).scope.names.lookup ("signs" : Str) = some .free
  bind : ∀ c k dc dd (v : Value), bindArgs { B.fd c k with closureTuple := dc, doc := dd } ⟨[v], []⟩ = pure [(("size" : Str), v)]

section
variable {B : Base} {Kf : Frag} {mg mb : Str → Option Value} {α : Nat → Addr} {σ : Sto} {s : Shared} {A : Around}
theorem rd_code {q : Nat} {cs : List Value} {vs : List V} {K : VK} (G : Gr B mg mb Kf) (F : RdFn B) (hA : AOk A 2) (I : SInv B α σ s) (hq : q < σ.length) (hv : VRs α σ.length vs cs) (h : rdS q vs σ K) :
    (∃ o fd, s.heap.get? (α q) = some o ∧ o.data = .func fd) ∧ codeAny (model B.p B.w) A (.call (.ref (α q)) ⟨cs, []⟩) (OutC B α σ s K) s := by
  unfold rdS at h
  split at h
  · rename_i c k hfn
    split at h
    · rename_i r hc hk
      split at h
      · rename_i l hr
        obtain ⟨rfl, hfit, h⟩ := h
        obtain ⟨c1, rfl, hc1⟩ := hv.one
        obtain ⟨t1, rfl⟩ := hc1
        obtain ⟨of, hof, lc, lk, dc, dd, sl, rfl⟩ := I.objs _ _ hfn
        obtain ⟨oc, hoc, cv, hcv, _⟩ := I.objs _ _ hc
        obtain ⟨ok, hok, vsk, tk, hkd, hkq⟩ := I.objs _ _ hk
        obtain ⟨lr, rfl⟩ := hcv
        obtain ⟨pp, hb, hpl⟩ := F.body
        refine ⟨⟨_, _, hof, rfl⟩, ?_⟩
        have hcd : s.heap.CodeRec (B.fd (α c) (.ref (α k))).code (B.fd (α c) (.ref (α k))).qualname := ⟨α k, ok, vsk, tk, F.code _ _, hok, hkd, by rw [F.qn]; exact hkq⟩
        refine codeAny_call_plain (fd := { B.fd (α c) (.ref (α k)) with closureTuple := dc, doc := dd }) hA.room hof rfl (I.lim G) hcd (hb _ _) (F.bind _ _ _ _ _) (F.nocell _ _) (fun x hx => by rw [List.mem_singleton] at hx; subst hx; exact F.ks _ _) (fun h₀ hns keep => ?_) (F.co _ _) (F.gen _ _) (F.fn _ _)
        have I₁ := I.grow (tk := s.toks + [(("size" : Str), Value.int 1 t1)].length) (d := s.drawn) keep
        have X₁ : Ext B noOwn α σ s α σ { s with heap := h₀, toks := s.toks + [(("size" : Str), Value.int 1 t1)].length } := .grow (tk := s.toks + 1) (d := s.drawn) keep
        generalize he : callEnv { B.fd (α c) (.ref (α k)) with closureTuple := dc, doc := dd } s.heap.objs.size (α q) = env
        have e1 : env.scope.kind = .function := by rw [← he]; exact F.fn _ _
        have e2 : env.kindOf "size" = some .local := by rw [← he]; exact F.ks _ _
        have e3 : env.kindOf "signs" = some .free := by rw [← he]; exact F.kf _ _
        have e4 : env.cells.lookup ("signs" : Str) = some (α c) := by
          rw [← he]
          show (B.fd (α c) (.ref (α k))).closure.lookup ("signs" : Str) = _
          rw [F.clo]; rfl
        have e5 : env.locals = s.heap.objs.size := by rw [← he]; rfl
        generalize hs₁ : ({ s with heap := h₀, toks := s.toks + [(("size" : Str), Value.int 1 t1)].length } : Shared) = s₁ at I₁ X₁
        have hh : s₁.heap = h₀ := by rw [← hs₁]
        rw [← hh] at hns keep
        rw [← e5] at hns
        have cellOk : ∀ {α' : Nat → Addr} {s' : Shared}, SInv B α' σ s' → α' c = α c → α' r = α r → ∀ {A : Around} {p : Pos} {Q : Value → Shared → Prop}, (Q (.ref (α r)) s') → W B A (eval (.Name "signs" p) env) s' Q := fun {α' s'} I' ha hb {A p Q} hQ => by
          obtain ⟨oc', hoc', cv', hcv', hcd'⟩ := I'.objs _ _ hc
          obtain ⟨_, rfl⟩ := hcv'
          rw [ha] at hoc'
          refine wpAny_Name (wpAny_loadName_free e1 e3 e4 ⟨_, hoc', hcd'⟩ ?_) (by decide)
          rw [hb]; exact hQ
        have leave : ∀ {f : Flow} {s' : Shared}, (∃ v, f = .ret v ∧ Out B noOwn α σ s₁ (one K) [v] s') → OutC B α σ s K (.ok (.ret (match f with | .ret v => v | _ => .none))) s' := fun {f s'} ⟨v, e, o⟩ => by
          subst e; exact Out.trans X₁ o
        have hA1 : AOk (A.deeper env) 1 := hA.deeper
        refine W.lift (wpAny_mono (Q := fun f s' => ∃ v, f = .ret v ∧ Out B noOwn α σ s₁ (one K) [v] s') ?_ (fun f s' o => leave o) fun _ _ f => f)
        refine wpAny_execs_cons (wpAny_If (wpAny_isTrue_BoolOp (wpAny_allTrue_And_cons (wpAny_isTrue_Compare1 (wpAny_Name (wpAny_loadName_local e1 e2 hns (v := .int 1 t1) (by simp [List.lookup]) ?_) (by decide))))))
        refine wpAny_Constant_int (P.eq_int (wpAny_truthy_bool ?_))
        show wpAny _ _ (allTrue .And [.Name "signs" (pp 3)] env) _ _ _
        have I₂ := I₁.tok (tk := s₁.toks + 1)
        have X₂ : Ext B noOwn α σ s₁ α σ { s₁ with toks := s₁.toks + 1 } := .tok
        refine wpAny_allTrue_And_cons (wpAny_isTrue_value (cellOk I₂ rfl rfl ?_))
        refine wpAny_mono (truS_ok (own := noOwn) I₂ (v := .obj r) (c := .ref (α r)) (K := fun b σ' => b = !l.isEmpty ∧ σ' = σ) ⟨lr, rfl⟩ ?_) (fun b s₃ ⟨σ₃, α₃, hk₃, I₃, X₃⟩ => ?_) fun _ _ f => f
        · simp only [truS, hr]; simpa using hfit
        obtain ⟨rfl, rfl⟩ := hk₃
        have a1 : α₃ c = α c := X₃.agree c lc
        have a2 : α₃ r = α r := X₃.agree r lr
        have X₂₃ := X₂.trans X₃
        cases l with
        | nil =>
          refine wpAny_execs_nil (wpAny_execs_cons (wpAny_Return_some (Constant_str ?_)))
          exact ⟨_, rfl, Out.trans X₂₃ (Out.tok I₃ h ⟨_, rfl⟩)⟩
        | cons v l' =>
          show wpAny _ _ (allTrue .And [] env) _ _ _
          refine wpAny_allTrue_And_nil ?_
          refine wpAny_execs_cons (wpAny_Return_some (callA_ok rfl rfl rfl (by rw [hpl]; exact beq_self_eq_true _) (cellOk I₃ a1 a2 fun pl => ?_)))
          have lr₃ : VR α₃ σ₃.length (.obj r) (.ref (α r)) := ⟨lr, by rw [a2]⟩
          have hbm : bmT .pop0 (.obj r) σ₃ := ⟨_, hr⟩
          refine bm_get (m := .pop0) I₃ lr₃ hbm (callB_ok rfl (wpAny_items_cons (wpAny_Constant_int (wpAny_items_nil ?_)) rfl))
          have I₄ := I₃.tok (tk := s₃.toks + 1)
          have X₄ : Ext B noOwn α₃ σ₃ s₃ α₃ σ₃ { s₃ with toks := s₃.toks + 1 } := .tok
          refine wpAny_mono (bmS_ok (m := .pop0) (own := noOwn) (vs := [.int 0]) (K := K) (hA1.less (Nat.zero_le _)) I₄ (lr₃.ext X₄) ⟨⟨_, rfl⟩, trivial⟩ ?_) (fun c s₅ o => ⟨_, rfl, Out.trans (X₂₃.trans X₄) o⟩) fun _ _ f => f
          show (0 : Int) = 0 ∧ oLst _ _; rw [oLst_of hr]; refine ⟨rfl, ?_⟩; show _ ∧ _
          exact ⟨by unfold Fits at hfit ⊢; simp at hfit ⊢; lia, h⟩
      · exact h.elim
    · exact h.elim
  · exact h.elim
end
end MI.Internal
end

section
set_option Elab.async false
set_option linter.all false
set_option maxRecDepth 10000
namespace MI.Internal
open PySem PySem.W PySem.Calls

/-! ## by hand: the look into the table -/
section
variable {B : Base} {Kf : Frag} {T : Tab} {Φ : Con} {n : Nat} {mg mb : Str → Option Value} {α : Nat → Addr} {σ : Sto} {s : Shared} {A : Around} {Γ : Fm}
noncomputable def ordX : X := .bcall .ord (.cons (.var 0) .nil)
theorem b1_code {a bs : Addr} {fd : FuncData} {e : Expr} {x : Str} {p1 p2 p3 : Pos} {vs : List V} {cs : List Value} {K : VK} {S : Int → Bool} {nn : Nat} (G : Gd B Kf T Φ n mg mb) (D : DefOk Kf a fd ["code"] Γ [.Return (some (.Compare e [.In] [.Name x p1] p2)) p3])
    (q : (chk T ordX Γ).e e = true) (hg : glob Γ x = true) (hx : nsIn Kf mainGlobals x = some (some (.ref bs))) (hset : ∀ h, Kf.In h → h.SetOf (intKind B.p B.w) bs S nn) (hS : ∀ c : Nat, S c = inB1 c)
    (hA : AOk A (n + 1)) (I : SInv B α σ s) (hv : VRs α σ.length vs cs) (h : ∃ c, vs = [.str [c]] ∧ K (.bool (inB1 c)) σ) :
    codeAny (model B.p B.w) A (.call (.ref a) ⟨cs, []⟩) (OutC B α σ s K) s := by
  obtain ⟨c, rfl, hk⟩ := h
  refine call_hand G.gr D hA I hv rfl fun {env A s} _ hA I E => ?_
  refine wpAny_execs_cons (wpAny_Return_some (wpAny_Compare1 (out1 ((snd G ordX).v (K := one fun v σ' => v = .int c ∧ σ' = σ) q hA I E ?_) fun v cv σ₁ α₁ s₁ hv₁ hc₁ I₁ X₁ => ?_)))
  · show match (start Γ [V.str [c]])[0]? with | some (some v) => _ | _ => False
    have : (start Γ [V.str [c]])[0]? = some (some (.str [c])) := by simp [start]
    rw [this]
    exact ⟨rfl, rfl⟩
  · obtain ⟨rfl, rfl⟩ := hv₁
    obtain ⟨t, rfl⟩ := hc₁
    have E₁ := E.ext I X₁
    refine gname G hg I₁ E₁ hx (wpAny_inSet_of (knd := intKind B.p B.w) (k := (c : Int)) (by simp [intKind, Value.isInt]) rfl (hset _ (I₁.kin G.gr)) ?_)
    rw [hS]
    exact ⟨.ret (.bool (inB1 c)), σ₁, α₁, ⟨_, rfl, rfl⟩, hk, I₁.tok, X₁.lift.trans .tok⟩
end
end MI.Internal
end

section
set_option Elab.async false
set_option linter.all false
set_option maxRecDepth 10000
namespace MI.Internal
open PySem PySem.W PySem.Calls

/-! ## by hand: the class is called -/
section
variable {B : Base} {Kf : Frag} {T : Tab} {mg mb : Str → Option Value} {D : Defs} {k : Nat} {α : Nat → Addr} {σ : Sto} {s : Shared} {A : Around}
theorem AOk.under {n : Nat} {C : Addr} {cs : List Value} (h : AOk A (n + 1)) : AOk (A.under (.builtin "type.__call__" ⟨.ref C :: cs, []⟩)) n := by
  refine ⟨h.h, ?_, ?_⟩
  · have := h.d
    show A.depth + Code.weight (.builtin "type.__call__" ⟨.ref C :: cs, []⟩) + n ≤ 600
    have : Code.weight (.builtin "type.__call__" ⟨.ref C :: cs, []⟩) ≤ 1 := Nat.le_of_ble_eq_true (by kernel_rfl)
    lia
  · have := h.u
    show A.units + Code.cUnits (.builtin "type.__call__" ⟨.ref C :: cs, []⟩) + 10 * n ≤ 5000
    have : Code.cUnits (.builtin "type.__call__" ⟨.ref C :: cs, []⟩) ≤ 10 := Nat.le_of_ble_eq_true (by kernel_rfl)
    lia
theorem nw_ok {fI : Addr} (X : Fix B Kf T mg mb) (hm : makesIn Kf B.cls = true) (hi : findIn Kf (.ref B.cls) "__init__" = some (some (.ref fI))) (hf : typeIn Kf (.ref fI) = some (.type "function")) (F : FnOk T Kf fI D.ini) (C : ConAll B T D k)
    {vs : List V} {cs : List Value} {K : VK} (hA : AOk A (3 * (k + 1))) (I : SInv B α σ s) (hv : VRs α σ.length vs cs)
    (h : runD (conOf D k) D.ini (.obj (σ.length + 1) :: vs) (σ ++ [.dict [], .inst σ.length]) (fun v σ' => v = .none ∧ K (.obj (σ.length + 1)) σ')) : W B A (call (.ref B.cls) cs) s fun c s' => Out B noOwn α σ s (one K) [c] s' := by
  have KI := I.kin X.gr
  refine wpAny_call ?_
  obtain ⟨hh, g, d, t, os⟩ := s
  have n0 : hh.get? hh.objs.size = none := none_at hh
  have sz : (hh.push emptyDict).objs.size = hh.objs.size + 1 := by simp [Heap.push]
  have n1 : (hh.push emptyDict).get? (hh.objs.size + 1) = none := by rw [← sz]; exact none_at _
  have I₁ := I.alloc (tk := t) (x := .dict []) (o := emptyDict) (fun b o e => Heap.get?_push_of_some _ e) n0 (Heap.get?_push_size _ rfl) ⟨[], 0, trivial, rfl⟩
  have X₁ := Ext.alloc (B := B) (own := noOwn) (α := α) (σ := σ) (s := ⟨hh, g, d, t, os⟩) (tk := t) (x := .dict []) (h' := hh.push emptyDict) (fun b o e => Heap.get?_push_of_some _ e) n0
  have l1 : (σ ++ [O.dict []]).length = σ.length + 1 := by simp
  have I₂ := I₁.alloc (tk := t) (x := .inst σ.length) (o := instObj B.cls hh.objs.size) (a := hh.objs.size + 1) (h' := (hh.push emptyDict).push (instObj B.cls hh.objs.size)) (fun b o e => Heap.get?_push_of_some _ e) n1 (by rw [← sz]; exact Heap.get?_push_size _ rfl)
    ⟨by rw [l1]; lia, by rw [put_lt (by rw [l1]; lia), put_self]⟩
  have X₂ := Ext.alloc (B := B) (own := noOwn) (α := put α σ.length hh.objs.size) (σ := σ ++ [.dict []]) (s := ⟨hh.push emptyDict, g, d, t, os⟩) (tk := t) (x := .inst σ.length) (a := hh.objs.size + 1) (h' := (hh.push emptyDict).push (instObj B.cls hh.objs.size)) (fun b o e => Heap.get?_push_of_some _ e) n1
  have eσ : (σ ++ [O.dict []]) ++ [O.inst σ.length] = σ ++ [.dict [], .inst σ.length] := by simp
  have X₁₂ := X₁.trans X₂
  rw [eσ] at I₂ X₁₂
  rw [l1] at I₂ X₁₂
  have l2 : (σ ++ [O.dict [], O.inst σ.length]).length = σ.length + 2 := by simp
  refine make_core (makes_of KI hm) (looks_findIn KI hi) (fun self => bind_fn KI self hf) (.inl rfl) ?_
  refine codeAny_mono (level_code (vs := .obj (σ.length + 1) :: vs) (cs := .ref (hh.objs.size + 1) :: cs) X C F (A := A.under (.builtin "type.__call__" ⟨.ref B.cls :: cs, []⟩)) ((show AOk A (3 * k + 2 + 1) from hA).under) I₂ ⟨⟨by rw [l2]; lia, by rw [put_self]⟩, ?_⟩ h) fun r s' hr => ?_
  · have := hv.ext X₁₂
    exact this
  · match r, hr with
    | .ok (.ret c), ⟨[v], σ', α', ⟨hv1, hk⟩, ⟨hc, _⟩, I', X'⟩ =>
      subst hv1
      have hc' : c = .none := hc
      refine ⟨hc', ?_⟩
      refine ⟨[.obj (σ.length + 1)], σ', α', hk, ⟨⟨?_, ?_⟩, trivial⟩, I', X₁₂.trans X'⟩
      · have := X'.len; rw [l2] at this; lia
      · rw [X'.agree _ (by rw [l2]; lia), put_self]
end
end MI.Internal
end

section
set_option Elab.async false
set_option linter.all false
set_option maxRecDepth 10000
namespace MI.Internal
open PySem PySem.W PySem.Calls

/-! ## by hand: the lexer over a text -/
section
variable {B : Base} {own : Addr → Prop} {α : Nat → Addr} {σ : Sto} {s s' : Shared}
/-- a live thing joins the store -/
theorem SInv.adopt (I : SInv B α σ s) {a : Addr} {o : Obj} {x : O} (ha : s.heap.get? a = some o) (hoff : ∀ r, r < σ.length → α r ≠ a) (ht : B.h₀.get? a = none) (ho : own a) (hx : OR B (put α σ.length a) (σ.length + 1) x o) :
    SInv B (put α σ.length a) (σ ++ [x]) s ∧ Ext B own α σ s (put α σ.length a) (σ ++ [x]) s := by
  have hl : (σ ++ [x]).length = σ.length + 1 := by simp
  refine ⟨⟨fun r r' h1 h2 e => ?_, fun r h => ?_, fun r y h => ?_, I.base, I.tab.more fun r h => put_lt h, I.bare, I.os⟩, ⟨fun r h => put_lt h, by simp, fun r h1 h2 => ?_, fun b o e _ _ _ => e, fun b o e _ => ⟨o, e⟩, Nat.le_refl _, fun _ _ => rfl⟩⟩
  · rw [hl] at h1 h2
    by_cases q : r = σ.length
    · by_cases q' : r' = σ.length
      · rw [q, q']
      · subst q
        rw [put_self, put_lt (by lia)] at e
        exact absurd e.symm (hoff r' (by lia))
    · by_cases q' : r' = σ.length
      · subst q'
        rw [put_self, put_lt (by lia)] at e
        exact absurd e (hoff r (by lia))
      · rw [put_lt (by lia), put_lt (by lia)] at e
        exact I.inj r r' (by lia) (by lia) e
  · rw [hl] at h
    by_cases q : r = σ.length
    · subst q; rw [put_self]; exact ht
    · rw [put_lt (by lia)]; exact I.top r (by lia)
  · rw [hl]
    by_cases q : r = σ.length
    · subst q
      have : y = x := by simpa using h.symm
      subst this
      exact ⟨_, by rw [put_self]; exact ha, hx⟩
    · have l : r < σ.length := by
        have := (List.getElem?_eq_some_iff.mp h).1
        rw [hl] at this
        lia
      have h' : σ[r]? = some y := by rwa [List.getElem?_append_left l] at h
      obtain ⟨o', e, z⟩ := I.objs r y h'
      exact ⟨o', by rw [put_lt l]; exact e, z.mono (Nat.le_succ _) fun r hr => put_lt hr⟩
  · have : r = σ.length := by simp at h2; lia
    subst this
    rw [put_self]
    exact .inr ho
/-- the code of the inner def is laid -/
theorem SInv.laid (I : SInv B α σ s) {c : Addr} (hk : ∀ b o, b ≠ B.tb → s.heap.get? b = some o → s'.heap.get? b = some o) (hc : s.heap.get? c = none) (hcd : s'.heap.CodeRec (.ref c) B.qn)
    (ht : s'.heap.get? B.tb = some { cls := .none, data := .fields #[rawInt B.pos.line, rawInt B.pos.col, .ref c] }) (hb : PyProof.Rows.AllBare s'.gens) (hos : s'.os = s.os) (hg : s'.gens = s.gens) :
    SInv B (put α σ.length c) (σ ++ [.code]) s' ∧ Ext B noOwn α σ s (put α σ.length c) (σ ++ [.code]) s' := by
  have hl : (σ ++ [O.code]).length = σ.length + 1 := by simp
  have hoff := I.off hc
  refine ⟨⟨fun r r' h1 h2 e => ?_, fun r h => ?_, fun r y h => ?_, fun b o h2 h3 => hk b o h2 (I.base b o h2 h3), ⟨I.tab.1, _, ht, .inr ⟨σ.length, by simp, by rw [put_self]⟩⟩, hb, hos.trans I.os⟩,
    ⟨fun r h => put_lt h, by simp, fun r h1 h2 => ?_, fun b o e _ _ h4 => hk b o h4 e, fun b o e _ => ?_, by rw [hg]; exact Nat.le_refl _, fun _ _ => by rw [hg]⟩⟩
  · rw [hl] at h1 h2
    by_cases q : r = σ.length
    · by_cases q' : r' = σ.length
      · rw [q, q']
      · subst q
        rw [put_self, put_lt (by lia)] at e
        exact absurd e.symm (hoff r' (by lia))
    · by_cases q' : r' = σ.length
      · subst q'
        rw [put_self, put_lt (by lia)] at e
        exact absurd e (hoff r (by lia))
      · rw [put_lt (by lia), put_lt (by lia)] at e
        exact I.inj r r' (by lia) (by lia) e
  · rw [hl] at h
    by_cases q : r = σ.length
    · subst q; rw [put_self]; exact I.offTop hc
    · rw [put_lt (by lia)]; exact I.top r (by lia)
  · rw [hl]
    by_cases q : r = σ.length
    · subst q
      have : y = .code := by simpa using h.symm
      subst this
      obtain ⟨c', o, vs, t, e, ho, hd, hv⟩ := hcd
      cases e
      exact ⟨o, by rw [put_self]; exact ho, vs, t, hd, hv⟩
    · have l : r < σ.length := by
        have := (List.getElem?_eq_some_iff.mp h).1
        rw [hl] at this
        lia
      have h' : σ[r]? = some y := by rwa [List.getElem?_append_left l] at h
      obtain ⟨o', e, z⟩ := I.objs r y h'
      exact ⟨o', by rw [put_lt l]; exact hk _ _ (I.ntb (I.top r l)) e, z.mono (Nat.le_succ _) fun r hr => put_lt hr⟩
  · have : r = σ.length := by simp at h2; lia
    subst this
    rw [put_self]
    exact .inl hc
  · by_cases q : b = B.tb
    · exact ⟨_, by rw [q]; exact ht⟩
    · exact ⟨o, hk b o q e⟩
end
end MI.Internal
end

section
set_option Elab.async false
set_option linter.all false
set_option maxRecDepth 10000
namespace MI.Internal
open PySem PySem.W PySem.Calls

noncomputable def lex1 : S := .asg 1 (.bcall .list (.cons (.var 0) .nil))
noncomputable def readNm : List Nat := [114, 101, 97, 100]
noncomputable def lexR : S := .cons (.asg 3 (.new (.cons .none .nil))) (.cons (.asgA (.var 3) readNm (.var 2)) (.cons (.ret (.new (.cons (.var 3) .nil))) .nil))
noncomputable def lexS (Φ : Con) (vs : List V) (σ : Sto) (K : VK) : Prop := ∃ l, vs = [.str l] ∧ Fits l.length ∧ ∀ σ₂ r0, (σ₂ = σ ++ [.list (l.map fun c => .str [c])] ∨ σ₂ = σ ++ [.list (l.map fun c => .str [c])] ++ [.code]) → σ₂[r0]? = some .code →
  wS Φ lexR [some (.str l), some (.obj σ.length), some (.obj (σ₂.length + 1)), none] (σ₂ ++ [.cell (.obj σ.length), .fn σ₂.length r0]) (retK K)
noncomputable def lexNames : List Str := ["text", "signs", "read", "stream"]
noncomputable def lexNames' : List Str := ["text", Str.empty, "read", "stream"]
noncomputable def lexG (sc : Scope) : Fm := ⟨lexNames, sc, lexNames⟩
noncomputable def lexG' (sc : Scope) : Fm := ⟨lexNames', sc, lexNames⟩

structure LexFn (B : Base) (Kf : Frag) (T : Tab) (mg : Str → Option Value) (a : Addr) (fd : FuncData) (s1 : Stmt) (params : Arguments) (rbody : List Stmt) (rscope : Scope) (rest : List Stmt) : Prop where
  d : DefOk Kf a fd ["text"] (lexG fd.scope) (s1 :: .FunctionDef "read" params rbody [] none [] rscope none "read" B.pos :: rest)
  q1 : (chkS T (lexG fd.scope) lex1).s s1 = true
  qr : (chkS T (lexG' fd.scope) lexR).l rest = true
  k1 : fd.scope.names.lookup ("signs" : Str) = some .cell
  kR : fd.scope.names.lookup ("read" : Str) = some .local
  kE : fd.scope.names.lookup Str.empty = none
  kc : ∀ x ∈ lexNames, isCell (fd.scope.names.lookup x) → x = "signs"
  fdB : ∀ c k ctv doc, fnX "read" B.qn params rbody rscope [("signs", c)] .none .none doc ((mg "__name__").getD .none) none k ctv = { B.fd c k with closureTuple := ctv, doc := doc }
  code : ∃ c, fd.code = .ref c ∧ ∀ h, Kf.In h → CodeHd h c B.tb
  bat : ∀ h, Kf.In h → h.BuiltinsAt mg B.tb
  qn : ∀ L, qualnameIn (callEnvC fd L a) "read" "read" = B.qn
  dflt : params.defaults = [] ∧ params.kw_defaults = []
  ann : ∀ env, annTrees params none env = []
  rsc : rscope.names = [(("size" : Str), NameKind.local), (("signs" : Str), NameKind.free)]

section
variable {B : Base} {Kf : Frag} {T : Tab} {D : Defs} {k : Nat} {mg mb : Str → Option Value} {α : Nat → Addr} {σ : Sto} {s : Shared} {A : Around} {a : Addr} {fd : FuncData} {s1 : Stmt} {params : Arguments} {rbody rest : List Stmt} {rscope : Scope}
theorem lex_mask {ρ : Lv} {n : Nat} {env : Env} {h : Heap} {sc : Scope} (kE : sc.names.lookup Str.empty = none) (E : EnvOk B (lexG sc) ρ α n env h) : EnvOk B (lexG' sc) ρ α n env h := by
  have nm : ∀ (i : Nat) (x : Str), lexNames'[i]? = some x → x ≠ Str.empty → lexNames[i]? = some x := fun i x h hx => by
    match i, h with
    | 0, h => exact h
    | 1, h => exact absurd (Option.some.inj h).symm hx
    | 2, h => exact h
    | 3, h => exact h
    | i + 4, h => simp [lexNames'] at h
  have ne : ∀ {x : Str} {kk : NameKind}, sc.names.lookup x = some kk → x ≠ Str.empty := fun h e => by rw [e, kE] at h; cases h
  have neC : ∀ {x : Str}, isCell (sc.names.lookup x) → x ≠ Str.empty := fun h => h.elim ne ne
  refine ⟨E.sc, E.fn, E.glob, E.blt, E.len, ?_, fun i x h1 h2 => E.cell i x (nm i x h1 (neC h2)) h2, E.locT, E.locO, fun i x c h1 h2 h3 => E.cellT i x c (nm i x h1 (neC h2)) h2 h3, E.apart⟩
  obtain ⟨m, hm, q⟩ := E.loc
  exact ⟨m, hm, fun i x h1 h2 v h3 => q i x (nm i x h1 (ne h2)) h2 v h3⟩
theorem lex_own {sc : Scope} {env : Env} (kE : sc.names.lookup Str.empty = none) {b : Addr} (h : ownOf (lexG' sc) env b) : ownOf (lexG sc) env b := by
  rcases h with h | ⟨i, x, h1, h2, h3, h4⟩
  · exact .inl h
  · refine .inr ⟨i, x, ?_, h2, h3, h4⟩
    match i, h1 with
    | 0, h => exact h
    | 1, h =>
      have : x = Str.empty := (Option.some.inj h).symm
      subst this
      have h3 : sc.names.lookup Str.empty = some .cell := h3
      rw [kE] at h3; cases h3
    | 2, h => exact h
    | 3, h => exact h
    | i + 4, h => simp [lexG', lexNames'] at h

theorem lex_code (X : Fix B Kf T mg mb) (C : ConAll B T D k) (F : LexFn B Kf T mg a fd s1 params rbody rscope rest) {vs : List V} {cs : List Value} {K : VK} (hA : AOk A (3 * k + 2)) (I : SInv B α σ s) (hv : VRs α σ.length vs cs) (h : lexS (conOf D k) vs σ K) :
    codeAny (model B.p B.w) A (.call (.ref a) ⟨cs, []⟩) (OutC B α σ s K) s := by
  obtain ⟨l, rfl, hfit, hw⟩ := h
  refine call_hand X.gr F.d hA I hv rfl fun {env A s} ⟨L, henv⟩ hA I E => ?_
  have hst : start (lexG fd.scope) [V.str l] = [some (.str l), none, none, none] := rfl
  refine wpAny_execs_cons (wpAny_mono ((level_snds X C lex1).s (K := fun fl ρ' σ' => fl = .next ∧ ρ' = [some (.str l), some (.obj σ.length), none, none] ∧ σ' = σ ++ [.list (l.map fun c => .str [c])]) F.q1 hA I E ⟨hfit, rfl, rfl, rfl⟩) (fun f s₁ ⟨fl, ρ₁, σ₁, α₁, h1, ⟨e1, e2, e3⟩, I₁, E₁, X₁⟩ => ?_) fun _ _ f => f)
  subst e1 e2
  cases h1
  obtain ⟨c, v₀, hc, hcell, hcv⟩ := E₁.cell 1 "signs" rfl (.inl F.k1)
  obtain ⟨cv, rfl, hcv'⟩ := hcv _ rfl
  obtain ⟨oc, hoc, hod⟩ := hcell
  obtain ⟨tC, oC, nC⟩ := E₁.cellT 1 "signs" c rfl (.inl F.k1) hc
  have hcl : closureFor rscope env = pure [(("signs" : Str), c)] := by
    rw [closure_eq (fun n hn => ?_), F.rsc]
    · simp [closL, hc]
    · rw [F.rsc] at hn
      have : n = "signs" := by simpa using hn
      rw [this, hc]; rfl
  obtain ⟨cc, hcc, hCH⟩ := F.code
  have hcode : env.code = .ref cc := by rw [henv]; exact hcc
  have KI₁ := I₁.kin X.gr
  have E₁' := lex_mask F.kE E₁
  have ownC : ownOf (lexG fd.scope) env c := .inr ⟨1, "signs", rfl, .tail _ (.head _), F.k1, hc⟩
  -- what follows once the function object stands
  have go : ∀ (α₂ : Nat → Addr) (σ₂ : Sto) (s₂ : Shared) (r0 : Nat) (f : Addr) (ctv doc : Value), SInv B α₂ σ₂ s₂ → Ext B noOwn α₁ σ₁ s₁ α₂ σ₂ s₂ → (σ₂ = σ ++ [.list (l.map fun c => .str [c])] ∨ σ₂ = σ ++ [.list (l.map fun c => .str [c])] ++ [.code]) → σ₂[r0]? = some .code →
      s₂.heap.get? f = some { cls := .type "function", data := .func (fnX "read" B.qn params rbody rscope [("signs", c)] .none .none doc ((mg "__name__").getD .none) none (.ref (α₂ r0)) ctv) } → s₁.heap.get? f = none → (∀ r, r < σ₂.length → α₂ r ≠ f) →
      W B A (storeName env "read" (.ref f)) s₂ fun _ s₃ => W B A (execs rest env) s₃ fun fl s' => OutG B (lexG fd.scope) env α σ s K fl s' := by
    intro α₂ σ₂ s₂ r0 f ctv doc I₂ X₂ hσ hr0 hf hfn hfo
    let own : Addr → Prop := fun b => b = c ∨ b = f
    have hoc₂ : s₂.heap.get? c = some oc := X₂.keep c oc hoc oC id (I₁.ntb tC)
    have oC₂ := X₂.off I₁ hoc oC id
    have lr0 := I₂.get hr0
    have lσ : σ.length < σ₁.length := by rw [e3]; simp
    have hVR : VR α₂ σ₂.length (.obj σ.length) cv := hcv'.ext X₂
    obtain ⟨I₃, X₃⟩ := I₂.adopt (own := own) (x := .cell (.obj σ.length)) hoc₂ oC₂ tC (.inl rfl) ⟨cv, hVR.mono (Nat.le_succ _) fun r hr => put_lt hr, hod⟩
    have tF := I₁.offTop hfn
    have ne : c ≠ f := fun e => by rw [e, hfn] at hoc; cases hoc
    have l3 : (σ₂ ++ [O.cell (.obj σ.length)]).length = σ₂.length + 1 := by simp
    have oF₃ : ∀ r, r < (σ₂ ++ [O.cell (.obj σ.length)]).length → put α₂ σ₂.length c r ≠ f := fun r hr => by
      rw [l3] at hr
      by_cases q : r = σ₂.length
      · subst q; rw [put_self]; exact ne
      · rw [put_lt (by lia)]; exact hfo r (by lia)
    obtain ⟨I₄, X₄⟩ := I₃.adopt (own := own) (x := .fn σ₂.length r0) hf oF₃ tF (.inr rfl) ⟨by rw [l3]; lia, by rw [l3]; lia, ctv, doc, #[], by
      rw [F.fdB, put_lt (by rw [l3]; lia), put_self, put_lt (by rw [l3]; lia), put_lt lr0]⟩
    have e4 : σ₂ ++ [O.cell (.obj σ.length)] ++ [O.fn σ₂.length r0] = σ₂ ++ [.cell (.obj σ.length), .fn σ₂.length r0] := by simp
    rw [e4] at I₄ X₄
    rw [l3] at I₄ X₄
    have l4 : (σ₂ ++ [O.cell (.obj σ.length), O.fn σ₂.length r0]).length = σ₂.length + 2 := by simp
    have Z := (X₂.lift (own := own)).trans (X₃.trans X₄)
    have oE : ∀ b, own b → OffEnv (lexG' fd.scope) env b := fun b hb => by
      rcases hb with rfl | rfl
      · refine ⟨nC, fun i x c' h1 h2 h3 e => ?_⟩
        subst e
        have := E₁.apart x "signs" b h3 hc
        subst this
        match i, h1 with
        | 0, h => exact absurd (Option.some.inj h) (by decide)
        | 1, h => exact absurd (Option.some.inj h) (by decide)
        | 2, h => exact absurd (Option.some.inj h) (by decide)
        | 3, h => exact absurd (Option.some.inj h) (by decide)
        | i + 4, h => simp [lexG', lexNames'] at h
      · exact fresh_off E₁' hfn
    have E₄ := E₁'.extOwn I₁ Z oE
    refine store_ok X.gr I₄ E₄ (i := 2) (x := "read") (v := .obj (σ₂.length + 1)) rfl (.inl F.kR) (by rfl) (.tail _ (.tail _ (.head _))) ⟨by rw [l4]; lia, by rw [put_self]⟩ fun s₅ I₅ E₅ X₅ => ?_
    refine wpAny_mono ((level_snds X C lexR).l (K := retK K) F.qr hA I₅ E₅ (hw σ₂ r0 hσ hr0)) (fun fl s₆ o_ => ?_) fun _ _ f => f
    obtain ⟨fl', ρ₆, σ₆, α₆, a1, a2, a3, _, a5⟩ := o_
    refine ⟨fl', σ₆, α₆, a1, a2, a3, ?_⟩
    have W1 : Ext B (fun b => ownOf (lexG fd.scope) env b ∨ b = f) α σ s α₆ σ₆ s₆ := (X₁.weaken fun _ q => .inl q).trans ((Z.weaken fun b q => q.elim (fun e => .inl (e ▸ ownC)) .inr).trans ((X₅.trans a5).weaken fun _ q => .inl (lex_own F.kE q)))
    refine W1.forget fun b q => ?_
    rcases q with q | rfl
    · exact .inl q
    · by_cases qo : ownOf (lexG fd.scope) env b
      · exact .inl qo
      · refine .inr ?_
        cases p : s.heap.get? b with
        | none => rfl
        | some o => obtain ⟨o', e'⟩ := X₁.live b o p qo; rw [hfn] at e'; cases e'
  refine wpAny_execs_cons (nestDef_K F.dflt.1 F.dflt.2 (F.ann env) ?_)
  rw [show qualnameIn env "read" "read" = B.qn from by rw [henv]; exact F.qn L]
  obtain ⟨t0, ps, htb, hps⟩ := I₁.tab
  have none_ : ∀ k, s₁.heap.objs.size ≤ k → s₁.heap.get? k = none := fun k hk => by
    cases q : s₁.heap.get? k with
    | none => rfl
    | some o => exact absurd (Heap.lt_size q) (Nat.not_lt.mpr hk)
  rcases hps with rfl | ⟨r0, hr0, rfl⟩
  · refine makeFunction_K hcl E₁.glob (I₁.nsG X.gr) hcode (hCH _ KI₁) htb trivial rfl X.gr.tb3.1.symm (F.bat _ KI₁) fun c' ctv doc h' tk hext l1 l2 hrec htb' => ?_
    have pk : ∀ b o, b ≠ B.tb → s₁.heap.get? b = some o → (h'.push (fnMade "read" B.qn params rbody rscope [("signs", c)] doc ((mg "__name__").getD .none) c' ctv)).get? b = some o := fun b o hb e => Heap.get?_push_of_some _ (hext b o hb e)
    obtain ⟨I₂, X₂⟩ := I₁.laid (s' := { s₁ with heap := h'.push (fnMade "read" B.qn params rbody rscope [("signs", c)] doc ((mg "__name__").getD .none) c' ctv), toks := tk }) (c := c') pk (none_ _ l1) (hrec.push _) (Heap.get?_push_of_some _ htb') I₁.bare rfl rfl
    have hsz : s₁.heap.objs.size ≤ h'.objs.size := Nat.le_of_lt (Nat.lt_of_le_of_lt l1 l2)
    have lσ : (σ₁ ++ [O.code]).length = σ₁.length + 1 := by simp
    refine go _ _ _ σ₁.length _ ctv doc I₂ X₂ (.inr (by rw [e3])) (by simp) (by rw [put_self]; exact Heap.get?_push_size _ rfl) (none_ _ hsz) fun r hr e => ?_
    rw [lσ] at hr
    by_cases q : r = σ₁.length
    · subst q
      rw [put_self] at e
      exact absurd e (Nat.ne_of_lt l2)
    · rw [put_lt (by lia)] at e
      exact I₁.off (none_ _ hsz) r (by lia) e
  · refine makeFunction_hit (cv := .ref (α₁ r0)) hcl E₁.glob (I₁.nsG X.gr) hcode (hCH _ KI₁) htb (by simp [TriplesOk, rawInt]) (by simp [codeAmong, rawInt]) (F.bat _ KI₁) fun ctv doc h' tk keep hsz => ?_
    have pk : ∀ b o, s₁.heap.get? b = some o → (h'.push { cls := .type "function", data := .func (fnX "read" B.qn params rbody rscope [("signs", c)] .none .none doc ((mg "__name__").getD .none) none (.ref (α₁ r0)) ctv) }).get? b = some o := fun b o e => Heap.get?_push_of_some _ (keep b o e)
    exact go α₁ σ₁ _ r0 _ ctv doc (I₁.grow (tk := tk) (d := s₁.drawn) pk) (.grow (tk := tk) (d := s₁.drawn) pk) (.inl e3) hr0 (Heap.get?_push_size _ rfl) (none_ _ hsz) fun r hr => I₁.off (none_ _ hsz) r hr
end
end MI.Internal
end

section
set_option Elab.async false
set_option linter.all false
set_option maxRecDepth 100000
namespace M02.Internal
open PySem PySem.W PySem.Calls MI.Internal

noncomputable def bodyD (s : Stmt) : List Stmt := if h : s.ctorIdx = 0 then Stmt.FunctionDef.elim (motive_2 := fun _ => List Stmt) s h fun _ _ b _ _ _ _ _ _ _ => b else []
noncomputable def scD (s : Stmt) : Scope := if h : s.ctorIdx = 0 then Stmt.FunctionDef.elim (motive_2 := fun _ => Scope) s h fun _ _ _ _ _ _ s _ _ _ => s else default
noncomputable def tab : Tab := { fn := [("Int2AP", 0, 21), ("in_table_b1", 1, 88), ("_law_cells", 2, 95), ("_law_sign", 3, 102), ("_law_card", 5, 107), ("_law_number", 6, 114), ("_law_lexer", 7, 121), ("_law_typed", 8, 128), ("_law_line", 13, 133), ("_law_deal", 14, 140), ("law", 15, 145)], me := [([95, 114, 101, 97, 100, 95, 99, 104, 97, 114], 0, 49), ([103, 101, 116, 95, 116, 111, 107, 101, 110], 1, 56), ([112, 117, 115, 104, 95, 116, 111, 107, 101, 110], 2, 63)], att := [[108, 105, 110, 101, 110, 111], [105, 110, 115, 116, 114, 101, 97, 109], [119, 104, 105, 116, 101, 115, 112, 97, 99, 101], [112, 117, 115, 104, 98, 97, 99, 107], [114, 101, 97, 100]], cls := "_netrclex" }
noncomputable def nm_Int2AP : List Str := ["num", "val", "AP", "mod"]
noncomputable def ps_Int2AP : List Str := ["num"]
noncomputable def ir_Int2AP : S := (.cons (.asg 1 (.bytes [])) (.cons (.asg 2 (.bytes [65, 66, 67, 68, 69, 70, 71, 72, 73, 74, 75, 76, 77, 78, 79, 80])) (.cons (.asg 0 (.bcall .int (.cons (.bcall .abs (.cons (.var 0) .nil)) .nil))) (.cons (.while_ (.var 0) (.cons (.asgT [0, 3] (.bcall .divmod (.cons (.var 0) (.cons (.int 16) .nil)))) (.cons (.asg 1 (.bin .Add (.slice (.var 2) (.var 3) (.bin .Add (.var 3) (.int 1))) (.var 1))) .nil))) (.cons (.ret (.var 1)) .nil)))))
-- grouping_intervals: by hand (Exception name CHAR_MAX); names ['grouping', 'last_interval', 'interval']
noncomputable def nm_m__init : List Str := ["self", "fp"]
noncomputable def ps_m__init : List Str := ["self", "fp"]
noncomputable def ir_m__init : S := (.cons (.asgA (.var 0) [108, 105, 110, 101, 110, 111] (.int 1)) (.cons (.asgA (.var 0) [105, 110, 115, 116, 114, 101, 97, 109] (.var 1)) (.cons (.asgA (.var 0) [119, 104, 105, 116, 101, 115, 112, 97, 99, 101] (.str [10, 9, 13, 32])) (.cons (.asgA (.var 0) [112, 117, 115, 104, 98, 97, 99, 107] (.list .nil)) .nil))))
noncomputable def nm_m_read_char : List Str := ["self", "ch"]
noncomputable def ps_m_read_char : List Str := ["self"]
noncomputable def ir_m_read_char : S := (.cons (.asg 1 (.cr [114, 101, 97, 100] (.attr (.var 0) [105, 110, 115, 116, 114, 101, 97, 109]) (.cons (.int 1) .nil))) (.cons (.ife (.cmp .Eq (.var 1) (.str [10])) (.cons (.augA (.var 0) [108, 105, 110, 101, 110, 111] .Add (.int 1)) .nil) .nil) (.cons (.ret (.var 1)) .nil)))
noncomputable def nm_m_get_token : List Str := ["self", "token", "fiter", "ch"]
noncomputable def ps_m_get_token : List Str := ["self"]
noncomputable def ir_m_get_token : S := (.cons (.ife (.attr (.var 0) [112, 117, 115, 104, 98, 97, 99, 107]) (.cons (.ret (.bm .pop0 (.attr (.var 0) [112, 117, 115, 104, 98, 97, 99, 107]) (.cons (.int 0) .nil))) .nil) .nil) (.cons (.asg 1 (.str [])) (.cons (.asg 2 (.citer (.var 0))) (.cons (.forC 3 (.var 2) (.cons (.ife (.cmp .In (.var 3) (.attr (.var 0) [119, 104, 105, 116, 101, 115, 112, 97, 99, 101])) (.cons .cont .nil) .nil) (.cons (.ife (.cmp .Eq (.var 3) (.str [34])) (.cons (.forC 3 (.var 2) (.cons (.ife (.cmp .Eq (.var 3) (.str [34])) (.cons (.ret (.var 1)) .nil) (.cons (.ife (.cmp .Eq (.var 3) (.str [92])) (.cons (.asg 3 (.cm 0 [95, 114, 101, 97, 100, 95, 99, 104, 97, 114] (.var 0) .nil)) .nil) .nil) .nil)) (.cons (.aug 1 .Add (.var 3)) .nil))) .nil) (.cons (.ife (.cmp .Eq (.var 3) (.str [92])) (.cons (.asg 3 (.cm 0 [95, 114, 101, 97, 100, 95, 99, 104, 97, 114] (.var 0) .nil)) .nil) .nil) (.cons (.aug 1 .Add (.var 3)) (.cons (.forC 3 (.var 2) (.cons (.ife (.cmp .In (.var 3) (.attr (.var 0) [119, 104, 105, 116, 101, 115, 112, 97, 99, 101])) (.cons (.ret (.var 1)) .nil) (.cons (.ife (.cmp .Eq (.var 3) (.str [92])) (.cons (.asg 3 (.cm 0 [95, 114, 101, 97, 100, 95, 99, 104, 97, 114] (.var 0) .nil)) .nil) .nil) .nil)) (.cons (.aug 1 .Add (.var 3)) .nil))) .nil)))) .nil))) (.cons (.ret (.var 1)) .nil)))))
noncomputable def nm_m_push_token : List Str := ["self", "token"]
noncomputable def ps_m_push_token : List Str := ["self", "token"]
noncomputable def ir_m_push_token : S := (.cons (.expr (.bm .append (.attr (.var 0) [112, 117, 115, 104, 98, 97, 99, 107]) (.cons (.var 1) .nil))) .nil)
-- in_table_b1: by hand (Exception name b1_set); names ['code']
noncomputable def nm_law_cells : List Str := ["script", "cells", "k"]
noncomputable def ps_law_cells : List Str := ["script"]
noncomputable def lb_law_cells_1 : S := (.cons (.augI (.var 1) (.bin .Mod (.var 2) (.int 8)) .Add (.bin .Mod (.idx (.var 0) (.var 2)) (.int 1000000))) .nil)
noncomputable def ir_law_cells_t3 : S := (.cons (.ret (.var 1)) .nil)
noncomputable def ir_law_cells_t2 : S := (.cons (.for_ [2] (.range (.cons (.bcall .len (.cons (.var 0) .nil)) .nil)) lb_law_cells_1) ir_law_cells_t3)
noncomputable def ir_law_cells : S := (.cons (.asg 1 (.list (.cons (.int 258) (.cons (.int 254) (.cons (.int 255) (.cons (.int 257) (.cons (.int 256) (.cons (.int 257) (.cons (.int 253) (.cons (.int 260) .nil)))))))))) ir_law_cells_t2)
noncomputable def nm_law_sign : List Str := ["seen", "number", "codes", "place"]
noncomputable def ps_law_sign : List Str := ["seen", "number"]
noncomputable def ir_law_sign_t4 : S := (.cons (.ret (.bcall .chr (.cons (.ife (.cmp .Lt (.var 3) (.int 11)) (.idx (.var 2) (.var 3)) (.bin .Add (.int 65013) (.var 3))) .nil))) .nil)
noncomputable def ir_law_sign_t3 : S := (.cons (.asg 3 (.bin .Mod (.var 1) (.int 27))) ir_law_sign_t4)
noncomputable def ir_law_sign_t2 : S := (.cons (.asg 2 (.list (.cons (.int 173) (.cons (.int 847) (.cons (.int 6150) (.cons (.int 6155) (.cons (.int 6156) (.cons (.int 6157) (.cons (.int 8203) (.cons (.int 8204) (.cons (.int 8205) (.cons (.int 8288) (.cons (.int 65279) .nil))))))))))))) ir_law_sign_t3)
noncomputable def ir_law_sign : S := (.cons (.ife (.var 0) (.cons (.asg 2 (.list (.cons (.int 172) (.cons (.int 174) (.cons (.int 846) (.cons (.int 848) (.cons (.int 6149) (.cons (.int 6151) (.cons (.int 6154) (.cons (.int 6158) (.cons (.int 34) (.cons (.int 8202) (.cons (.int 8206) (.cons (.int 8287) (.cons (.int 8289) (.cons (.int 92) (.cons (.int 65023) (.cons (.int 65040) (.cons (.int 65278) (.cons (.int 32) (.cons (.int 65280) .nil))))))))))))))))))))) (.cons (.ret (.bcall .chr (.cons (.idx (.var 2) (.bin .Mod (.var 1) (.int 19))) .nil))) .nil)) .nil) ir_law_sign_t2)
noncomputable def nm_law_card : List Str := ["number", "turn"]
noncomputable def ps_law_card : List Str := ["number", "turn"]
noncomputable def le_law_card_1 : X := (.bcall .chr (.cons (.var 2) .nil))
noncomputable def ir_law_card : S := (.cons (.ret (.bin .Add (.bm .join (.str []) (.cons (.comp le_law_card_1 1 (.call 0 (.cons (.var 0) .nil)) .nil) .nil)) (.call 3 (.cons (.cmp .GtE (.var 0) (.int 0)) (.cons (.var 1) .nil))))) .nil)
noncomputable def nm_law_number : List Str := ["card", "number", "letter", "told"]
noncomputable def ps_law_number : List Str := ["card"]
noncomputable def lb_law_number_1 : S := (.cons (.asg 1 (.bin .Add (.bin .Mult (.int 16) (.var 1)) (.bm .sindex (.str [65, 66, 67, 68, 69, 70, 71, 72, 73, 74, 75, 76, 77, 78, 79, 80]) (.cons (.var 2) .nil)))) .nil)
noncomputable def lt_law_number_2 : X := (.boolop .Or (.cons (.cmp .Eq (.idx (.var 0) (.int 0)) (.str [65])) (.cons (.boolop .And (.cons (.cmp .IsNot (.var 3) .tru) (.cons (.cmp .IsNot (.var 3) .fls) .nil))) .nil)))
noncomputable def ir_law_number_t5 : S := (.cons (.ret (.ife (.var 3) (.neg (.var 1)) (.var 1))) .nil)
noncomputable def ir_law_number_t4 : S := (.cons (.ife lt_law_number_2 (.cons (.ret .none) .nil) .nil) ir_law_number_t5)
noncomputable def ir_law_number_t3 : S := (.cons (.asg 3 (.call 1 (.cons (.idx (.var 0) (.neg (.int 1))) .nil))) ir_law_number_t4)
noncomputable def ir_law_number_t2 : S := (.cons (.for_ [2] (.slice (.var 0) .nil (.neg (.int 1))) lb_law_number_1) ir_law_number_t3)
noncomputable def ir_law_number : S := (.cons (.asg 1 (.int 0)) ir_law_number_t2)
-- law_lexer: by hand (Exception FunctionDef); names ['text', 'signs', 'read', 'stream']
noncomputable def nm_law_typed : List Str := ["card", "manner", "between", "white", "written", "k"]
noncomputable def ps_law_typed : List Str := ["card", "manner"]
noncomputable def lt_law_typed_1 : X := (.boolop .Or (.cons (.bin .Mod (.bin .FloorDiv (.var 1) (.bin .Pow (.int 2) (.var 5))) (.int 2)) (.cons (.cmp .Eq (.idx (.var 0) (.var 5)) (.str [92])) (.cons (.boolop .And (.cons (.cmp .Eq (.idx (.var 0) (.var 5)) (.str [34])) (.cons (.boolop .Or (.cons (.var 2) (.cons (.cmp .Eq (.var 5) (.int 0)) .nil))) .nil))) (.cons (.boolop .And (.cons (.cmp .Eq (.idx (.var 0) (.var 5)) (.str [32])) (.cons (.not (.var 2)) .nil))) .nil)))))
noncomputable def lb_law_typed_2_t2 : S := (.cons (.aug 4 .Add (.idx (.var 0) (.var 5))) .nil)
noncomputable def lb_law_typed_2 : S := (.cons (.ife lt_law_typed_1 (.cons (.aug 4 .Add (.str [92])) .nil) .nil) lb_law_typed_2_t2)
noncomputable def ir_law_typed_t3 : S := (.cons (.ret (.ife (.var 2) (.bin .Add (.bin .Add (.bin .Add (.var 3) (.str [34])) (.var 4)) (.str [34])) (.bin .Add (.var 4) (.var 3)))) .nil)
noncomputable def ir_law_typed_t2 : S := (.cons (.for_ [5] (.range (.cons (.bcall .len (.cons (.var 0) .nil)) .nil)) lb_law_typed_2) ir_law_typed_t3)
noncomputable def ir_law_typed : S := (.cons (.asgT [2, 3, 4] (.tup (.cons (.bin .Mod (.bin .FloorDiv (.var 1) (.int 8)) (.int 2)) (.cons (.idx (.str [32, 10, 9, 13]) (.bin .Mod (.bin .FloorDiv (.var 1) (.int 16)) (.int 4))) (.cons (.str []) .nil))))) ir_law_typed_t2)
noncomputable def nm_law_line : List Str := ["numbers", "manner", "cards", "joined", "text", "line"]
noncomputable def ps_law_line : List Str := ["numbers", "manner"]
noncomputable def le_law_line_1 : X := (.call 5 (.cons (.idx (.var 0) (.var 6)) (.cons (.bin .Add (.var 1) (.bin .Mult (.int 5) (.var 6))) .nil)))
noncomputable def le_law_line_2 : X := (.call 8 (.cons (.idx (.var 2) (.var 6)) (.cons (.bin .FloorDiv (.var 1) (.bin .Pow (.int 3) (.var 6))) .nil)))
noncomputable def le_law_line_3 : X := (.cm 1 [103, 101, 116, 95, 116, 111, 107, 101, 110] (.var 5) .nil)
noncomputable def le_law_line_4 : X := (.cm 2 [112, 117, 115, 104, 95, 116, 111, 107, 101, 110] (.var 5) (.cons (.var 6) .nil))
noncomputable def le_law_line_5 : X := .none
noncomputable def lt_law_line_6 : X := (.boolop .Or (.cons (.cmp .NotEq (.comp le_law_line_3 1 (.var 2) .nil) (.var 2)) (.cons (.cmp .NotEq (.comp le_law_line_4 1 (.var 2) .nil) (.comp le_law_line_5 1 (.var 2) .nil)) .nil)))
noncomputable def ir_law_line_t6 : S := (.cons (.ret (.tup (.cons (.var 5) (.cons (.var 3) .nil)))) .nil)
noncomputable def ir_law_line_t5 : S := (.cons (.ife lt_law_line_6 (.cons (.ret (.tup (.cons .none (.cons (.var 3) .nil)))) .nil) .nil) ir_law_line_t6)
noncomputable def ir_law_line_t4 : S := (.cons (.asg 5 (.call 7 (.cons (.bin .Add (.var 4) (.call 8 (.cons (.var 3) (.cons (.bin .FloorDiv (.var 1) (.int 81)) .nil)))) .nil))) ir_law_line_t5)
noncomputable def ir_law_line_t3 : S := (.cons (.asg 4 (.bm .join (.str []) (.cons (.comp le_law_line_2 1 (.range (.cons (.bcall .len (.cons (.var 2) .nil)) .nil)) .nil) .nil))) ir_law_line_t4)
noncomputable def ir_law_line_t2 : S := (.cons (.asg 3 (.bm .join (.str []) (.cons (.var 2) .nil))) ir_law_line_t3)
noncomputable def ir_law_line : S := (.cons (.asg 2 (.comp le_law_line_1 1 (.range (.cons (.bcall .len (.cons (.var 0) .nil)) .nil)) .nil)) ir_law_line_t2)
noncomputable def nm_law_deal : List Str := ["line", "half", "kind", "turn", "heaps", "sizes", "size", "k", "one", "other"]
noncomputable def ps_law_deal : List Str := ["line", "half", "kind", "turn"]
noncomputable def lb_law_deal_1 : S := (.cons (.expr (.cm 2 [112, 117, 115, 104, 95, 116, 111, 107, 101, 110] (.idx (.var 4) (.bin .FloorDiv (.var 7) (.var 1))) (.cons (.cm 1 [103, 101, 116, 95, 116, 111, 107, 101, 110] (.var 0) .nil) .nil))) .nil)
noncomputable def lt_law_deal_2 : X := (.boolop .And (.cons (.cmp .Lt (.var 2) (.int 2)) (.cons (.cmp .Eq (.bcall .sum (.cons (.var 5) .nil)) (.bin .Mult (.int 2) (.var 1))) .nil)))
noncomputable def lb_law_deal_3_t4 : S := (.cons (.ife lt_law_deal_2 (.cons .brk .nil) .nil) .nil)
noncomputable def lb_law_deal_3_t3 : S := (.cons (.expr (.bm .append (.var 5) (.cons (.var 6) .nil))) lb_law_deal_3_t4)
noncomputable def lb_law_deal_3_t2 : S := (.cons (.for_ [7] (.range (.cons (.bcall .sum (.cons (.var 5) .nil)) (.cons (.bin .Add (.bcall .sum (.cons (.var 5) .nil)) (.var 6)) .nil))) lb_law_deal_1) lb_law_deal_3_t3)
noncomputable def lb_law_deal_3 : S := (.cons (.ife (.cmp .Gt (.bin .Add (.bcall .sum (.cons (.var 5) .nil)) (.var 6)) (.bin .Mult (.int 2) (.var 1))) (.cons (.ret .fls) .nil) .nil) lb_law_deal_3_t2)
noncomputable def lb_law_deal_4_t3 : S := (.cons (.expr (.cm 2 [112, 117, 115, 104, 95, 116, 111, 107, 101, 110] (.var 0) (.cons (.call 5 (.cons (.bin .Sub (.var 8) (.var 9)) (.cons (.var 3) .nil))) .nil))) .nil)
noncomputable def lb_law_deal_4_t2 : S := (.cons (.expr (.cm 2 [112, 117, 115, 104, 95, 116, 111, 107, 101, 110] (.var 0) (.cons (.call 5 (.cons (.bin .Add (.var 8) (.var 9)) (.cons (.var 3) .nil))) .nil))) lb_law_deal_4_t3)
noncomputable def lb_law_deal_4 : S := (.cons (.asgT [8, 9] (.tup (.cons (.call 6 (.cons (.cm 1 [103, 101, 116, 95, 116, 111, 107, 101, 110] (.idx (.var 4) (.int 0)) .nil) .nil)) (.cons (.call 6 (.cons (.cm 1 [103, 101, 116, 95, 116, 111, 107, 101, 110] (.idx (.var 4) (.int 1)) .nil) .nil)) .nil)))) lb_law_deal_4_t2)
noncomputable def ir_law_deal_t5 : S := (.cons (.ret .tru) .nil)
noncomputable def ir_law_deal_t4 : S := (.cons (.for_ [7] (.range (.cons (.var 1) .nil)) lb_law_deal_4) ir_law_deal_t5)
noncomputable def ir_law_deal_t3 : S := (.cons (.ife (.cmp .NotEq (.var 5) (.idx (.list (.cons (.bin .Add (.list (.cons (.var 1) .nil)) (.bin .Mult (.list (.cons (.int 1) .nil)) (.var 1))) (.cons (.bin .Mult (.list (.cons (.int 1) .nil)) (.bin .Mult (.int 2) (.var 1))) (.cons (.list (.cons (.var 1) (.cons (.var 1) .nil))) (.cons (.list (.cons (.var 1) (.cons (.var 1) .nil))) .nil))))) (.var 2))) (.cons (.ret .fls) .nil) .nil) ir_law_deal_t4)
noncomputable def ir_law_deal_t2 : S := (.cons (.forG 6 (.idx (.list (.cons (.list (.cons (.var 1) (.cons (.bin .Sub (.var 1) (.int 1)) (.cons (.int 0) .nil)))) (.cons (.list (.cons (.int 1) (.cons (.int 0) .nil))) (.cons (.list (.cons (.var 1) (.cons (.var 1) .nil))) (.cons (.list (.cons (.var 1) (.cons (.var 1) (.cons (.int 127) (.cons (.int 1) .nil))))) .nil))))) (.var 2)) lb_law_deal_3) ir_law_deal_t3)
noncomputable def ir_law_deal : S := (.cons (.asgT [4, 5] (.tup (.cons (.list (.cons (.new (.cons .none .nil)) (.cons (.new (.cons .none .nil)) .nil))) (.cons (.list .nil) .nil)))) ir_law_deal_t2)
noncomputable def nm_law : List Str := ["script", "cells", "manner", "deals", "places", "first", "second", "pairs", "lines", "deal", "line", "place", "product", "due", "ends"]
noncomputable def ps_law : List Str := ["script"]
noncomputable def le_law_1 : X := (.bin .Sub (.bin .Mod (.var 16) (.int 511)) (.int 255))
noncomputable def le_law_2 : X := (.comp le_law_1 1 (.slice (.var 1) (.var 15) (.bin .Add (.var 15) (.var 4))) .nil)
noncomputable def le_law_3 : X := (.var 15)
noncomputable def lb_law_4 : S := (.cons (.ife (.not (.call 14 (.cons (.var 10) (.cons (.bin .FloorDiv (.var 4) (.int 2)) (.cons (.bin .Mod (.bin .Add (.var 2) (.var 9)) (.int 4)) (.cons (.bin .Add (.var 2) (.bin .Mult (.int 5) (.var 9))) .nil)))))) (.cons (.ret .fls) .nil) .nil) .nil)
noncomputable def lb_law_5 : S := (.cons (.for_ [10] (.var 8) lb_law_4) .nil)
noncomputable def lb_law_6_t2 : S := (.cons (.expr (.cm 2 [112, 117, 115, 104, 95, 116, 111, 107, 101, 110] (.idx (.var 8) (.int 0)) (.cons (.call 5 (.cons (.var 12) (.cons (.var 2) .nil))) .nil))) .nil)
noncomputable def lb_law_6 : S := (.cons (.asg 12 (.bin .Mult (.call 6 (.cons (.cm 1 [103, 101, 116, 95, 116, 111, 107, 101, 110] (.idx (.var 8) (.int 0)) .nil) .nil)) (.call 6 (.cons (.cm 1 [103, 101, 116, 95, 116, 111, 107, 101, 110] (.idx (.var 8) (.int 1)) .nil) .nil)))) lb_law_6_t2)
noncomputable def lb_law_7 : S := (.cons (.ife (.not (.call 14 (.cons (.idx (.var 8) (.int 0)) (.cons (.bin .FloorDiv (.var 4) (.int 2)) (.cons (.bin .Mod (.bin .Add (.var 2) (.var 9)) (.int 4)) (.cons (.bin .Add (.var 2) (.bin .Mult (.int 5) (.var 9))) .nil)))))) (.cons (.ret .fls) .nil) .nil) .nil)
noncomputable def le_law_8 : X := (.bin .Mult (.idx (.var 5) (.var 16)) (.idx (.var 6) (.bin .BitXor (.var 16) (.var 15))))
noncomputable def le_law_9 : X := (.bin .Mult (.int 16) (.bcall .sum (.cons (.comp le_law_8 1 (.range (.cons (.var 4) .nil)) .nil) .nil)))
noncomputable def le_law_10 : X := (.call 6 (.cons (.cm 1 [103, 101, 116, 95, 116, 111, 107, 101, 110] (.idx (.var 8) (.int 0)) .nil) .nil))
noncomputable def le_law_11 : X := (.var 15)
noncomputable def lt_law_12 : X := (.boolop .Or (.cons (.cmp .NotEq (.comp le_law_10 1 (.range (.cons (.var 4) .nil)) .nil) (.var 13)) (.cons (.cmp .NotEq (.comp le_law_11 1 (.var 13) (.not (.isb (.call 0 (.cons (.var 15) .nil))))) (.list .nil)) .nil)))
noncomputable def le_law_13 : X := (.cm 1 [103, 101, 116, 95, 116, 111, 107, 101, 110] (.var 15) .nil)
noncomputable def le_law_14 : X := (.bin .Add (.list (.cons (.cm 2 [112, 117, 115, 104, 95, 116, 111, 107, 101, 110] (.var 15) (.cons (.str []) .nil)) .nil)) (.comp le_law_13 1 (.range (.cons (.int 3) .nil)) .nil))
noncomputable def le_law_15 : X := (.list (.cons .none (.cons (.str []) (.cons (.var 16) (.cons (.str []) .nil)))))
noncomputable def ir_law_t15 : S := (.cons (.ret (.cmp .Eq (.var 14) (.comp le_law_15 2 (.var 7) .nil))) .nil)
noncomputable def ir_law_t14 : S := (.cons (.asg 14 (.comp le_law_14 1 (.var 8) .nil)) ir_law_t15)
noncomputable def ir_law_t13 : S := (.cons (.ife lt_law_12 (.cons (.ret .fls) .nil) .nil) ir_law_t14)
noncomputable def ir_law_t12 : S := (.cons (.asg 13 (.comp le_law_9 1 (.range (.cons (.var 4) .nil)) .nil)) ir_law_t13)
noncomputable def ir_law_t11 : S := (.cons (.for_ [9] (.range (.cons (.var 3) (.cons (.int 8) .nil))) lb_law_7) ir_law_t12)
noncomputable def ir_law_t10 : S := (.cons (.for_ [11] (.range (.cons (.var 4) .nil)) lb_law_6) ir_law_t11)
noncomputable def ir_law_t9 : S := (.cons (.for_ [9] (.range (.cons (.var 3) .nil)) lb_law_5) ir_law_t10)
noncomputable def ir_law_t8 : S := (.cons (.ife (.cmp .NotEq (.bcall .len (.cons (.var 8) .nil)) (.int 2)) (.cons (.ret .fls) .nil) .nil) ir_law_t9)
noncomputable def ir_law_t7 : S := (.cons (.asg 8 (.comp le_law_3 2 (.var 7) (.cmp .IsNot (.var 15) .none))) ir_law_t8)
noncomputable def ir_law_t6 : S := (.cons (.asg 7 (.list (.cons (.call 13 (.cons (.var 5) (.cons (.var 2) .nil))) (.cons (.call 13 (.cons (.var 6) (.cons (.bin .FloorDiv (.var 2) (.int 7)) .nil))) .nil)))) ir_law_t7)
noncomputable def ir_law_t5 : S := (.cons (.asgT [5, 6] (.comp le_law_2 1 (.list (.cons (.int 0) (.cons (.int 4) .nil))) .nil)) ir_law_t6)
noncomputable def ir_law_t4 : S := (.cons (.asg 4 (.bin .Pow (.int 2) (.var 3))) ir_law_t5)
noncomputable def ir_law_t3 : S := (.cons (.asg 3 (.bin .Sub (.int 2) (.bin .Mod (.var 2) (.int 2)))) ir_law_t4)
noncomputable def ir_law_t2 : S := (.cons (.asg 2 (.bcall .sum (.cons (.var 1) .nil))) ir_law_t3)
noncomputable def ir_law : S := (.cons (.asg 1 (.call 2 (.cons (.var 0) .nil))) ir_law_t2)
noncomputable def fm_Int2AP : Fm := ⟨nm_Int2AP, scD (stm 1), nm_Int2AP⟩
theorem ck_Int2AP : (chkS tab fm_Int2AP ir_Int2AP).l (bodyD (stm 1)) = true := by decide +kernel
noncomputable def fm_m__init : Fm := ⟨nm_m__init, scD (inCls (stm 6) 0), nm_m__init⟩
theorem ck_m__init : (chkS tab fm_m__init ir_m__init).l (bodyD (inCls (stm 6) 0)) = true := by decide +kernel
noncomputable def fm_m_read_char : Fm := ⟨nm_m_read_char, scD (inCls (stm 6) 1), nm_m_read_char⟩
theorem ck_m_read_char : (chkS tab fm_m_read_char ir_m_read_char).l (bodyD (inCls (stm 6) 1)) = true := by decide +kernel
noncomputable def fm_m_get_token : Fm := ⟨nm_m_get_token, scD (inCls (stm 6) 2), nm_m_get_token⟩
theorem ck_m_get_token : (chkS tab fm_m_get_token ir_m_get_token).l (bodyD (inCls (stm 6) 2)) = true := by decide +kernel
noncomputable def fm_m_push_token : Fm := ⟨nm_m_push_token, scD (inCls (stm 6) 3), nm_m_push_token⟩
theorem ck_m_push_token : (chkS tab fm_m_push_token ir_m_push_token).l (bodyD (inCls (stm 6) 3)) = true := by decide +kernel
noncomputable def fm_law_cells : Fm := ⟨nm_law_cells, scD (stm 11), nm_law_cells⟩
theorem ck_law_cells : (chkS tab fm_law_cells ir_law_cells).l (bodyD (stm 11)) = true := by decide +kernel
noncomputable def fm_law_sign : Fm := ⟨nm_law_sign, scD (stm 12), nm_law_sign⟩
theorem ck_law_sign : (chkS tab fm_law_sign ir_law_sign).l (bodyD (stm 12)) = true := by decide +kernel
noncomputable def fm_law_card : Fm := ⟨nm_law_card, scD (stm 13), nm_law_card⟩
theorem ck_law_card : (chkS tab fm_law_card ir_law_card).l (bodyD (stm 13)) = true := by decide +kernel
noncomputable def fm_law_number : Fm := ⟨nm_law_number, scD (stm 14), nm_law_number⟩
theorem ck_law_number : (chkS tab fm_law_number ir_law_number).l (bodyD (stm 14)) = true := by decide +kernel
noncomputable def fm_law_typed : Fm := ⟨nm_law_typed, scD (stm 16), nm_law_typed⟩
theorem ck_law_typed : (chkS tab fm_law_typed ir_law_typed).l (bodyD (stm 16)) = true := by decide +kernel
noncomputable def fm_law_line : Fm := ⟨nm_law_line, scD (stm 17), nm_law_line⟩
theorem ck_law_line : (chkS tab fm_law_line ir_law_line).l (bodyD (stm 17)) = true := by decide +kernel
noncomputable def fm_law_deal : Fm := ⟨nm_law_deal, scD (stm 18), nm_law_deal⟩
theorem ck_law_deal : (chkS tab fm_law_deal ir_law_deal).l (bodyD (stm 18)) = true := by decide +kernel
noncomputable def fm_law : Fm := ⟨nm_law, scD (stm 19), nm_law⟩
theorem ck_law : (chkS tab fm_law ir_law).l (bodyD (stm 19)) = true := by decide +kernel
end M02.Internal
end

section
set_option Elab.async false
set_option linter.all false
set_option maxRecDepth 100000
set_option maxHeartbeats 0
namespace M02.Internal
noncomputable section
open PySem PySem.W PySem.Calls MI.Internal

noncomputable def Kf (P : Params) : Frag := (K P).filter fun p => !(p.1 == 116)
noncomputable def lexS0 : List Stmt := bodyD (stm 15)
noncomputable def lexHd : Stmt := lexS0.headD (.Pass ⟨0, 0, 0, 0⟩)
noncomputable def lexDef : Stmt := lexS0.getD 1 (.Pass ⟨0, 0, 0, 0⟩)
noncomputable def lexRest : List Stmt := lexS0.drop 2
noncomputable def rdParams : Arguments := if h : lexDef.ctorIdx = 0 then Stmt.FunctionDef.elim (motive_2 := fun _ => Arguments) lexDef h fun _ ps _ _ _ _ _ _ _ _ => ps else default
noncomputable def rdSc : Scope := scD lexDef
noncomputable def rdPos : Pos := ⟨98, 4, 101, 17⟩
noncomputable def rdQn : Str := "_law_lexer.<locals>.read"
noncomputable def pmLaw : Value := .str (Str.ofString "law_wo0012_02") 341
noncomputable def bs (w : World) (h₀ : Heap) (os : OsState) (scr : Obj) : Base :=
  { p := pw, w := w, h₀ := h₀, tb := 116, os := os, cls := 66, fd := fun c k => fnX "read" rdQn rdParams (bodyD lexDef) rdSc [(("signs" : Str), c)] .none .none .none pmLaw none k .none, qn := rdQn, rc := 49, pos := rdPos, scr := scr }
theorem len0 {β : Type} {l : List β} {n : Nat} (h : l.length = n + 1) : ∃ a m, l = a :: m ∧ m.length = n := by
  cases l with
  | nil => cases h
  | cons a l => exact ⟨a, l, rfl, Nat.succ.inj h⟩
theorem len1 {β : Type} {l : List β} (h : l.length = 1) : ∃ a, l = [a] := List.length_eq_one_iff.mp h
theorem len2 {β : Type} {l : List β} (h : l.length = 2) : ∃ a b, l = [a, b] := by
  obtain ⟨a, m, rfl, q⟩ := len0 h
  obtain ⟨b, rfl⟩ := len1 q
  exact ⟨a, b, rfl⟩
theorem len3 {β : Type} {l : List β} (h : l.length = 3) : ∃ a b c, l = [a, b, c] := by
  obtain ⟨a, m, rfl, q⟩ := len0 h
  obtain ⟨b, c, rfl⟩ := len2 q
  exact ⟨a, b, c, rfl⟩
theorem len4 {β : Type} {l : List β} (h : l.length = 4) : ∃ a b c d, l = [a, b, c, d] := by
  obtain ⟨a, m, rfl, q⟩ := len0 h
  obtain ⟨b, c, d, rfl⟩ := len3 q
  exact ⟨a, b, c, d, rfl⟩
noncomputable def Al3 {β γ δ : Type} (P : β → γ → δ → Prop) : List (β × γ × δ) → Prop
  | [] => True
  | p :: l => P p.1 p.2.1 p.2.2 ∧ Al3 P l
theorem Al3.mem {β γ δ : Type} {P : β → γ → δ → Prop} : ∀ {l : List (β × γ × δ)}, Al3 P l → ∀ x f a, (x, f, a) ∈ l → P x f a
  | p :: l, h, x, f, a, m => (List.mem_cons.mp m).elim (fun e => by subst e; exact h.1) (fun m => Al3.mem h.2 x f a m)
theorem lexBody : lexS0 = lexHd :: .FunctionDef "read" rdParams (bodyD lexDef) [] none [] rdSc none "read" rdPos :: lexRest := by kernel_rfl
noncomputable def rdP (i : Nat) : Pos := ([⟨99, 11, 99, 15⟩, ⟨99, 19, 99, 20⟩, ⟨99, 11, 99, 20⟩, ⟨99, 25, 99, 30⟩, ⟨99, 11, 99, 30⟩, ⟨100, 19, 100, 24⟩, ⟨100, 19, 100, 28⟩, ⟨100, 29, 100, 30⟩, ⟨100, 19, 100, 31⟩, ⟨100, 12, 100, 31⟩, ⟨99, 8, 100, 31⟩, ⟨101, 15, 101, 17⟩, ⟨101, 8, 101, 17⟩] : List Pos).getD i ⟨0, 0, 0, 0⟩
theorem rdBodyE : bodyD lexDef = rdBody rdP := by kernel_rfl
theorem rdFn (w : World) (h₀ : Heap) (os : OsState) (scr : Obj) : RdFn (bs w h₀ os scr) where
  body := ⟨rdP, fun c k => by rw [← rdBodyE]; rfl, by kernel_rfl⟩
  co := fun _ _ => by kernel_rfl
  gen := fun _ _ => by kernel_rfl
  fn := fun _ _ => by kernel_rfl
  clo := fun _ _ => rfl
  code := fun _ _ => rfl
  qn := fun _ _ => rfl
  nocell := fun c k x hx => by
    have h : ∀ y ∈ rdSc.names, y.2 ≠ .cell := by decide +kernel
    exact h x hx
  ks := fun _ _ => by kernel_rfl
  kf := fun _ _ => by kernel_rfl
  bind := fun _ _ _ _ _ => by kernel_rfl

noncomputable def gP (i : Nat) : Pos := ([⟨15, 11, 15, 19⟩, ⟨15, 23, 15, 31⟩, ⟨15, 11, 15, 31⟩, ⟨16, 12, 16, 18⟩, ⟨15, 8, 16, 18⟩, ⟨17, 11, 17, 19⟩, ⟨17, 23, 17, 24⟩, ⟨17, 11, 17, 24⟩, ⟨18, 15, 18, 28⟩, ⟨18, 32, 18, 36⟩, ⟨18, 15, 18, 36⟩, ⟨18, 12, 19, 52⟩, ⟨20, 18, 20, 22⟩, ⟨21, 22, 21, 35⟩, ⟨21, 16, 21, 35⟩, ⟨21, 16, 21, 35⟩, ⟨20, 12, 21, 35⟩, ⟨17, 8, 21, 35⟩, ⟨22, 14, 22, 22⟩, ⟨22, 8, 22, 22⟩, ⟨22, 8, 22, 22⟩, ⟨23, 8, 23, 21⟩, ⟨23, 24, 23, 32⟩, ⟨23, 8, 23, 32⟩, ⟨13, 4, 13, 17⟩, ⟨13, 20, 13, 24⟩, ⟨13, 4, 13, 24⟩, ⟨14, 8, 14, 16⟩, ⟨14, 20, 14, 28⟩, ⟨14, 4, 23, 32⟩] : List Pos).getD i ⟨0, 0, 0, 0⟩
noncomputable def forB (s : Stmt) : List Stmt := if h : s.ctorIdx = 9 then Stmt.For.elim (motive_2 := fun _ => List Stmt) s h fun _ _ b _ _ => b else []
noncomputable def ifB (s : Stmt) : List Stmt := if h : s.ctorIdx = 12 then Stmt.If.elim (motive_2 := fun _ => List Stmt) s h fun _ b _ _ => b else []
noncomputable def nth (l : List Stmt) (i : Nat) : Stmt := l.getD i (.Pass ⟨0, 0, 0, 0⟩)
noncomputable def gRz (l : List Stmt) : List Stmt := ifB (nth (ifB (nth (forB (nth l 1)) 1)) 0)
noncomputable def gStm : Stmt := stm 4
theorem gBodyE : bodyD gStm = gBody gP (gRz (bodyD gStm)) := by kernel_rfl
noncomputable def fd_gen : FuncData := (fdat (stm 4) (Str.ofString "_grouping_intervals") 3 (.str (Str.ofString "cpy313.locale") 199) (.ref 27) 0)
theorem gFn (P : Params) : GFn (Kf P) 28 fd_gen where
  ns := by kernel_rfl
  keep := by kernel_rfl
  at_ := ⟨.type "function", none, #[], by kernel_rfl⟩
  code := by kernel_rfl
  body := ⟨_, _, (congrArg FuncBody.stmts gBodyE : _)⟩
  co := by kernel_rfl
  gen := by kernel_rfl
  fn := by kernel_rfl
  glob := by kernel_rfl
  clo := by kernel_rfl
  nocell := by decide +kernel
  kg := by kernel_rfl
  kl := by kernel_rfl
  ki := by kernel_rfl
  kc := by kernel_rfl
  bind := fun _ => by kernel_rfl
  mc := ⟨201, by kernel_rfl⟩

noncomputable def fd_Int2AP : FuncData := (fdat (stm 1) (Str.ofString "Int2AP") 3 (.str (Str.ofString "cpy313.imaplib") 187) (.ref 20) 0)
noncomputable def df_Int2AP : Dfn := ⟨ir_Int2AP, 1, 4⟩
theorem do_Int2AP (P : Params) : DefOk (Kf P) 21 fd_Int2AP ps_Int2AP fm_Int2AP (bodyD (stm 1)) where
  at_ := ⟨.type "function", none, #[], by kernel_rfl⟩
  code := by kernel_rfl
  body := by kernel_rfl
  sc := by kernel_rfl
  glob := by kernel_rfl
  blt := by kernel_rfl
  clo := by kernel_rfl
  co := by kernel_rfl
  gen := by kernel_rfl
  fn := by kernel_rfl
  bind := fun cs h => by
    obtain ⟨_, rfl⟩ := len1 h
    kernel_rfl
  nd := by decide +kernel
  pre := ⟨nm_Int2AP.drop 1, by kernel_rfl⟩
  par := by decide +kernel
  free := by decide +kernel
theorem fo_Int2AP (P : Params) : FnOk tab (Kf P) 21 df_Int2AP := ⟨⟨_, _, _, _, do_Int2AP P, ck_Int2AP, rfl, rfl⟩⟩
noncomputable def fd_m__init : FuncData := (fdat (inCls (stm 6) 0) (Str.ofString "_netrclex.__init__") 3 (.str (Str.ofString "cpy313.netrc") 212) (.ref 41) 0)
noncomputable def df_m__init : Dfn := ⟨ir_m__init, 2, 2⟩
theorem do_m__init (P : Params) : DefOk (Kf P) 42 fd_m__init ps_m__init fm_m__init (bodyD (inCls (stm 6) 0)) where
  at_ := ⟨.type "function", none, #[], by kernel_rfl⟩
  code := by kernel_rfl
  body := by kernel_rfl
  sc := by kernel_rfl
  glob := by kernel_rfl
  blt := by kernel_rfl
  clo := by kernel_rfl
  co := by kernel_rfl
  gen := by kernel_rfl
  fn := by kernel_rfl
  bind := fun cs h => by
    obtain ⟨_, _, rfl⟩ := len2 h
    kernel_rfl
  nd := by decide +kernel
  pre := ⟨nm_m__init.drop 2, by kernel_rfl⟩
  par := by decide +kernel
  free := by decide +kernel
theorem fo_m__init (P : Params) : FnOk tab (Kf P) 42 df_m__init := ⟨⟨_, _, _, _, do_m__init P, ck_m__init, rfl, rfl⟩⟩
noncomputable def fd_m_read_char : FuncData := (fdat (inCls (stm 6) 1) (Str.ofString "_netrclex._read_char") 3 (.str (Str.ofString "cpy313.netrc") 212) (.ref 48) 0)
noncomputable def df_m_read_char : Dfn := ⟨ir_m_read_char, 1, 2⟩
theorem do_m_read_char (P : Params) : DefOk (Kf P) 49 fd_m_read_char ps_m_read_char fm_m_read_char (bodyD (inCls (stm 6) 1)) where
  at_ := ⟨.type "function", none, #[], by kernel_rfl⟩
  code := by kernel_rfl
  body := by kernel_rfl
  sc := by kernel_rfl
  glob := by kernel_rfl
  blt := by kernel_rfl
  clo := by kernel_rfl
  co := by kernel_rfl
  gen := by kernel_rfl
  fn := by kernel_rfl
  bind := fun cs h => by
    obtain ⟨_, rfl⟩ := len1 h
    kernel_rfl
  nd := by decide +kernel
  pre := ⟨nm_m_read_char.drop 1, by kernel_rfl⟩
  par := by decide +kernel
  free := by decide +kernel
theorem fo_m_read_char (P : Params) : FnOk tab (Kf P) 49 df_m_read_char := ⟨⟨_, _, _, _, do_m_read_char P, ck_m_read_char, rfl, rfl⟩⟩
noncomputable def fd_m_get_token : FuncData := (fdat (inCls (stm 6) 2) (Str.ofString "_netrclex.get_token") 3 (.str (Str.ofString "cpy313.netrc") 212) (.ref 55) 0)
noncomputable def df_m_get_token : Dfn := ⟨ir_m_get_token, 1, 4⟩
theorem do_m_get_token (P : Params) : DefOk (Kf P) 56 fd_m_get_token ps_m_get_token fm_m_get_token (bodyD (inCls (stm 6) 2)) where
  at_ := ⟨.type "function", none, #[], by kernel_rfl⟩
  code := by kernel_rfl
  body := by kernel_rfl
  sc := by kernel_rfl
  glob := by kernel_rfl
  blt := by kernel_rfl
  clo := by kernel_rfl
  co := by kernel_rfl
  gen := by kernel_rfl
  fn := by kernel_rfl
  bind := fun cs h => by
    obtain ⟨_, rfl⟩ := len1 h
    kernel_rfl
  nd := by decide +kernel
  pre := ⟨nm_m_get_token.drop 1, by kernel_rfl⟩
  par := by decide +kernel
  free := by decide +kernel
theorem fo_m_get_token (P : Params) : FnOk tab (Kf P) 56 df_m_get_token := ⟨⟨_, _, _, _, do_m_get_token P, ck_m_get_token, rfl, rfl⟩⟩
noncomputable def fd_m_push_token : FuncData := (fdat (inCls (stm 6) 3) (Str.ofString "_netrclex.push_token") 3 (.str (Str.ofString "cpy313.netrc") 212) (.ref 62) 0)
noncomputable def df_m_push_token : Dfn := ⟨ir_m_push_token, 2, 2⟩
theorem do_m_push_token (P : Params) : DefOk (Kf P) 63 fd_m_push_token ps_m_push_token fm_m_push_token (bodyD (inCls (stm 6) 3)) where
  at_ := ⟨.type "function", none, #[], by kernel_rfl⟩
  code := by kernel_rfl
  body := by kernel_rfl
  sc := by kernel_rfl
  glob := by kernel_rfl
  blt := by kernel_rfl
  clo := by kernel_rfl
  co := by kernel_rfl
  gen := by kernel_rfl
  fn := by kernel_rfl
  bind := fun cs h => by
    obtain ⟨_, _, rfl⟩ := len2 h
    kernel_rfl
  nd := by decide +kernel
  pre := ⟨nm_m_push_token.drop 2, by kernel_rfl⟩
  par := by decide +kernel
  free := by decide +kernel
theorem fo_m_push_token (P : Params) : FnOk tab (Kf P) 63 df_m_push_token := ⟨⟨_, _, _, _, do_m_push_token P, ck_m_push_token, rfl, rfl⟩⟩
noncomputable def fd_law_cells : FuncData := (fdat (stm 11) (Str.ofString "_law_cells") 3 (.str (Str.ofString "law_wo0012_02") 341) (.ref 94) 0)
noncomputable def df_law_cells : Dfn := ⟨ir_law_cells, 1, 3⟩
theorem do_law_cells (P : Params) : DefOk (Kf P) 95 fd_law_cells ps_law_cells fm_law_cells (bodyD (stm 11)) where
  at_ := ⟨.type "function", none, #[], by kernel_rfl⟩
  code := by kernel_rfl
  body := by kernel_rfl
  sc := by kernel_rfl
  glob := by kernel_rfl
  blt := by kernel_rfl
  clo := by kernel_rfl
  co := by kernel_rfl
  gen := by kernel_rfl
  fn := by kernel_rfl
  bind := fun cs h => by
    obtain ⟨_, rfl⟩ := len1 h
    kernel_rfl
  nd := by decide +kernel
  pre := ⟨nm_law_cells.drop 1, by kernel_rfl⟩
  par := by decide +kernel
  free := by decide +kernel
theorem fo_law_cells (P : Params) : FnOk tab (Kf P) 95 df_law_cells := ⟨⟨_, _, _, _, do_law_cells P, ck_law_cells, rfl, rfl⟩⟩
noncomputable def fd_law_sign : FuncData := (fdat (stm 12) (Str.ofString "_law_sign") 3 (.str (Str.ofString "law_wo0012_02") 341) (.ref 101) 0)
noncomputable def df_law_sign : Dfn := ⟨ir_law_sign, 2, 4⟩
theorem do_law_sign (P : Params) : DefOk (Kf P) 102 fd_law_sign ps_law_sign fm_law_sign (bodyD (stm 12)) where
  at_ := ⟨.type "function", none, #[], by kernel_rfl⟩
  code := by kernel_rfl
  body := by kernel_rfl
  sc := by kernel_rfl
  glob := by kernel_rfl
  blt := by kernel_rfl
  clo := by kernel_rfl
  co := by kernel_rfl
  gen := by kernel_rfl
  fn := by kernel_rfl
  bind := fun cs h => by
    obtain ⟨_, _, rfl⟩ := len2 h
    kernel_rfl
  nd := by decide +kernel
  pre := ⟨nm_law_sign.drop 2, by kernel_rfl⟩
  par := by decide +kernel
  free := by decide +kernel
theorem fo_law_sign (P : Params) : FnOk tab (Kf P) 102 df_law_sign := ⟨⟨_, _, _, _, do_law_sign P, ck_law_sign, rfl, rfl⟩⟩
noncomputable def fd_law_card : FuncData := (fdat (stm 13) (Str.ofString "_law_card") 3 (.str (Str.ofString "law_wo0012_02") 341) (.ref 106) 0)
noncomputable def df_law_card : Dfn := ⟨ir_law_card, 2, 2⟩
theorem do_law_card (P : Params) : DefOk (Kf P) 107 fd_law_card ps_law_card fm_law_card (bodyD (stm 13)) where
  at_ := ⟨.type "function", none, #[], by kernel_rfl⟩
  code := by kernel_rfl
  body := by kernel_rfl
  sc := by kernel_rfl
  glob := by kernel_rfl
  blt := by kernel_rfl
  clo := by kernel_rfl
  co := by kernel_rfl
  gen := by kernel_rfl
  fn := by kernel_rfl
  bind := fun cs h => by
    obtain ⟨_, _, rfl⟩ := len2 h
    kernel_rfl
  nd := by decide +kernel
  pre := ⟨nm_law_card.drop 2, by kernel_rfl⟩
  par := by decide +kernel
  free := by decide +kernel
theorem fo_law_card (P : Params) : FnOk tab (Kf P) 107 df_law_card := ⟨⟨_, _, _, _, do_law_card P, ck_law_card, rfl, rfl⟩⟩
noncomputable def fd_law_number : FuncData := (fdat (stm 14) (Str.ofString "_law_number") 3 (.str (Str.ofString "law_wo0012_02") 341) (.ref 113) 0)
noncomputable def df_law_number : Dfn := ⟨ir_law_number, 1, 4⟩
theorem do_law_number (P : Params) : DefOk (Kf P) 114 fd_law_number ps_law_number fm_law_number (bodyD (stm 14)) where
  at_ := ⟨.type "function", none, #[], by kernel_rfl⟩
  code := by kernel_rfl
  body := by kernel_rfl
  sc := by kernel_rfl
  glob := by kernel_rfl
  blt := by kernel_rfl
  clo := by kernel_rfl
  co := by kernel_rfl
  gen := by kernel_rfl
  fn := by kernel_rfl
  bind := fun cs h => by
    obtain ⟨_, rfl⟩ := len1 h
    kernel_rfl
  nd := by decide +kernel
  pre := ⟨nm_law_number.drop 1, by kernel_rfl⟩
  par := by decide +kernel
  free := by decide +kernel
theorem fo_law_number (P : Params) : FnOk tab (Kf P) 114 df_law_number := ⟨⟨_, _, _, _, do_law_number P, ck_law_number, rfl, rfl⟩⟩
noncomputable def fd_law_typed : FuncData := (fdat (stm 16) (Str.ofString "_law_typed") 3 (.str (Str.ofString "law_wo0012_02") 341) (.ref 127) 0)
noncomputable def df_law_typed : Dfn := ⟨ir_law_typed, 2, 6⟩
theorem do_law_typed (P : Params) : DefOk (Kf P) 128 fd_law_typed ps_law_typed fm_law_typed (bodyD (stm 16)) where
  at_ := ⟨.type "function", none, #[], by kernel_rfl⟩
  code := by kernel_rfl
  body := by kernel_rfl
  sc := by kernel_rfl
  glob := by kernel_rfl
  blt := by kernel_rfl
  clo := by kernel_rfl
  co := by kernel_rfl
  gen := by kernel_rfl
  fn := by kernel_rfl
  bind := fun cs h => by
    obtain ⟨_, _, rfl⟩ := len2 h
    kernel_rfl
  nd := by decide +kernel
  pre := ⟨nm_law_typed.drop 2, by kernel_rfl⟩
  par := by decide +kernel
  free := by decide +kernel
theorem fo_law_typed (P : Params) : FnOk tab (Kf P) 128 df_law_typed := ⟨⟨_, _, _, _, do_law_typed P, ck_law_typed, rfl, rfl⟩⟩
noncomputable def fd_law_line : FuncData := (fdat (stm 17) (Str.ofString "_law_line") 3 (.str (Str.ofString "law_wo0012_02") 341) (.ref 132) 0)
noncomputable def df_law_line : Dfn := ⟨ir_law_line, 2, 6⟩
theorem do_law_line (P : Params) : DefOk (Kf P) 133 fd_law_line ps_law_line fm_law_line (bodyD (stm 17)) where
  at_ := ⟨.type "function", none, #[], by kernel_rfl⟩
  code := by kernel_rfl
  body := by kernel_rfl
  sc := by kernel_rfl
  glob := by kernel_rfl
  blt := by kernel_rfl
  clo := by kernel_rfl
  co := by kernel_rfl
  gen := by kernel_rfl
  fn := by kernel_rfl
  bind := fun cs h => by
    obtain ⟨_, _, rfl⟩ := len2 h
    kernel_rfl
  nd := by decide +kernel
  pre := ⟨nm_law_line.drop 2, by kernel_rfl⟩
  par := by decide +kernel
  free := by decide +kernel
theorem fo_law_line (P : Params) : FnOk tab (Kf P) 133 df_law_line := ⟨⟨_, _, _, _, do_law_line P, ck_law_line, rfl, rfl⟩⟩
noncomputable def fd_law_deal : FuncData := (fdat (stm 18) (Str.ofString "_law_deal") 3 (.str (Str.ofString "law_wo0012_02") 341) (.ref 139) 0)
noncomputable def df_law_deal : Dfn := ⟨ir_law_deal, 4, 10⟩
theorem do_law_deal (P : Params) : DefOk (Kf P) 140 fd_law_deal ps_law_deal fm_law_deal (bodyD (stm 18)) where
  at_ := ⟨.type "function", none, #[], by kernel_rfl⟩
  code := by kernel_rfl
  body := by kernel_rfl
  sc := by kernel_rfl
  glob := by kernel_rfl
  blt := by kernel_rfl
  clo := by kernel_rfl
  co := by kernel_rfl
  gen := by kernel_rfl
  fn := by kernel_rfl
  bind := fun cs h => by
    obtain ⟨_, _, _, _, rfl⟩ := len4 h
    kernel_rfl
  nd := by decide +kernel
  pre := ⟨nm_law_deal.drop 4, by kernel_rfl⟩
  par := by decide +kernel
  free := by decide +kernel
theorem fo_law_deal (P : Params) : FnOk tab (Kf P) 140 df_law_deal := ⟨⟨_, _, _, _, do_law_deal P, ck_law_deal, rfl, rfl⟩⟩
noncomputable def fd_law : FuncData := (fdat (stm 19) (Str.ofString "law") 3 (.str (Str.ofString "law_wo0012_02") 341) (.ref 144) 0)
noncomputable def df_law : Dfn := ⟨ir_law, 1, 15⟩
theorem do_law (P : Params) : DefOk (Kf P) 145 fd_law ps_law fm_law (bodyD (stm 19)) where
  at_ := ⟨.type "function", none, #[], by kernel_rfl⟩
  code := by kernel_rfl
  body := by kernel_rfl
  sc := by kernel_rfl
  glob := by kernel_rfl
  blt := by kernel_rfl
  clo := by kernel_rfl
  co := by kernel_rfl
  gen := by kernel_rfl
  fn := by kernel_rfl
  bind := fun cs h => by
    obtain ⟨_, rfl⟩ := len1 h
    kernel_rfl
  nd := by decide +kernel
  pre := ⟨nm_law.drop 1, by kernel_rfl⟩
  par := by decide +kernel
  free := by decide +kernel
theorem fo_law (P : Params) : FnOk tab (Kf P) 145 df_law := ⟨⟨_, _, _, _, do_law P, ck_law, rfl, rfl⟩⟩
noncomputable def hand (f : Nat) (Φ : Con) (vs : List V) (σ : Sto) (K : VK) : Prop := match f with
  | 1 => ∃ c, vs = [.str [c]] ∧ K (.bool (inB1 c)) σ
  | 7 => lexS Φ vs σ K
  | _ => False
noncomputable def dfs : Defs where
  fn := fun f => match f with
    | 0 => some df_Int2AP
    | 2 => some df_law_cells
    | 3 => some df_law_sign
    | 5 => some df_law_card
    | 6 => some df_law_number
    | 8 => some df_law_typed
    | 13 => some df_law_line
    | 14 => some df_law_deal
    | 15 => some df_law
    | _ => none
  me := fun f => match f with
    | 0 => some df_m_read_char
    | 1 => some df_m_get_token
    | 2 => some df_m_push_token
    | _ => none
  ini := df_m__init
  hand := hand
end
end M02.Internal
end

section
set_option Elab.async false
set_option linter.all false
set_option maxRecDepth 100000
set_option maxHeartbeats 0
namespace M02.Internal
noncomputable section
open PySem PySem.W PySem.W.X PyProof.Rows PySem.Calls MI.Internal

theorem lookup_filter {tb : Addr} : ∀ {K : Frag} {a : Addr} {o : Obj}, (K.filter fun p => !(p.1 == tb)).lookup a = some o → a ≠ tb ∧ K.lookup a = some o
  | [], _, _, h => by cases h
  | p :: K, a, o, h => by
    rw [List.filter_cons] at h
    split at h
    · rename_i hp
      rw [List.lookup_cons] at h ⊢
      by_cases q : a == p.1
      · rw [q] at h ⊢
        refine ⟨fun e => ?_, h⟩
        rw [e] at q
        have q' : tb = p.1 := beq_iff_eq.mp q
        rw [← q'] at hp
        simp at hp
      · rw [show (a == p.1) = false by simpa using q] at h ⊢
        exact lookup_filter h
    · rename_i hp
      obtain ⟨h1, h2⟩ := lookup_filter h
      refine ⟨h1, ?_⟩
      rw [List.lookup_cons]
      have q' : p.1 = tb := by simpa using hp
      rw [show (a == p.1) = false by rw [q']; simpa using h1]
      exact h2
theorem fnAll (P : Params) : ∀ x f a, (x, f, a) ∈ tab.fn → nsIn (Kf P) mainGlobals x = some (some (.ref a)) ∧ keepIn (Kf P) (.ref a) = true := by
  exact Al3.mem (l := tab.fn) (And.intro (⟨by kernel_rfl, by kernel_rfl⟩) (And.intro (⟨by kernel_rfl, by kernel_rfl⟩) (And.intro (⟨by kernel_rfl, by kernel_rfl⟩) (And.intro (⟨by kernel_rfl, by kernel_rfl⟩) (And.intro (⟨by kernel_rfl, by kernel_rfl⟩) (And.intro (⟨by kernel_rfl, by kernel_rfl⟩) (And.intro (⟨by kernel_rfl, by kernel_rfl⟩) (And.intro (⟨by kernel_rfl, by kernel_rfl⟩) (And.intro (⟨by kernel_rfl, by kernel_rfl⟩) (And.intro (⟨by kernel_rfl, by kernel_rfl⟩) (And.intro (⟨by kernel_rfl, by kernel_rfl⟩) trivial)))))))))))
theorem meAll (P : Params) : ∀ x m a, (x, m, a) ∈ tab.me → findIn (Kf P) (.ref 66) (nm x) = some (some (.ref a)) ∧ isFn (Kf P) (.ref a) = true ∧ keepIn (Kf P) (.ref a) = true := by
  exact Al3.mem (l := tab.me) (And.intro (⟨by kernel_rfl, by kernel_rfl, by kernel_rfl⟩) (And.intro (⟨by kernel_rfl, by kernel_rfl, by kernel_rfl⟩) (And.intro (⟨by kernel_rfl, by kernel_rfl, by kernel_rfl⟩) trivial)))
theorem attAll (P : Params) : ∀ x, x ∈ tab.att → findIn (Kf P) (.ref 66) (nm x) = some none := by
  intro x h
  simp only [tab, List.mem_cons, List.not_mem_nil, or_false] at h
  rcases h with rfl | rfl | rfl | rfl | rfl <;> kernel_rfl
theorem tabOk (w : World) (h₀ : Heap) (os : OsState) (scr : Obj) : TabOk (bs w h₀ os scr) (Kf w.params) tab where
  cls := ⟨by kernel_rfl, by kernel_rfl, by kernel_rfl, by kernel_rfl⟩
  fn := fnAll _
  me := meAll _
  att := attAll _
  new := ⟨by kernel_rfl, by kernel_rfl⟩
  blt := fun f => by cases f <;> kernel_rfl
  rc := ⟨by kernel_rfl, by kernel_rfl, by kernel_rfl, by kernel_rfl, by kernel_rfl, by kernel_rfl, by kernel_rfl⟩
  more := ⟨by kernel_rfl, by kernel_rfl, by kernel_rfl⟩

/-! the set -/
noncomputable def setEs (P : Params) : Array (Int × Value) := match (o78 P).data with
  | .set es _ _ => es
  | _ => #[]
noncomputable def setEp (P : Params) : Nat := match (o78 P).data with
  | .set _ ep _ => ep
  | _ => 0
noncomputable def setTb (P : Params) : SetTable := match (o78 P).data with
  | .set _ _ t => t
  | _ => default
noncomputable def setN : List Nat := [173, 847, 6150, 6155, 6156, 6157, 8203, 8204, 8205, 8288, 65279] ++ List.range' 65024 16
noncomputable def setR : List Int := [65024, 65025, 65026, 65027, 65028, 65029, 6150, 65030, 65031, 65032, 65033, 6155, 6156, 6157, 8203, 8204, 8205, 65034, 65035, 65036, 65037, 65038, 65039, 173, 847, 8288, 65279]
noncomputable def setVals (P : Params) : List Int := (setEs P).toList.map fun e => match e.2 with | .int j _ => j | _ => 0
theorem setVals_eq (P : Params) : setVals P = setR := by kernel_rfl
theorem setR_perm : setR.Perm (setN.map Int.ofNat) := List.isPerm_iff.mp (by decide +kernel)
theorem setInts (P : Params) : ∀ e ∈ (setEs P).toList, ∃ j t, e.2 = .int j t ∧ e.1 = hashInt j := by
  have h : ((setEs P).toList.all fun e => match e.2 with | .int j _ => e.1 == hashInt j | _ => false) = true := by kernel_rfl
  intro e he
  have := List.all_eq_true.mp h e he
  obtain ⟨a, v⟩ := e
  cases v <;> first | exact absurd this Bool.false_ne_true | skip
  exact ⟨_, _, rfl, by simpa using this⟩
theorem setHas (P : Params) (k : Int) : (setEs P).toList.any (fun e => Value.isInt k e.2) = (setVals P).contains k := by
  rw [Bool.eq_iff_iff, List.any_eq_true, List.contains_iff_mem, setVals, List.mem_map]
  constructor
  · rintro ⟨e, he, h⟩
    obtain ⟨j, t, hj, _⟩ := setInts P e he
    refine ⟨e, he, ?_⟩
    rw [hj] at h ⊢
    simpa [Value.isInt] using h
  · rintro ⟨e, he, h⟩
    obtain ⟨j, t, hj, _⟩ := setInts P e he
    refine ⟨e, he, ?_⟩
    rw [hj] at h ⊢
    simpa [Value.isInt] using h
theorem setOk (w : World) (h : Heap) (X : (Kf w.params).In h) : h.SetOf (intKind pw w) 78 (fun k => (setVals w.params).contains k) 27 := by
  refine ⟨_, setEs w.params, setEp w.params, setTb w.params, X 78 (o78 w.params) (by kernel_rfl), ⟨by kernel_rfl, by kernel_rfl, by kernel_rfl⟩, by kernel_rfl, fun e he => ?_, fun k => ?_, ?_, by kernel_rfl, by kernel_rfl⟩
  · obtain ⟨j, t, h1, h2⟩ := setInts _ e he
    exact ⟨⟨j, by rw [h1]; simp [intKind, Value.isInt], h2⟩, by rw [h1]; rfl⟩
  · show (setVals w.params).contains k = true ↔ _
    rw [← setHas, List.any_eq_true]
    exact Iff.rfl
  · have : (setEs w.params).size = 27 := by kernel_rfl
    rw [this]; decide
theorem setB1 (w : World) (c : Nat) : (setVals w.params).contains (c : Int) = inB1 c := by
  rw [setVals_eq, Bool.eq_iff_iff, List.contains_iff_mem, setR_perm.mem_iff, List.mem_map, inB1, Bool.or_eq_true, List.contains_iff_mem, Bool.and_eq_true, Nat.ble_eq, Nat.blt_eq]
  constructor
  · rintro ⟨a, ha, e⟩
    cases Int.ofNat.inj e
    exact (List.mem_append.mp ha).imp id fun h => List.mem_range'_1.mp h
  · exact fun h => ⟨c, List.mem_append.mpr (h.imp id fun h => List.mem_range'_1.mpr h), rfl⟩

/-! the table's look-up -/
noncomputable def b1S : List Stmt := bodyD (stm 9)
noncomputable def b1E : Expr := .Call (.Name "ord" ⟨71, 11, 71, 14⟩) [.Name "code" ⟨71, 15, 71, 19⟩] [] ⟨71, 11, 71, 20⟩
theorem b1Body : b1S = [.Return (some (.Compare b1E [.In] [.Name "b1_set" ⟨71, 24, 71, 30⟩] ⟨71, 11, 71, 30⟩)) ⟨71, 4, 71, 30⟩] := by kernel_rfl
noncomputable def fm_b1 : Fm := ⟨["code"], scD (stm 9), ["code"]⟩
noncomputable def fd_b1 : FuncData := (fdat (stm 9) (Str.ofString "in_table_b1") 3 (.str (Str.ofString "cpy313.stringprep") 272) (.ref 87) 0)
theorem do_b1 (P : Params) : DefOk (Kf P) 88 fd_b1 ["code"] fm_b1 [.Return (some (.Compare b1E [.In] [.Name "b1_set" ⟨71, 24, 71, 30⟩] ⟨71, 11, 71, 30⟩)) ⟨71, 4, 71, 30⟩] where
  at_ := ⟨.type "function", none, #[], by kernel_rfl⟩
  code := by kernel_rfl
  body := by kernel_rfl
  sc := by kernel_rfl
  glob := by kernel_rfl
  blt := by kernel_rfl
  clo := by kernel_rfl
  co := by kernel_rfl
  gen := by kernel_rfl
  fn := by kernel_rfl
  bind := fun cs h => by
    obtain ⟨_, rfl⟩ := len1 h
    kernel_rfl
  nd := by decide +kernel
  pre := ⟨[], by kernel_rfl⟩
  par := by decide +kernel
  free := by decide +kernel
theorem ck_b1 : (chk tab ordX fm_b1).e b1E = true := by decide +kernel
theorem gl_b1 : glob fm_b1 "b1_set" = true := by decide +kernel

/-! the lexer -/
noncomputable def fd_lex : FuncData := (fdat (stm 15) (Str.ofString "_law_lexer") 3 (.str (Str.ofString "law_wo0012_02") 341) (.ref 120) 0)
theorem do_lex (P : Params) : DefOk (Kf P) 121 fd_lex ["text"] (lexG fd_lex.scope) (lexHd :: .FunctionDef "read" rdParams (bodyD lexDef) [] none [] rdSc none "read" rdPos :: lexRest) where
  at_ := ⟨.type "function", none, #[], by kernel_rfl⟩
  code := by kernel_rfl
  body := by kernel_rfl
  sc := by kernel_rfl
  glob := by kernel_rfl
  blt := by kernel_rfl
  clo := by kernel_rfl
  co := by kernel_rfl
  gen := by kernel_rfl
  fn := by kernel_rfl
  bind := fun cs h => by
    obtain ⟨_, rfl⟩ := len1 h
    kernel_rfl
  nd := by decide +kernel
  pre := ⟨_, rfl⟩
  par := by decide +kernel
  free := by decide +kernel
theorem codeHd (w : World) (h : Heap) (X : (Kf w.params).In h) : CodeHd h 120 116 :=
  ⟨o120 w.params, _, _, _, _, _, _, _, _, X 120 (o120 w.params) (by kernel_rfl), rfl, rfl, rfl, rfl, rfl, rfl, rfl, rfl, by decide⟩
theorem isCell_of {k : Option NameKind} (h : isCell k) : (k == some .cell || k == some .free) = true := by
  rcases h with h | h <;> rw [h] <;> rfl
theorem lexFn (w : World) (h₀ : Heap) (os : OsState) (scr : Obj) (mg : Str → Option Value) (hm : ∃ t, mg "__name__" = some (.str (Str.ofString "law_wo0012_02") t)) (hn : (mg "__name__").getD .none = pmLaw)
    (hb : mg "__builtins__" = some (.ref 4)) : LexFn (bs w h₀ os scr) (Kf w.params) tab mg 121 fd_lex lexHd rdParams (bodyD lexDef) rdSc lexRest where
  d := do_lex _
  q1 := by decide +kernel
  qr := by decide +kernel
  k1 := by kernel_rfl
  kR := by kernel_rfl
  kE := by kernel_rfl
  kc := fun x hx h => by
    have k : (lexNames.all fun x => !(fd_lex.scope.names.lookup x == some .cell || fd_lex.scope.names.lookup x == some .free) || x == "signs") = true := by decide +kernel
    have := List.all_eq_true.mp k x hx
    rw [isCell_of h] at this
    simpa using this
  fdB := fun c k ctv doc => by rw [hn]; rfl
  code := ⟨120, by kernel_rfl, fun h X => codeHd w h X⟩
  bat := fun h X => ⟨4, boot_o_4 w.params, hb, by decide, by decide, (show (4 : Nat) ≠ 116 by decide), X 4 _ (by kernel_rfl), by kernel_rfl, by kernel_rfl, by kernel_rfl⟩
  qn := fun L => by kernel_rfl
  dflt := ⟨by kernel_rfl, by kernel_rfl⟩
  ann := fun env => by kernel_rfl
  rsc := by kernel_rfl

/-! ## all together -/
theorem allOk (w : World) (h₀ : Heap) (os : OsState) (scr : Obj) {mg mb : Str → Option Value} (gr : Gr (bs w h₀ os scr) mg mb (Kf w.params)) (bb : ∀ x : Str, x ≠ "__name__" → mb x = bootBuiltins x) : AllOk (bs w h₀ os scr) (Kf w.params) tab mg mb dfs := by
  have X : Fix (bs w h₀ os scr) (Kf w.params) tab mg mb := ⟨gr, tabOk w h₀ os scr, bb, ⟨_, _, gFn _⟩, ⟨o49 w.params, fd_m_read_char, by kernel_rfl, by kernel_rfl⟩⟩
  have hn : mg "__name__" = some pmLaw := mg_of gr.kin gr.ng (by kernel_rfl)
  have L := lexFn w h₀ os scr mg ⟨_, hn⟩ (by rw [hn]; rfl) (mg_of gr.kin gr.ng (by kernel_rfl))
  refine ⟨X, ?_, ?_, ?_, ?_, fun k C {A α σ s vs cs K} hA I hv h => nw_ok (fI := 42) X (by kernel_rfl) (by kernel_rfl) (by kernel_rfl) (fo_m__init _) C hA I hv h, fun {A α σ s q vs cs K} hA I hq hv h => (rd_code gr (rdFn w h₀ os scr) hA I hq hv h).imp_right call_of⟩
  · exact Al3.mem (l := tab.fn) (And.intro (fun d e => by cases e; exact fo_Int2AP _) (And.intro (fun d e => by cases e) (And.intro (fun d e => by cases e; exact fo_law_cells _) (And.intro (fun d e => by cases e; exact fo_law_sign _) (And.intro (fun d e => by cases e; exact fo_law_card _) (And.intro (fun d e => by cases e; exact fo_law_number _) (And.intro (fun d e => by cases e) (And.intro (fun d e => by cases e; exact fo_law_typed _) (And.intro (fun d e => by cases e; exact fo_law_line _) (And.intro (fun d e => by cases e; exact fo_law_deal _) (And.intro (fun d e => by cases e; exact fo_law _) trivial)))))))))))
  · intro x f a h e k C A α σ s vs cs K hA I hv hh
    revert e hh
    exact Al3.mem (P := fun x f a => dfs.fn f = none → dfs.hand f (conOf dfs k) vs σ K → W (bs w h₀ os scr) A (call (.ref a) cs) s fun c s' => Out (bs w h₀ os scr) noOwn α σ s (one K) [c] s') (l := tab.fn) (And.intro (fun e hh => by cases e) (And.intro (fun e hh => by exact call_of (b1_code (n := 3 * k + 1) (nn := 27) (bs := 78) (S := fun k => (setVals w.params).contains k) (level_gd X C) (do_b1 _) ck_b1 gl_b1 (by kernel_rfl) (setOk w) (setB1 w) (hA.less (by lia)) I hv hh)) (And.intro (fun e hh => by cases e) (And.intro (fun e hh => by cases e) (And.intro (fun e hh => by cases e) (And.intro (fun e hh => by cases e) (And.intro (fun e hh => by exact call_of (lex_code X C L (hA.less (by lia)) I hv hh)) (And.intro (fun e hh => by cases e) (And.intro (fun e hh => by cases e) (And.intro (fun e hh => by cases e) (And.intro (fun e hh => by cases e) trivial))))))))))) x f a h
  · exact Al3.mem (l := tab.me) (And.intro (fun d e => by cases e; exact fo_m_read_char _) (And.intro (fun d e => by cases e; exact fo_m_get_token _) (And.intro (fun d e => by cases e; exact fo_m_push_token _) trivial)))
  · intro d e
    cases e
    exact fo_m_read_char _

end
end M02.Internal
end

section
set_option Elab.async false
set_option linter.all false
set_option maxRecDepth 100000
set_option maxHeartbeats 0
namespace M02.Internal
open PySem PySem.W PySem.W.X PyProof.Rows PySem.Calls MI.Internal

noncomputable def Plain : Prop := ∀ ns : List Int, ns.length ≤ 63 → (conOf dfs 20).fn 15 [.obj 0] [.frz (ns.map .int)] fun v σ => v = .bool true ∧ σ[0]? = some (.frz (ns.map .int))
theorem intsAre_VRs {α : Nat → Addr} {m : Nat} : ∀ {vs : List Value} {ns : List Int}, IntsAre vs ns → VRs α m (ns.map .int) vs := by
  intro vs ns h
  induction h with
  | nil => trivial
  | cons n t h ih => exact ⟨⟨_, rfl⟩, ih⟩
theorem walk (hp : Plain) : WalkX q loose (XL q []) (obsZ (List.range 146)) (valZ K 146 428) PySem.Challenge.rw_wo0012_02.row.toRowW dk.1 dk.2 fun f vs => PySem.call f vs := by
  intro w s₀ s₁ mg mb G Y fa o pm cd doc dV kV ho hd hcd hD hmg hg args vals as hlaid hpre hlay hrd hwl hlo
  refine Ground.open G ?_
  intro T B D TE TW
  wrow_args hpre hlay hrd hwl hlo
  rename_i ns _ _ _ _ _ _ _ a cs _ hL _ _ _ hI _ hlen _
  obtain ⟨_, hK, hsz, _⟩ := z_facts (fun _ => by kernel_rfl) Y
  have hk0 : (K w.params).In s₀.heap := hK
  have keeps := hlaid.keeps
  obtain ⟨ha, _⟩ := script_at hlaid
  have hobj := script_obj hlaid hL
  have KF : ∀ {h : Heap}, (K w.params).In h → (Kf w.params).In h := fun X a o e => X a o (lookup_filter e).2
  have a0 : s₀.heap.get? a = none := by rw [ha]; exact none_at _
  have back : ∀ {b : Addr} {o : Obj} {m : Str → Option Value}, s₀.heap.get? b = some o → s₁.heap.Ns b m → s₀.heap.Ns b m := fun {b o m} e ⟨o', es, ep, h1, r⟩ => by
    rw [keeps _ _ e] at h1
    cases h1
    exact ⟨_, es, ep, e, r⟩
  have hasK : ∀ {b : Addr} {o : Obj}, (K w.params).lookup b = some o → s₀.heap.get? b = some o := fun e => hk0 _ _ e
  have gr : Gr (bs w s₀.heap s₁.os { cls := .type "list", data := .seq cs.toArray }) mg mb (Kf w.params) := by
    refine ⟨⟨by show (116 : Nat) ≠ 3; decide, by show (116 : Nat) ≠ 0; decide, by show (116 : Nat) ≠ 2; decide⟩, back (hasK (b := 3) (o := o3v2 w.params) (by kernel_rfl)) T.g, back (hasK (b := 0) (o := boot_o_0 w.params) (by kernel_rfl)) T.b, ?_, KF hk0, fun b o e => (lookup_filter e).1⟩
    obtain ⟨mc, h1, h2⟩ := T.nolimit
    exact ⟨mc, back (hasK (b := 2) (o := boot_o_2 w.params) (by kernel_rfl)) h1, h2⟩
  have htb : s₀.heap.get? 116 = some { cls := .none, data := .fields #[] } := hasK (b := 116) (o := o116 w.params) (by kernel_rfl)
  have A := allOk w s₀.heap s₁.os { cls := .type "list", data := .seq cs.toArray } gr T.builtins
  have I : SInv (bs w s₀.heap s₁.os { cls := .type "list", data := .seq cs.toArray }) (fun _ => a) [.frz (ns.map .int)] s₁ := by
    refine ⟨fun r r' h1 h2 _ => ?_, fun r h => a0, fun r x h => ?_, fun b o _ e => keeps _ _ e, ⟨htb, #[], keeps _ _ htb, .inl rfl⟩, .of_eq hg, rfl⟩
    · simp at h1 h2; lia
    · have : r = 0 := by
        have := (List.getElem?_eq_some_iff.mp h).1
        simp at this; exact this
      subst this
      have : x = .frz (ns.map .int) := by simpa using h.symm
      subst this
      exact ⟨_, hobj, rfl, cs, 0, intsAre_VRs hI, rfl⟩
  have C := (con_all A 20).1
  have hfa : fa = 145 := by
    have h1 : mg "law" = some (.ref 145) := mg_of gr.kin gr.ng (by kernel_rfl)
    have h2 : mg "law" = some (.ref fa) := hmg
    rw [h1] at h2
    cases h2; rfl
  subst hfa
  have hl : ns.length ≤ 63 := by lia
  refine wpAny_mono (C.fn "law" 15 145 (by simp [tab]) (A := callerA) ⟨rfl, by decide, by decide⟩ I (vs := [.obj 0]) ⟨⟨by simp, rfl⟩, trivial⟩ (hp ns hl)) (fun v s' ⟨vs, σ', α', hk, hv, I', X'⟩ => ?_) fun _ _ f => f.elim
  match vs, hk with
  | [v'], ⟨hv', h0⟩ =>
    subst hv'
    obtain ⟨hv1, _⟩ := hv
    have e : v = .bool true := hv1
    subst e
    refine ⟨.inl ⟨.bool true, .bool true, [], rfl, fun _ => rfl, .bool true, by kernel_rfl, fun _ => ⟨List.nodup_nil, fun _ h => (List.not_mem_nil h).elim⟩⟩, ⟨fun b o e => ?_, fun b o e => X'.live b o e id⟩, I'.os, I'.bare⟩
    by_cases q1 : b = 116
    · subst q1
      rw [keeps _ _ htb] at e
      cases e
      obtain ⟨_, ps, h1, _⟩ := I'.tab
      refine .inr (.inl ⟨((codeHd w _ (KF fun a o e => keeps _ _ (hk0 a o e))).tab (keeps _ _ htb)).isCodeTable, rfl, #[], ps, rfl, ?_⟩)
      rw [Array.empty_append]
      exact h1
    · by_cases q2 : b = a
      · subst q2
        rw [hobj] at e
        cases e
        obtain ⟨o', h1, h2, _⟩ := I'.objs 0 _ h0
        rw [X'.agree 0 (by simp)] at h1
        rw [h2] at h1
        exact .inl h1
      · exact .inl (X'.keep b o e (fun r hr => fun z => q2 z.symm) id q1)
theorem holds (hp : Plain) : PySem.Challenge.rw_wo0012_02.Holds := top (walk hp)

end M02.Internal
end

section
set_option Elab.async false
set_option linter.all false
set_option maxRecDepth 10000
namespace MI.Internal
noncomputable def sh_Int2AP : S := (.cons (.asg 1 (.bytes [])) (.cons (.asg 2 (.bytes [65, 66, 67, 68, 69, 70, 71, 72, 73, 74, 75, 76, 77, 78, 79, 80])) (.cons (.asg 0 (.bcall .int (.cons (.bcall .abs (.cons (.var 0) .nil)) .nil))) (.cons (.while_ (.var 0) (.cons (.asgT [0, 3] (.bcall .divmod (.cons (.var 0) (.cons (.int 16) .nil)))) (.cons (.asg 1 (.bin .Add (.slice (.var 2) (.var 3) (.bin .Add (.var 3) (.int 1))) (.var 1))) .nil))) (.cons (.ret (.var 1)) .nil)))))
noncomputable def sh_m__init : S := (.cons (.asgA (.var 0) [108, 105, 110, 101, 110, 111] (.int 1)) (.cons (.asgA (.var 0) [105, 110, 115, 116, 114, 101, 97, 109] (.var 1)) (.cons (.asgA (.var 0) [119, 104, 105, 116, 101, 115, 112, 97, 99, 101] (.str [10, 9, 13, 32])) (.cons (.asgA (.var 0) [112, 117, 115, 104, 98, 97, 99, 107] (.list .nil)) .nil))))
noncomputable def sh_m_read_char : S := (.cons (.asg 1 (.cr [114, 101, 97, 100] (.attr (.var 0) [105, 110, 115, 116, 114, 101, 97, 109]) (.cons (.int 1) .nil))) (.cons (.ife (.cmp .Eq (.var 1) (.str [10])) (.cons (.augA (.var 0) [108, 105, 110, 101, 110, 111] .Add (.int 1)) .nil) .nil) (.cons (.ret (.var 1)) .nil)))
noncomputable def sh_m_get_token : S := (.cons (.ife (.attr (.var 0) [112, 117, 115, 104, 98, 97, 99, 107]) (.cons (.ret (.bm .pop0 (.attr (.var 0) [112, 117, 115, 104, 98, 97, 99, 107]) (.cons (.int 0) .nil))) .nil) .nil) (.cons (.asg 1 (.str [])) (.cons (.asg 2 (.citer (.var 0))) (.cons (.forC 3 (.var 2) (.cons (.ife (.cmp .In (.var 3) (.attr (.var 0) [119, 104, 105, 116, 101, 115, 112, 97, 99, 101])) (.cons .cont .nil) .nil) (.cons (.ife (.cmp .Eq (.var 3) (.str [34])) (.cons (.forC 3 (.var 2) (.cons (.ife (.cmp .Eq (.var 3) (.str [34])) (.cons (.ret (.var 1)) .nil) (.cons (.ife (.cmp .Eq (.var 3) (.str [92])) (.cons (.asg 3 (.cm 0 [95, 114, 101, 97, 100, 95, 99, 104, 97, 114] (.var 0) .nil)) .nil) .nil) .nil)) (.cons (.aug 1 .Add (.var 3)) .nil))) .nil) (.cons (.ife (.cmp .Eq (.var 3) (.str [92])) (.cons (.asg 3 (.cm 0 [95, 114, 101, 97, 100, 95, 99, 104, 97, 114] (.var 0) .nil)) .nil) .nil) (.cons (.aug 1 .Add (.var 3)) (.cons (.forC 3 (.var 2) (.cons (.ife (.cmp .In (.var 3) (.attr (.var 0) [119, 104, 105, 116, 101, 115, 112, 97, 99, 101])) (.cons (.ret (.var 1)) .nil) (.cons (.ife (.cmp .Eq (.var 3) (.str [92])) (.cons (.asg 3 (.cm 0 [95, 114, 101, 97, 100, 95, 99, 104, 97, 114] (.var 0) .nil)) .nil) .nil) .nil)) (.cons (.aug 1 .Add (.var 3)) .nil))) .nil)))) .nil))) (.cons (.ret (.var 1)) .nil)))))
noncomputable def sh_m_push_token : S := (.cons (.expr (.bm .append (.attr (.var 0) [112, 117, 115, 104, 98, 97, 99, 107]) (.cons (.var 1) .nil))) .nil)
end MI.Internal
end

section
set_option Elab.async false
set_option linter.all false
set_option maxRecDepth 10000
namespace MI.Internal
open PySem PySem.W

/-! ## the small language's meaning, step by step -/
section
variable {Φ : Con} {ρ : Lv} {σ : Sto} {K : FK} {L : LK} {T : Bool → Sto → Prop} {a b : S} {e o i : X} {n j : Nat} {op : Operator}
theorem w_nil : wS Φ .nil ρ σ K = K .next ρ σ := rfl
theorem w_cons : wS Φ (.cons a b) ρ σ K = wS Φ a ρ σ fun f ρ σ => match f with
    | .next => wS Φ b ρ σ K
    | f => K f ρ σ := rfl
theorem w_asg : wS Φ (.asg n e) ρ σ K = (mean Φ e).v ρ σ (one fun v σ => K .next (ρ.set n (some v)) σ) := rfl
theorem w_asgT {is : List Nat} : wS Φ (.asgT is e) ρ σ K = (mean Φ e).v ρ σ (one fun v σ => bindV is.length v σ fun xs σ => K .next (setsL is xs ρ) σ) := rfl
theorem w_asgA {name : List Nat} : wS Φ (.asgA o name e) ρ σ K = (mean Φ e).v ρ σ (one fun v σ => (mean Φ o).v ρ σ (one fun a σ => attP a name v σ fun σ => K .next ρ σ)) := rfl
theorem w_aug : wS Φ (.aug n op e) ρ σ K = (match ρ[n]? with
    | some (some x) => (mean Φ e).v ρ σ (one fun y σ => augS op x y σ fun v σ => K .next (ρ.set n (some v)) σ)
    | _ => False) := rfl
theorem w_augI : wS Φ (.augI o i op e) ρ σ K = (mean Φ o).v ρ σ (one fun a σ => (mean Φ i).v ρ σ (one fun j σ => idxS a j σ fun x σ => (mean Φ e).v ρ σ (one fun y σ => augS op x y σ fun v σ => putS a j v σ fun σ => K .next ρ σ))) := rfl
theorem w_augA {name : List Nat} : wS Φ (.augA o name op e) ρ σ K = (mean Φ o).v ρ σ (one fun a σ => attS a name σ fun x σ => (mean Φ e).v ρ σ (one fun y σ => augS op x y σ fun v σ => attP a name v σ fun σ => K .next ρ σ)) := rfl
theorem w_expr : wS Φ (.expr e) ρ σ K = (mean Φ e).v ρ σ (one fun _ σ => K .next ρ σ) := rfl
theorem w_ret : wS Φ (.ret e) ρ σ K = (mean Φ e).v ρ σ (one fun v σ => K (.ret v) ρ σ) := rfl
theorem w_retN : wS Φ .retN ρ σ K = K (.ret .none) ρ σ := rfl
theorem w_ife {t : X} : wS Φ (.ife t a b) ρ σ K = (mean Φ t).t ρ σ fun c σ => (c = true → wS Φ a ρ σ K) ∧ (c = false → wS Φ b ρ σ K) := rfl
theorem w_brk : wS Φ .brk ρ σ K = K .brk ρ σ := rfl
theorem w_cont : wS Φ .cont ρ σ K = K .cont ρ σ := rfl
theorem r_ret {k : VK} {v : V} : retK k (.ret v) ρ σ = k v σ := rfl
theorem r_next {k : VK} : retK k .next ρ σ = k .none σ := rfl
theorem bo_or : (PySem.BoolOp.Or == PySem.BoolOp.And) = false := rfl
theorem bo_and : (PySem.BoolOp.And == PySem.BoolOp.And) = true := rfl
theorem fits_le {n : Nat} (h : n ≤ 1000000) : Fits n := h
theorem o_one {k : VK} {v : V} : one k [v] σ = k v σ := rfl
theorem m_none : (mean Φ .none).v ρ σ L = L [.none] σ := rfl
theorem m_tru : (mean Φ .tru).v ρ σ L = L [.bool true] σ := rfl
theorem m_fls : (mean Φ .fls).v ρ σ L = L [.bool false] σ := rfl
theorem m_int {k : Int} : (mean Φ (.int k)).v ρ σ L = L [.int k] σ := rfl
theorem m_str {l : List Nat} : (mean Φ (.str l)).v ρ σ L = L [.str l] σ := rfl
theorem m_bytes {l : List UInt8} : (mean Φ (.bytes l)).v ρ σ L = L [.bytes l] σ := rfl
theorem m_var : (mean Φ (.var n)).v ρ σ L = (match ρ[n]? with | some (some v) => L [v] σ | _ => False) := rfl
theorem m_nil : (mean Φ .nil).v ρ σ L = L [] σ := rfl
theorem m_cons {x y : X} : (mean Φ (.cons x y)).v ρ σ L = (mean Φ x).v ρ σ (one fun x σ => (mean Φ y).v ρ σ fun vb σ => L (x :: vb) σ) := rfl
theorem m_bin {x y : X} : (mean Φ (.bin op x y)).v ρ σ L = (mean Φ x).v ρ σ (one fun x σ => (mean Φ y).v ρ σ (one fun y σ => binS op x y σ fun v σ => L [v] σ)) := rfl
theorem m_neg {x : X} : (mean Φ (.neg x)).v ρ σ L = (mean Φ x).v ρ σ (one fun x σ => match x with | .int i => L [.int (-i)] σ | _ => False) := rfl
theorem m_not {x : X} : (mean Φ (.not x)).t ρ σ T = (mean Φ x).t ρ σ fun b σ => T (!b) σ := rfl
theorem m_cmp {x y : X} {c : CmpOp} : (mean Φ (.cmp c x y)).v ρ σ L = (mean Φ x).v ρ σ (one fun x σ => (mean Φ y).v ρ σ (one fun y σ => cmpS c x y σ fun v σ => L [.bool v] σ)) := rfl
theorem t_cmp {x y : X} {c : CmpOp} : (mean Φ (.cmp c x y)).t ρ σ T = (mean Φ x).v ρ σ (one fun x σ => (mean Φ y).v ρ σ (one fun y σ => cmpS c x y σ T)) := rfl
theorem t_var : (mean Φ (.var n)).t ρ σ T = (mean Φ (.var n)).v ρ σ (one fun x σ => truS x σ T) := rfl
theorem t_bin {x y : X} : (mean Φ (.bin op x y)).t ρ σ T = (mean Φ (.bin op x y)).v ρ σ (one fun x σ => truS x σ T) := rfl
theorem t_attr {x : X} {name : List Nat} : (mean Φ (.attr x name)).t ρ σ T = (mean Φ (.attr x name)).v ρ σ (one fun x σ => truS x σ T) := rfl
theorem t_isb {x : X} : (mean Φ (.isb x)).t ρ σ T = (mean Φ (.isb x)).v ρ σ (one fun x σ => truS x σ T) := rfl
theorem t_call {f : Nat} {es : X} : (mean Φ (.call f es)).t ρ σ T = (mean Φ (.call f es)).v ρ σ (one fun x σ => truS x σ T) := rfl
theorem t_bool {bo : PySem.BoolOp} {es : X} : (mean Φ (.boolop bo es)).t ρ σ T = (mean Φ es).ts bo ρ σ T := rfl
theorem ts_nil {bo : PySem.BoolOp} : (mean Φ .nil).ts bo ρ σ T = T (bo == .And) σ := rfl
theorem ts_and {x y : X} : (mean Φ (.cons x y)).ts .And ρ σ T = (mean Φ x).t ρ σ fun c σ => (c = false → T false σ) ∧ (c = true → (mean Φ y).ts .And ρ σ T) := rfl
theorem ts_or {x y : X} : (mean Φ (.cons x y)).ts .Or ρ σ T = (mean Φ x).t ρ σ fun c σ => (c = true → T true σ) ∧ (c = false → (mean Φ y).ts .Or ρ σ T) := rfl
theorem m_ife {t x y : X} : (mean Φ (.ife t x y)).v ρ σ L = (mean Φ t).t ρ σ fun c σ => (c = true → (mean Φ x).v ρ σ L) ∧ (c = false → (mean Φ y).v ρ σ L) := rfl
theorem m_idx {x y : X} : (mean Φ (.idx x y)).v ρ σ L = (mean Φ x).v ρ σ (one fun x σ => (mean Φ y).v ρ σ (one fun y σ => idxS x y σ fun v σ => L [v] σ)) := rfl
theorem m_slice {x y z : X} : (mean Φ (.slice x y z)).v ρ σ L = (mean Φ x).v ρ σ (one fun x σ => (mean Φ y).v ρ σ fun l σ => (mean Φ z).v ρ σ fun h σ => sliceS x l h σ fun v σ => L [v] σ) := rfl
theorem m_list {es : X} : (mean Φ (.list es)).v ρ σ L = (mean Φ es).v ρ σ fun vs σ => Fits vs.length ∧ L [.obj σ.length] (σ ++ [.list vs]) := rfl
theorem m_tup {es : X} : (mean Φ (.tup es)).v ρ σ L = (mean Φ es).v ρ σ fun vs σ => Fits vs.length ∧ L [.obj σ.length] (σ ++ [.tup vs]) := rfl
theorem m_call {f : Nat} {es : X} : (mean Φ (.call f es)).v ρ σ L = (mean Φ es).v ρ σ fun vs σ => Φ.fn f vs σ fun v σ => L [v] σ := rfl
theorem m_new {es : X} : (mean Φ (.new es)).v ρ σ L = (mean Φ es).v ρ σ fun vs σ => Φ.nw vs σ fun v σ => L [v] σ := rfl
theorem m_bcall {f : Bf} {es : X} : (mean Φ (.bcall f es)).v ρ σ L = (mean Φ es).v ρ σ fun vs σ => bfS f vs σ fun v σ => L [v] σ := rfl
theorem m_bm {m : Bm} {x es : X} : (mean Φ (.bm m x es)).v ρ σ L = (mean Φ x).v ρ σ (one fun x σ => bmT m x σ ∧ (mean Φ es).v ρ σ fun vs σ => bmS m x vs σ fun v σ => L [v] σ) := rfl
theorem m_cm {m : Nat} {name : List Nat} {x es : X} : (mean Φ (.cm m name x es)).v ρ σ L = (mean Φ x).v ρ σ (one fun x σ => mthS x name σ ∧ (mean Φ es).v ρ σ fun vs σ => Φ.me m x vs σ fun v σ => L [v] σ) := rfl
theorem m_cr {name : List Nat} {x es : X} : (mean Φ (.cr name x es)).v ρ σ L = (mean Φ x).v ρ σ (one fun x σ => attS x name σ fun f σ => (match f with
      | .obj q => (mean Φ es).v ρ σ fun vs σ => Φ.rd q vs σ fun v σ => L [v] σ
      | _ => False)) := rfl
theorem m_citer {x : X} : (mean Φ (.citer x)).v ρ σ L = (mean Φ x).v ρ σ (one fun x σ => mthS x rcName σ ∧ match x with | .obj d => L [.obj (σ.length + 1)] ((σ ++ [.meth d]) ++ [.citer (some σ.length)]) | _ => False) := rfl
theorem w_forG {x : X} : wS Φ (.forG n x b) ρ σ K = (mean Φ x).v ρ σ (one fun v σ => match v with
    | .obj r => ∃ l ns, σ[r]? = some (.list l) ∧ intsV l = some ns ∧ ns.head? ≠ some 0 ∧ ∃ m, genL (fun v ρ σ K => wS Φ b (ρ.set n (some v)) σ K) r ns l m 0 ρ σ K
    | _ => False) := rfl
theorem w_forC {x : X} : wS Φ (.forC n x b) ρ σ K = (mean Φ x).v ρ σ (one fun v σ => match v with
    | .obj q => ∃ m, citS (Φ.me 0) (fun v ρ σ K => wS Φ b (ρ.set n (some v)) σ K) m q ρ σ K
    | _ => False) := rfl
theorem m_attr {x : X} {name : List Nat} : (mean Φ (.attr x name)).v ρ σ L = (mean Φ x).v ρ σ (one fun x σ => attS x name σ fun v σ => L [v] σ) := rfl
theorem m_isb {x : X} : (mean Φ (.isb x)).v ρ σ L = (mean Φ x).v ρ σ (one fun x σ => match x with | .bytes _ => L [.bool true] σ | _ => False) := rfl
theorem i_var {I : It → Sto → Prop} : (mean Φ (.var n)).it ρ σ I = (mean Φ (.var n)).v ρ σ (one fun x σ => iterV x σ I) := rfl
theorem i_call {f : Nat} {es : X} {I : It → Sto → Prop} : (mean Φ (.call f es)).it ρ σ I = (mean Φ (.call f es)).v ρ σ (one fun x σ => iterV x σ I) := rfl
theorem i_slice {x y z : X} {I : It → Sto → Prop} : (mean Φ (.slice x y z)).it ρ σ I = (mean Φ (.slice x y z)).v ρ σ (one fun x σ => iterV x σ I) := rfl
theorem i_list {es : X} {I : It → Sto → Prop} : (mean Φ (.list es)).it ρ σ I = (mean Φ (.list es)).v ρ σ (one fun x σ => iterV x σ I) := rfl
theorem w_for {is : List Nat} {it : X} : wS Φ (.for_ is it b) ρ σ K = (mean Φ it).it ρ σ fun it σ => ∃ n, loopS (fun v ρ σ K => bindV is.length v σ fun xs σ => wS Φ b (setsL is xs ρ) σ K) n it ρ σ K := rfl
theorem w_while {t : X} : wS Φ (.while_ t b) ρ σ K = ∃ n, whileS (fun ρ σ K => (mean Φ t).t ρ σ K) (fun ρ σ K => wS Φ b ρ σ K) n ρ σ K := rfl
theorem m_comp {elt it c : X} {n : Nat} : (mean Φ (.comp elt n it c)).v ρ σ L = (mean Φ it).it ρ σ fun it σ => ∃ k, compS (stepC (mean Φ c).t (mean Φ elt).v n ρ) k it [] σ fun acc σ => L [.obj σ.length] (σ ++ [.list acc]) := rfl
theorem i_comp {elt it c : X} {n : Nat} {I : It → Sto → Prop} : (mean Φ (.comp elt n it c)).it ρ σ I = (mean Φ (.comp elt n it c)).v ρ σ (one fun x σ => iterV x σ I) := rfl
theorem i_range {es : X} {I : It → Sto → Prop} : (mean Φ (.range es)).it ρ σ I = (mean Φ es).v ρ σ fun vs σ => iterR vs σ I := rfl
end
/-! ### on values -/
section
variable {σ : Sto} {K : VK} {T : Bool → Sto → Prop} {a b : Int} {l m : List Nat} {p q : List UInt8} {r : Nat} {vs ws : List V} {v : V}
theorem v_add : binS .Add (.int a) (.int b) σ K = K (.int (a + b)) σ := rfl
theorem v_sub : binS .Sub (.int a) (.int b) σ K = K (.int (a - b)) σ := rfl
theorem v_mul : binS .Mult (.int a) (.int b) σ K = (Sm a ∧ Sm b ∧ K (.int (a * b)) σ) := rfl
theorem v_div : binS .FloorDiv (.int a) (.int b) σ K = (0 < b ∧ Sm b ∧ K (.int (a / b)) σ) := rfl
theorem v_mod : binS .Mod (.int a) (.int b) σ K = (0 < b ∧ K (.int (a % b)) σ) := rfl
theorem v_pow : binS .Pow (.int a) (.int b) σ K = (0 ≤ b ∧ b ≤ 1000 ∧ Sm a ∧ K (.int (a ^ b.toNat)) σ) := rfl
theorem v_xor : binS .BitXor (.int a) (.int b) σ K = K (.int (Builtin.bitXor a b)) σ := rfl
theorem v_addS : binS .Add (.str l) (.str m) σ K = (Fits (l.length + m.length) ∧ K (.str (l ++ m)) σ) := rfl
theorem v_addB : binS .Add (.bytes p) (.bytes q) σ K = (Fits (p.length + q.length) ∧ K (.bytes (p ++ q)) σ) := rfl
theorem v_mulS : binS .Mult (.str l) (.int b) σ K = (1 ≤ b ∧ b < 1000 ∧ l.length < 1000 ∧ K (.str (List.replicate b.toNat l).flatten) σ) := rfl
theorem v_addL {r' : Nat} (h : σ[r]? = some (.list vs)) (h' : σ[r']? = some (.list ws)) : binS .Add (.obj r) (.obj r') σ K = (Fits (vs.length + ws.length) ∧ K (.obj σ.length) (σ ++ [.list (vs ++ ws)])) := by show oLst _ _ = _; rw [oLst_of h, oLst_of h']
theorem v_mulL (h : σ[r]? = some (.list vs)) : binS .Mult (.obj r) (.int b) σ K = (-1000 < b ∧ b < 1000 ∧ vs.length < 1000 ∧ K (.obj σ.length) (σ ++ [.list (List.replicate b.toNat vs).flatten])) := oLst_of h
theorem a_add : augS .Add (.int a) (.int b) σ K = K (.int (a + b)) σ := rfl
theorem a_sub : augS .Sub (.int a) (.int b) σ K = K (.int (a - b)) σ := rfl
theorem a_addS : augS .Add (.str l) (.str m) σ K = (Fits (l.length + m.length) ∧ K (.str (l ++ m)) σ) := rfl
theorem u_int : truS (.int a) σ T = T (decide (a ≠ 0)) σ := rfl
theorem u_bool {c : Bool} : truS (.bool c) σ T = T c σ := rfl
theorem u_none : truS .none σ T = T false σ := rfl
theorem u_list (h : σ[r]? = some (.list vs)) : truS (.obj r) σ T = (Fits vs.length ∧ T (!vs.isEmpty) σ) := by simp only [truS, h]
theorem c_eq : cmpS .Eq (.int a) (.int b) σ T = T (decide (a = b)) σ := rfl
theorem c_ne : cmpS .NotEq (.int a) (.int b) σ T = T (!decide (a = b)) σ := rfl
theorem c_lt : cmpS .Lt (.int a) (.int b) σ T = T (decide (a < b)) σ := rfl
theorem c_le : cmpS .LtE (.int a) (.int b) σ T = T (decide (a ≤ b)) σ := rfl
theorem c_gt : cmpS .Gt (.int a) (.int b) σ T = T (decide (b < a)) σ := rfl
theorem c_ge : cmpS .GtE (.int a) (.int b) σ T = T (decide (b ≤ a)) σ := rfl
theorem c_eqS : cmpS .Eq (.str l) (.str m) σ T = T (decide (l = m)) σ := rfl
theorem c_neS : cmpS .NotEq (.str l) (.str m) σ T = T (!decide (l = m)) σ := rfl
theorem c_in {c : Nat} : cmpS .In (.str [c]) (.str l) σ T = T (l.contains c) σ := rfl
theorem c_isT {c : Bool} : cmpS .Is (.bool c) (.bool true) σ T = T (decide (c = true)) σ := rfl
theorem c_isF {c : Bool} : cmpS .Is (.bool c) (.bool false) σ T = T (decide (c = false)) σ := rfl
theorem c_isntT {c : Bool} : cmpS .IsNot (.bool c) (.bool true) σ T = T (!decide (c = true)) σ := rfl
theorem c_isntF {c : Bool} : cmpS .IsNot (.bool c) (.bool false) σ T = T (!decide (c = false)) σ := rfl
theorem c_isN : cmpS .Is v .none σ T = T (match v with | .none => true | _ => false) σ := by cases v <;> rfl
theorem c_isntN : cmpS .IsNot v .none σ T = T (match v with | .none => false | _ => true) σ := by cases v <;> rfl
theorem b_bindL {L : List V → Sto → Prop} {n : Nat} : bindV [n].length v σ L = L [v] σ := rfl
theorem b_bind1 {L : List V → Sto → Prop} : bindV 1 v σ L = L [v] σ := rfl
theorem b_bindT {n : Nat} {L : List V → Sto → Prop} (hn : n ≠ 1) (h : σ[r]? = some (.tup vs)) : bindV n (.obj r) σ L = (vs.length = n ∧ L vs σ) := by
  unfold bindV; split
  · exact absurd rfl hn
  · simp only [h]
theorem f_lenS : bfS .len [.str l] σ K = (Fits l.length ∧ K (.int l.length) σ) := rfl
theorem f_lenB : bfS .len [.bytes p] σ K = (Fits p.length ∧ K (.int p.length) σ) := rfl
theorem f_len (h : σ[r]? = some (.list vs)) : bfS .len [.obj r] σ K = (Fits vs.length ∧ K (.int vs.length) σ) := by show lenO _ _ _ = _; rw [h]; rfl
theorem f_lenF (h : σ[r]? = some (.frz vs)) : bfS .len [.obj r] σ K = (Fits vs.length ∧ K (.int vs.length) σ) := by show lenO _ _ _ = _; rw [h]; rfl
theorem f_chr : bfS .chr [.int a] σ K = (0 ≤ a ∧ a < 0x110000 ∧ K (.str [a.toNat]) σ) := rfl
theorem f_ord {c : Nat} : bfS .ord [.str [c]] σ K = K (.int c) σ := rfl
theorem f_sum (h : σ[r]? = some (.list vs)) : bfS .sum [.obj r] σ K = ∃ ns, intsV vs = some ns ∧ K (.int ns.sum) σ := oLst_of h
theorem f_max (h : σ[r]? = some (.list vs)) : bfS .max [.obj r] σ K = ∃ ns, intsV vs = some ns ∧ ns ≠ [] ∧ ∀ m, m ∈ ns → (∀ a, a ∈ ns → a ≤ m) → K (.int m) σ := oLst_of h
theorem f_max2 : bfS .max [.int a, .int b] σ K = K (.int (if b > a then b else a)) σ := rfl
theorem f_listS : bfS .list [.str l] σ K = (Fits l.length ∧ K (.obj σ.length) (σ ++ [.list (l.map fun c => .str [c])])) := rfl
theorem f_list (h : σ[r]? = some (.list vs)) : bfS .list [.obj r] σ K = (Fits vs.length ∧ K (.obj σ.length) (σ ++ [.list vs])) := oLst_of h
theorem f_abs : bfS .abs [.int a] σ K = K (.int (if a < 0 then -a else a)) σ := rfl
theorem f_int : bfS .int [.int a] σ K = K (.int a) σ := rfl
theorem f_divmod : bfS .divmod [.int a, .int b] σ K = (0 < b ∧ Sm b ∧ K (.obj σ.length) (σ ++ [.tup [.int (a / b), .int (a % b)]])) := rfl
theorem b_append (h : σ[r]? = some (.list vs)) : bmS .append (.obj r) [v] σ K = (Fits vs.length ∧ K .none (σ.set r (.list (vs ++ [v])))) := oLst_of h
theorem b_pop (h : σ[r]? = some (.list (v :: vs))) : bmS .pop0 (.obj r) [.int 0] σ K = (Fits vs.length ∧ K v (σ.set r (.list vs))) := by
  show ((0 : Int) = 0 ∧ oLst _ _) = _
  rw [oLst_of h]; exact propext ⟨fun h => h.2, fun h => ⟨rfl, h⟩⟩
theorem b_join (h : σ[r]? = some (.list vs)) : bmS .join (.str []) [.obj r] σ K = ∃ ss, strsV vs = some ss ∧ ss.flatten.length + ss.length ≤ 1000000 ∧ K (.str ss.flatten) σ := by
  show (([] : List Nat) = [] ∧ oLst _ _) = _
  rw [oLst_of h]; exact propext ⟨fun h => h.2, fun h => ⟨rfl, h⟩⟩
theorem b_sindex {c : Nat} : bmS .sindex (.str l) [.str [c]] σ K = (l = [65, 66, 67, 68, 69, 70, 71, 72, 73, 74, 75, 76, 77, 78, 79, 80] ∧ 65 ≤ c ∧ c < 81 ∧ K (.int ((c : Int) - 65)) σ) := rfl
theorem bt_append (h : σ[r]? = some (.list vs)) : bmT .append (.obj r) σ := ⟨_, h⟩
theorem bt_pop (h : σ[r]? = some (.list vs)) : bmT .pop0 (.obj r) σ := ⟨_, h⟩
theorem bt_join : bmT .join (.str l) σ := trivial
theorem bt_sindex : bmT .sindex (.str l) σ := trivial
theorem t_nil {Φ : Con} {ρ : Lv} : (mean Φ .nil).t ρ σ T = T true σ := rfl
theorem s_one {ct : Lv → Sto → (Bool → Sto → Prop) → Prop} {ev : Lv → Sto → LK → Prop} {ρ : Lv} {K : Option V → Sto → Prop} : stepC ct ev 1 ρ v σ K = ct (ρ ++ [some v]) σ fun b σ => (b = false → K none σ) ∧ (b = true → ev (ρ ++ [some v]) σ (one fun x σ => K (some x) σ)) := rfl
theorem i_rng1 {I : It → Sto → Prop} : iterR [.int a] σ I = (Lo a ∧ I (.rng 0 1 a.toNat) σ) := rfl
theorem i_rng2 {I : It → Sto → Prop} : iterR [.int a, .int b] σ I = (Lo a ∧ Lo b ∧ I (.rng a 1 (b - a).toNat) σ) := rfl
theorem i_str {I : It → Sto → Prop} : iterV (.str l) σ I = (Fits l.length ∧ I (.str l) σ) := rfl
theorem i_byt {I : It → Sto → Prop} : iterV (.bytes p) σ I = (Fits p.length ∧ I (.byt p) σ) := rfl
theorem i_lst {I : It → Sto → Prop} (h : σ[r]? = some (.list vs)) : iterV (.obj r) σ I = I (.lst r 0) σ := by simp only [iterV, h]
theorem x_list (h : σ[r]? = some (.list vs)) (hf : Fits vs.length) (h0 : 0 ≤ a) (hi : vs[a.toNat]? = some v) (k : K v σ) : idxS (.obj r) (.int a) σ K := by
  simp only [idxS, h]; exact ⟨hf, .inl ⟨h0, v, hi, k⟩⟩
theorem x_frz (h : σ[r]? = some (.frz vs)) (hf : Fits vs.length) (h0 : 0 ≤ a) (hi : vs[a.toNat]? = some v) (k : K v σ) : idxS (.obj r) (.int a) σ K := by
  simp only [idxS, h]; exact ⟨hf, h0, v, hi, k⟩
theorem x_listN (h : σ[r]? = some (.list vs)) (hf : Fits vs.length) (h0 : a < 0) (h1 : -a ≤ vs.length) (hi : vs[((vs.length : Int) + a).toNat]? = some v) (k : K v σ) : idxS (.obj r) (.int a) σ K := by
  simp only [idxS, h]; exact ⟨hf, .inr ⟨h0, h1, v, hi, k⟩⟩
theorem x_str {c : Nat} (hf : Fits l.length) (h0 : 0 ≤ a) (hi : l[a.toNat]? = some c) (k : K (.str [c]) σ) : idxS (.str l) (.int a) σ K := ⟨hf, .inl ⟨h0, c, hi, k⟩⟩
theorem x_strN {c : Nat} (hf : Fits l.length) (h0 : a < 0) (h1 : -a ≤ l.length) (hi : l[((l.length : Int) + a).toNat]? = some c) (k : K (.str [c]) σ) : idxS (.str l) (.int a) σ K := ⟨hf, .inr ⟨h0, h1, c, hi, k⟩⟩
theorem x_strE {c : Nat} (hf : Fits l.length) (h0 : 0 ≤ a) (hi : l[a.toNat]? = some c) : idxS (.str l) (.int a) σ K = K (.str [c]) σ := by
  apply propext
  constructor
  · rintro ⟨_, ⟨_, c', h, k⟩ | ⟨h, _⟩⟩
    · rw [hi] at h; cases h; exact k
    · lia
  · exact fun k => ⟨hf, .inl ⟨h0, c, hi, k⟩⟩
theorem x_listE (h : σ[r]? = some (.list vs)) (hf : Fits vs.length) (h0 : 0 ≤ a) (hi : vs[a.toNat]? = some v) : idxS (.obj r) (.int a) σ K = K v σ := by
  apply propext
  simp only [idxS, h]
  constructor
  · rintro ⟨_, ⟨_, c', h, k⟩ | ⟨h, _⟩⟩
    · rw [hi] at h; cases h; exact k
    · lia
  · exact fun k => ⟨hf, .inl ⟨h0, v, hi, k⟩⟩
theorem x_bytes {c : UInt8} (hf : Fits p.length) (h0 : 0 ≤ a) (hi : p[a.toNat]? = some c) (k : K (.int c.toNat) σ) : idxS (.bytes p) (.int a) σ K := ⟨hf, h0, c, hi, k⟩
theorem p_list {K : Sto → Prop} (h : σ[r]? = some (.list vs)) (hf : Fits vs.length) (h0 : 0 ≤ a) (hi : a < vs.length) (k : K (σ.set r (.list (vs.set a.toNat v)))) : putS (.obj r) (.int a) v σ K := by
  simp only [putS, h]; exact ⟨hf, h0, hi, k⟩

/-! ### comprehensions and loops by their invariants -/
theorem comp_rng {step : V → Sto → (Option V → Sto → Prop) → Prop} {K : List V → Sto → Prop} (Inv : Int → List V → Sto → Prop) (stop : Int) (hf : ∀ a acc σ, Inv a acc σ → Fits acc.length)
    (hs : ∀ a acc σ K', a < stop → Inv a acc σ → (∀ x σ', Inv (a + 1) (acc ++ [x]) σ' → K' (some x) σ') → step (.int a) σ K') (hk : ∀ acc σ, Inv stop acc σ → K acc σ) :
    ∀ (m : Nat) a acc σ, a + m = stop → Inv a acc σ → compS step (m + 1) (.rng a 1 m) acc σ K
  | 0, a, acc, σ, e, h => by
    have : a = stop := by simpa using e
    subst this
    exact comp_end rfl (hk _ _ h)
  | m + 1, a, acc, σ, e, h => by
    refine comp_turn rfl (hs a acc σ _ (by lia) h fun x σ' h' => ?_)
    exact ⟨hf _ _ _ h, comp_rng Inv stop hf hs hk m (a + 1) (acc ++ [x]) σ' (by lia) h'⟩
theorem comp_lst {step : V → Sto → (Option V → Sto → Prop) → Prop} {K : List V → Sto → Prop} {r : Nat} {l : List V} (Inv : Nat → List V → Sto → Prop) (hf : ∀ i acc σ, Inv i acc σ → Fits acc.length) (hr : ∀ i acc σ, Inv i acc σ → σ[r]? = some (.list l))
    (hs : ∀ i v acc σ K', l[i]? = some v → Inv i acc σ → (∀ x σ', Inv (i + 1) (acc ++ [x]) σ' → K' (some x) σ') → (∀ σ', Inv (i + 1) acc σ' → K' none σ') → step v σ K') (hk : ∀ acc σ, Inv l.length acc σ → K acc σ) :
    ∀ (m i : Nat) acc σ, i + m = l.length → Inv i acc σ → compS step (m + 1) (.lst r i) acc σ K
  | 0, i, acc, σ, e, h => by
    have : i = l.length := by simpa using e
    subst this
    exact comp_end (by rw [nx_lst (hr _ _ _ h), List.getElem?_eq_none (Nat.le_refl _)]; rfl) (hk _ _ h)
  | m + 1, i, acc, σ, e, h => by
    obtain ⟨v, hv⟩ : ∃ v, l[i]? = some v := ⟨l[i]'(by lia), List.getElem?_eq_getElem (by lia)⟩
    refine comp_turn (v := v) (it' := .lst r (i + 1)) (by rw [nx_lst (hr _ _ _ h), hv]; rfl) (hs i v acc σ _ hv h (fun x σ' h' => ?_) (fun σ' h' => ?_))
    · exact ⟨hf _ _ _ h, comp_lst Inv hf hr hs hk m (i + 1) (acc ++ [x]) σ' (by lia) h'⟩
    · exact comp_lst Inv hf hr hs hk m (i + 1) acc σ' (by lia) h'
theorem comp_byt {step : V → Sto → (Option V → Sto → Prop) → Prop} {K : List V → Sto → Prop} (Inv : List UInt8 → List V → Sto → Prop) (hf : ∀ i acc σ, Inv i acc σ → Fits acc.length)
    (hs : ∀ c l acc σ K', Inv (c :: l) acc σ → (∀ x σ', Inv l (acc ++ [x]) σ' → K' (some x) σ') → step (.int c.toNat) σ K') (hk : ∀ acc σ, Inv [] acc σ → K acc σ) :
    ∀ (l : List UInt8) acc σ, Inv l acc σ → compS step (l.length + 1) (.byt l) acc σ K
  | [], acc, σ, h => comp_end rfl (hk _ _ h)
  | c :: l, acc, σ, h => by
    refine comp_turn rfl (hs c l acc σ _ h fun x σ' h' => ?_)
    exact ⟨hf _ _ _ h, comp_byt Inv hf hs hk l (acc ++ [x]) σ' h'⟩
theorem for_rng {step : V → Lv → Sto → FK → Prop} {K : FK} (Inv : Int → Lv → Sto → Prop) (stop : Int)
    (hs : ∀ a ρ σ (K' : FK), a < stop → Inv a ρ σ → (∀ ρ' σ', Inv (a + 1) ρ' σ' → K' .next ρ' σ') → step (.int a) ρ σ K') (hk : ∀ ρ σ, Inv stop ρ σ → K .next ρ σ) :
    ∀ (m : Nat) a ρ σ, a + m = stop → Inv a ρ σ → loopS step (m + 1) (.rng a 1 m) ρ σ K
  | 0, a, ρ, σ, e, h => by
    have : a = stop := by simpa using e
    subst this
    exact loop_end rfl (hk _ _ h)
  | m + 1, a, ρ, σ, e, h => by
    refine loop_turn rfl (hs a ρ σ _ (by lia) h fun ρ' σ' h' => ?_)
    exact for_rng Inv stop hs hk m (a + 1) ρ' σ' (by lia) h'
theorem for_str {step : V → Lv → Sto → FK → Prop} {K : FK} (Inv : List Nat → Lv → Sto → Prop)
    (hs : ∀ c l ρ σ (K' : FK), Inv (c :: l) ρ σ → (∀ ρ' σ', Inv l ρ' σ' → K' .next ρ' σ') → step (.str [c]) ρ σ K') (hk : ∀ ρ σ, Inv [] ρ σ → K .next ρ σ) :
    ∀ (l : List Nat) ρ σ, Inv l ρ σ → loopS step (l.length + 1) (.str l) ρ σ K
  | [], ρ, σ, h => loop_end rfl (hk _ _ h)
  | c :: l, ρ, σ, h => loop_turn rfl (hs c l ρ σ _ h fun ρ' σ' h' => for_str Inv hs hk l ρ' σ' h')
theorem for_lst {step : V → Lv → Sto → FK → Prop} {K : FK} {r : Nat} {l : List V} (Inv : Nat → Lv → Sto → Prop) (hr : ∀ i ρ σ, Inv i ρ σ → σ[r]? = some (.list l))
    (hs : ∀ i v ρ σ (K' : FK), l[i]? = some v → Inv i ρ σ → (∀ ρ' σ', Inv (i + 1) ρ' σ' → K' .next ρ' σ') → step v ρ σ K') (hk : ∀ ρ σ, Inv l.length ρ σ → K .next ρ σ) :
    ∀ (m i : Nat) ρ σ, i + m = l.length → Inv i ρ σ → loopS step (m + 1) (.lst r i) ρ σ K
  | 0, i, ρ, σ, e, h => by
    have : i = l.length := by simpa using e
    subst this
    exact loop_end (by rw [nx_lst (hr _ _ _ h), List.getElem?_eq_none (Nat.le_refl _)]; rfl) (hk _ _ h)
  | m + 1, i, ρ, σ, e, h => by
    obtain ⟨v, hv⟩ : ∃ v, l[i]? = some v := ⟨l[i]'(by lia), List.getElem?_eq_getElem (by lia)⟩
    exact loop_turn (v := v) (it' := .lst r (i + 1)) (by rw [nx_lst (hr _ _ _ h), hv]; rfl) (hs i v ρ σ _ hv h fun ρ' σ' h' => for_lst Inv hr hs hk m (i + 1) ρ' σ' (by lia) h')
theorem gl_step {step : V → Lv → Sto → FK → Prop} {K : FK} {ns : List Int} {l : List V} {n j : Nat} {ρ : Lv} {x : Int} (hr : σ[r]? = some (.list l)) (hx : genSeq ns none j = some x)
    (hs : ∀ Kc : FK, (∀ ρ' σ', genL step r ns l n (j + 1) ρ' σ' K → Kc .next ρ' σ') → (∀ ρ' σ', K .next ρ' σ' → Kc .brk ρ' σ') → step (.int x) ρ σ Kc) : genL step r ns l (n + 1) j ρ σ K := by
  show σ[r]? = some (.list l) ∧ _
  refine ⟨hr, ?_⟩
  rw [hx]
  exact hs _ (fun _ _ h => h) fun _ _ h => h
theorem gl_end {step : V → Lv → Sto → FK → Prop} {K : FK} {ns : List Int} {l : List V} {n j : Nat} {ρ : Lv} (hr : σ[r]? = some (.list l)) (hx : genSeq ns none j = none) (hk : K .next ρ σ) : genL step r ns l (n + 1) j ρ σ K := by
  show σ[r]? = some (.list l) ∧ _
  refine ⟨hr, ?_⟩
  rw [hx]
  exact hk
end
end MI.Internal
end

section
set_option Elab.async false
set_option linter.all false
set_option maxRecDepth 10000
namespace MI.Internal
open PySem PySem.W

/-! ## the number's letters -/
noncomputable def apN (n : Nat) : List Nat := if h : n = 0 then [] else apN (n / 16) ++ [65 + n % 16]
termination_by n
decreasing_by exact Nat.div_lt_self (Nat.pos_of_ne_zero h) (by decide)
theorem apN_zero : apN 0 = [] := by rw [apN]; rfl
theorem apN_pos {n : Nat} (h : n ≠ 0) : apN n = apN (n / 16) ++ [65 + n % 16] := by rw [apN, dif_neg h]
noncomputable def apB (n : Nat) : List UInt8 := (apN n).map UInt8.ofNat
theorem apN_length : ∀ (d n : Nat), n < 16 ^ d → (apN n).length ≤ d
  | 0, n, h => by
    have : n = 0 := by simpa using h
    subst this; rw [apN_zero]; exact Nat.le_refl _
  | d + 1, n, h => by
    by_cases q : n = 0
    · subst q; rw [apN_zero]; exact Nat.zero_le _
    · rw [apN_pos q, List.length_append]
      have : n / 16 < 16 ^ d := by
        rw [Nat.div_lt_iff_lt_mul (by decide)]
        rw [Nat.pow_succ] at h; exact h
      have := apN_length d _ this
      simp; lia
theorem apN_mem : ∀ {n c : Nat}, c ∈ apN n → 65 ≤ c ∧ c < 81 := by
  intro n
  induction n using Nat.strongRecOn with
  | _ n ih =>
    intro c h
    by_cases q : n = 0
    · subst q; rw [apN_zero] at h; cases h
    · rw [apN_pos q, List.mem_append] at h
      rcases h with h | h
      · exact ih _ (Nat.div_lt_self (Nat.pos_of_ne_zero q) (by decide)) h
      · simp at h; lia
noncomputable def AP : List UInt8 := [65, 66, 67, 68, 69, 70, 71, 72, 73, 74, 75, 76, 77, 78, 79, 80]
theorem AP_cut : ∀ d : Nat, d < 16 → (AP.take (clipAt 16 ((d : Int) + 1))).drop (clipAt 16 (d : Int)) = [UInt8.ofNat (65 + d)] := by decide +kernel
noncomputable def int2apBody : S := (.cons (.asgT [0, 3] (.bcall .divmod (.cons (.var 0) (.cons (.int 16) .nil)))) (.cons (.asg 1 (.bin .Add (.slice (.var 2) (.var 3) (.bin .Add (.var 3) (.int 1))) (.var 1))) .nil))
theorem sm_small {a : Int} (h1 : -1000000000000 < a) (h2 : a < 1000000000000) : Sm a := by
  have : (1000000000000 : Int) ≤ 2 ^ 400 := by decide
  exact ⟨by lia, by lia⟩
theorem int2ap_loop {Φ : Con} {K : FK} : ∀ (m : Nat) (val : List UInt8) (y : Option V) (σ : Sto), (apN m).length + val.length ≤ 1000 →
    (∀ xs y', K .next [some (.int 0), some (.bytes (apB m ++ val)), some (.bytes AP), y'] (σ ++ xs)) →
    ∃ n, whileS (fun ρ σ K => (mean Φ (.var 0)).t ρ σ K) (fun ρ σ K => wS Φ int2apBody ρ σ K) n [some (.int m), some (.bytes val), some (.bytes AP), y] σ K := by
  intro m
  induction m using Nat.strongRecOn with
  | _ m ih =>
    intro val y σ hl hk
    by_cases q : m = 0
    · subst q
      refine ⟨1, ?_⟩
      simp only [whileS]
      simp only [t_var, m_var, List.getElem?_cons_zero, o_one, u_int]
      refine ⟨fun _ => ?_, fun h => by simp at h⟩
      have := hk [] y
      simpa [apB, apN_zero] using this
    · have hd : m % 16 < 16 := Nat.mod_lt _ (by decide)
      have hl' : (apN (m / 16)).length + (UInt8.ofNat (65 + m % 16) :: val).length ≤ 1000 := by
        rw [apN_pos q] at hl; simp at hl ⊢; lia
      obtain ⟨n, hn⟩ := ih (m / 16) (Nat.div_lt_self (Nat.pos_of_ne_zero q) (by decide)) (UInt8.ofNat (65 + m % 16) :: val) (some (.int ((m : Int) % 16))) (σ ++ [.tup [.int ((m : Int) / 16), .int ((m : Int) % 16)]]) hl' fun xs y' => by
        have := hk ([.tup [.int ((m : Int) / 16), .int ((m : Int) % 16)]] ++ xs) y'
        rw [← List.append_assoc] at this
        have e : apB (m / 16) ++ UInt8.ofNat (65 + m % 16) :: val = apB m ++ val := by
          rw [apB, apB, apN_pos q]; simp
        rw [e]; exact this
      refine ⟨n + 1, ?_⟩
      simp only [whileS]
      simp only [t_var, m_var, o_one, List.getElem?_cons_zero, u_int]
      refine ⟨fun h => by simp at h; lia, fun _ => ?_⟩
      unfold int2apBody
      simp only [w_cons, w_nil, w_asg, m_bin, o_one, m_var, m_slice, m_int, w_asgT, m_bcall, m_cons, m_nil, List.getElem?_cons_zero, f_divmod]
      refine ⟨by decide, sm_small (by decide) (by decide), ?_⟩
      rw [b_bindT (by decide) (List.getElem?_concat_length)]
      refine ⟨rfl, ?_⟩
      simp only [setsL, List.set_cons_zero, List.set_cons_succ, List.getElem?_cons_succ, List.getElem?_cons_zero, v_add]
      refine ⟨_, _, by simp [AP, Fits], rfl, rfl, ?_⟩
      simp only [v_addB]
      have e1 := AP_cut (m % 16) hd
      have e2 : ((m % 16 : Nat) : Int) = (m : Int) % 16 := by lia
      rw [e2] at e1
      rw [show AP.length = 16 from rfl, e1]
      refine ⟨by simp [Fits] at hl' ⊢; lia, ?_⟩
      have e3 : ((m / 16 : Nat) : Int) = (m : Int) / 16 := by lia
      rw [e3] at hn
      exact hn
theorem int2ap_spec {Φ : Con} {K : VK} {x : Int} {σ : Sto} (hx : (apN x.natAbs).length ≤ 1000) (hk : ∀ xs, K (.bytes (apB x.natAbs)) (σ ++ xs)) : wS Φ sh_Int2AP [some (.int x), none, none, none] σ (retK K) := by
  unfold sh_Int2AP
  simp only [w_cons, w_nil, r_next, w_ret, r_ret, m_var, o_one, w_asg, m_bcall, m_cons, m_nil, m_bytes, List.set_cons_succ, List.set_cons_zero, List.getElem?_cons_zero, f_abs, f_int]
  have e : (if x < 0 then -x else x) = (x.natAbs : Int) := by split <;> lia
  rw [e]
  refine int2ap_loop x.natAbs [] none σ (by simpa using hx) fun xs y' => ?_
  simp only [List.getElem?_cons_succ, List.getElem?_cons_zero]
  rw [List.append_nil]
  exact hk xs

/-! the letters read back -/
noncomputable def vl : Nat → List Nat → Nat
  | a, [] => a
  | a, c :: l => vl (16 * a + (c - 65)) l
theorem vl_ge : ∀ (l : List Nat) (a : Nat), a ≤ vl a l := by
  intro l
  induction l with
  | nil => intro a; exact Nat.le_refl _
  | cons c l ih =>
    intro a
    have h := ih (16 * a + (c - 65))
    show a ≤ vl (16 * a + (c - 65)) l
    exact Nat.le_trans (by lia) h
theorem vl_app (c : Nat) : ∀ (l : List Nat) (a : Nat), vl a (l ++ [c]) = 16 * vl a l + (c - 65) := by
  intro l
  induction l with
  | nil => intro a; rfl
  | cons d l ih => intro a; exact ih _
theorem vl_apN : ∀ n, vl 0 (apN n) = n := by
  intro n
  induction n using Nat.strongRecOn with
  | _ n ih =>
    by_cases q : n = 0
    · subst q; rw [apN_zero]; rfl
    · rw [apN_pos q, vl_app, ih _ (Nat.div_lt_self (Nat.pos_of_ne_zero q) (by decide))]
      lia
theorem apN_head {c d : Nat} : ∀ {n : Nat}, (apN n ++ [c])[0]? = some d → c ≠ 65 → d ≠ 65 := by
  intro n
  induction n using Nat.strongRecOn generalizing c d with
  | _ n ih =>
    intro h hc
    by_cases q : n = 0
    · subst q; rw [apN_zero] at h
      have : c = d := by simpa using h
      lia
    · rw [apN_pos q, List.append_assoc] at h
      by_cases q2 : n / 16 = 0
      · rw [q2, apN_zero] at h
        have : 65 + n % 16 = d := by simpa using h
        lia
      · refine ih (n / 16) (Nat.div_lt_self (Nat.pos_of_ne_zero q) (by decide)) (c := 66) (d := d) ?_ (by decide)
        have l : 0 < (apN (n / 16)).length := by rw [apN_pos q2]; simp
        rw [List.getElem?_append_left l] at h ⊢
        exact h
theorem strsV_map : ∀ l : List (List Nat), strsV (l.map .str) = some l
  | [] => rfl
  | a :: l => by simp [strsV, strsV_map l]
theorem intsV_map : ∀ l : List Int, intsV (l.map .int) = some l
  | [] => rfl
  | a :: l => by simp [intsV, intsV_map l]
theorem flat_one : ∀ l : List Nat, (l.map fun c => [c]).flatten = l
  | [] => rfl
  | a :: l => by simp [flat_one l]
end MI.Internal
end

section
set_option Elab.async false
set_option linter.all false
set_option maxRecDepth 10000
namespace MI.Internal
open PySem PySem.W

/-! ## the store, kept but for some places -/
noncomputable def Fr (m : List Nat) (σ σ' : Sto) : Prop := ∀ r x, r ∉ m → σ[r]? = some x → σ'[r]? = some x
theorem Fr.refl {m : List Nat} {σ : Sto} : Fr m σ σ := fun _ _ _ e => e
theorem Fr.trans {m : List Nat} {σ σ' σ'' : Sto} (a : Fr m σ σ') (b : Fr m σ' σ'') : Fr m σ σ'' := fun r x h e => b r x h (a r x h e)
theorem Fr.mono {m m' : List Nat} {σ σ' : Sto} (a : Fr m σ σ') (h : ∀ r ∈ m, r ∈ m') : Fr m' σ σ' := fun r x hr e => a r x (fun z => hr (h r z)) e
theorem Fr.app {m : List Nat} {σ xs : Sto} : Fr m σ (σ ++ xs) := fun r x _ e => by
  rw [List.getElem?_append_left (List.getElem?_eq_some_iff.mp e).1]; exact e
theorem Fr.set {σ : Sto} {r : Nat} {y : O} : Fr [r] σ (σ.set r y) := fun q x h e => by
  rw [List.getElem?_set_ne (fun z : r = q => h (by rw [z]; exact .head _))]; exact e
theorem lt_of_get {σ : Sto} {r : Nat} {x : O} (h : σ[r]? = some x) : r < σ.length := (List.getElem?_eq_some_iff.mp h).1
theorem set_get {σ : Sto} {r : Nat} {x y : O} (h : σ[r]? = some x) : (σ.set r y)[r]? = some y := List.getElem?_set_self (lt_of_get h)
theorem ag0 {σ xs : Sto} : (σ ++ xs)[σ.length]? = xs[0]? := by rw [List.getElem?_append_right (Nat.le_refl _), Nat.sub_self]
theorem ag {σ xs : Sto} {i : Nat} : (σ ++ xs)[σ.length + i]? = xs[i]? := by rw [List.getElem?_append_right (Nat.le_add_right _ _), Nat.add_sub_cancel_left]
theorem as0 {σ xs : Sto} {y : O} : (σ ++ xs).set σ.length y = σ ++ xs.set 0 y := by rw [List.set_append_right _ _ (Nat.le_refl _), Nat.sub_self]
theorem as1 {σ xs : Sto} {i : Nat} {y : O} : (σ ++ xs).set (σ.length + i) y = σ ++ xs.set i y := by rw [List.set_append_right _ _ (Nat.le_add_right _ _), Nat.add_sub_cancel_left]
theorem ll {σ xs : Sto} : (σ ++ xs).length = σ.length + xs.length := List.length_append

/-! ## attributes -/
theorem t_put {σ : Sto} {r d : Nat} {es : List (List Nat × V)} {name : List Nat} {v : V} {K : Sto → Prop} (h : σ[r]? = some (.inst d)) (hd : σ[d]? = some (.dict es)) : attP (.obj r) name v σ K = (es.length < 100 ∧ K (σ.set d (.dict (putD name v es)))) := by
  simp only [attP, h, hd]
theorem t_get {σ : Sto} {r d : Nat} {es : List (List Nat × V)} {name : List Nat} {v : V} {K : VK} (h : σ[r]? = some (.inst d)) (hd : σ[d]? = some (.dict es)) (hl : es.lookup name = some v) : attS (.obj r) name σ K = K v σ := by
  simp only [attS, h, hd, hl]
theorem t_mth {σ : Sto} {r d : Nat} {es : List (List Nat × V)} {name : List Nat} (h : σ[r]? = some (.inst d)) (hd : σ[d]? = some (.dict es)) (hl : es.lookup name = none) : mthS (.obj r) name σ := by
  simp only [mthS, h, hd, hl]

noncomputable abbrev nLineno : List Nat := [108, 105, 110, 101, 110, 111]
noncomputable abbrev nInstream : List Nat := [105, 110, 115, 116, 114, 101, 97, 109]
noncomputable abbrev nWhite : List Nat := [119, 104, 105, 116, 101, 115, 112, 97, 99, 101]
noncomputable abbrev nPush : List Nat := [112, 117, 115, 104, 98, 97, 99, 107]
noncomputable abbrev nGet : List Nat := [103, 101, 116, 95, 116, 111, 107, 101, 110]
noncomputable abbrev nPut : List Nat := [112, 117, 115, 104, 95, 116, 111, 107, 101, 110]
noncomputable abbrev white : List Nat := [10, 9, 13, 32]
noncomputable def lexD (ln : Int) (fp : V) (p : Nat) : List (List Nat × V) := [(nLineno, .int ln), (nInstream, fp), (nWhite, .str white), (nPush, .obj p)]
structure ShD (D : Defs) : Prop where
  ini : D.ini = ⟨sh_m__init, 2, 2⟩
  rc : D.me 0 = some ⟨sh_m_read_char, 1, 2⟩
  get : D.me 1 = some ⟨sh_m_get_token, 1, 4⟩
  put : D.me 2 = some ⟨sh_m_push_token, 2, 2⟩
section
variable {D : Defs} {k : Nat} {σ : Sto} {K : VK}
theorem me_of {m : Nat} {d : Dfn} {v : V} {vs : List V} (h : D.me m = some d) (hr : runD (conOf D k) d (v :: vs) σ K) : (conOf D (k + 1)).me m v vs σ K := by
  show (match D.me m with | some d => runD (conOf D k) d (v :: vs) σ K | none => False)
  rw [h]; exact hr
theorem new_spec (S : ShD D) {fp : V} (hk : K (.obj (σ.length + 1)) (σ ++ [.dict (lexD 1 fp (σ.length + 2)), .inst σ.length, .list []])) : (conOf D (k + 1)).nw [fp] σ K := by
  show runD (conOf D k) D.ini (.obj (σ.length + 1) :: [fp]) (σ ++ [.dict [], .inst σ.length]) fun v σ' => v = .none ∧ K (.obj (σ.length + 1)) σ'
  rw [S.ini]
  refine ⟨rfl, ?_⟩
  show wS _ sh_m__init [some (.obj (σ.length + 1)), some fp] _ (retK _)
  unfold sh_m__init
  simp only [w_cons, w_nil, r_next, true_and, w_asgA, m_var, o_one, m_list, m_nil, m_str, List.getElem?_cons_succ, List.getElem?_cons_zero, m_int]
  rw [t_put (d := σ.length) (es := []) (by rw [ag]; rfl) (by rw [ag0]; rfl), as0]
  refine ⟨by simp [putD], ?_⟩
  simp only [List.set_cons_zero, putD]
  rw [t_put (d := σ.length) (by rw [ag]; rfl) (by rw [ag0]; rfl), as0]
  refine ⟨by simp [putD], ?_⟩
  simp only [List.set_cons_zero]
  rw [t_put (d := σ.length) (by rw [ag]; rfl) (by rw [ag0]; rfl), as0]
  refine ⟨by simp [putD], ?_⟩
  simp only [List.set_cons_zero]
  refine ⟨fits_le (by decide), ?_⟩
  rw [List.append_assoc, ll]
  rw [t_put (d := σ.length) (by rw [ag]; rfl) (by rw [ag0]; rfl), as0]
  refine ⟨by simp [putD], ?_⟩
  exact hk

/-! ## what waits -/
structure Qu where
  q : Nat
  d : Nat
  p : Nat
noncomputable def Qu.At (Q : Qu) (pu : List V) (σ : Sto) : Prop := σ[Q.q]? = some (.inst Q.d) ∧
  (∃ es, σ[Q.d]? = some (.dict es) ∧ es.lookup nPush = some (.obj Q.p) ∧ es.lookup nGet = none ∧ es.lookup nPut = none ∧ es.lookup rcName = none) ∧ σ[Q.p]? = some (.list pu)
theorem Qu.At.fr {Q : Qu} {pu : List V} {σ σ' : Sto} {m : List Nat} (h : Q.At pu σ) (F : Fr m σ σ') (hm : ∀ r ∈ m, ∃ l, σ[r]? = some (.list l)) (hp : Q.p ∉ m) : Q.At pu σ' := by
  obtain ⟨h1, ⟨es, h2, r⟩, h3⟩ := h
  have no : ∀ {r : Nat} {x : O}, σ[r]? = some x → (∀ l, x ≠ .list l) → r ∉ m := fun e hx z => by
    obtain ⟨l, hl⟩ := hm _ z
    rw [e] at hl
    exact hx l (Option.some.inj hl)
  exact ⟨F _ _ (no h1 fun _ e => by cases e) h1, ⟨es, F _ _ (no h2 fun _ e => by cases e) h2, r⟩, F _ _ hp h3⟩
theorem Qu.At.app {Q : Qu} {pu : List V} {σ xs : Sto} (h : Q.At pu σ) : Q.At pu (σ ++ xs) := h.fr (m := []) .app (fun _ h => (List.not_mem_nil h).elim) List.not_mem_nil
theorem Qu.At.turn {Q : Qu} {pu pu' : List V} {σ : Sto} (h : Q.At pu σ) : Q.At pu' (σ.set Q.p (.list pu')) := by
  obtain ⟨h1, ⟨es, h2, r⟩, h3⟩ := h
  have no : ∀ {r : Nat} {x : O}, σ[r]? = some x → (∀ l, x ≠ .list l) → r ∉ [Q.p] := fun e hx z => by
    have z' := List.mem_singleton.mp z
    rw [z', h3] at e
    exact hx _ (Option.some.inj e).symm
  exact ⟨Fr.set _ _ (no h1 fun _ e => by cases e) h1, ⟨es, Fr.set _ _ (no h2 fun _ e => by cases e) h2, r⟩, set_get h3⟩
theorem Qu.At.mput {Q : Qu} {pu : List V} (h : Q.At pu σ) : mthS (.obj Q.q) nPut σ := let ⟨h1, ⟨_, h2, _, _, a, _⟩, _⟩ := h; t_mth h1 h2 a
theorem Qu.At.mget {Q : Qu} {pu : List V} (h : Q.At pu σ) : mthS (.obj Q.q) nGet σ := let ⟨h1, ⟨_, h2, _, a, _, _⟩, _⟩ := h; t_mth h1 h2 a
theorem put_spec (S : ShD D) {Q : Qu} {pu : List V} {v : V} (h : Q.At pu σ) (hf : Fits pu.length) (hk : K .none (σ.set Q.p (.list (pu ++ [v])))) : (conOf D (k + 1)).me 2 (.obj Q.q) [v] σ K := by
  refine me_of S.put ⟨rfl, ?_⟩
  show wS _ sh_m_push_token [some (.obj Q.q), some v] σ (retK K)
  obtain ⟨h1, ⟨es, h2, h4, _⟩, h3⟩ := h
  unfold sh_m_push_token
  simp only [w_cons, w_nil, r_next, w_expr, m_bm, o_one, m_cons, m_nil, m_var, List.getElem?_cons_succ, List.getElem?_cons_zero, m_attr]
  rw [t_get h1 h2 h4]
  simp only [b_append h3]
  exact ⟨bt_append h3, hf, hk⟩
theorem get_spec (S : ShD D) {Q : Qu} {pu : List V} {v : V} (h : Q.At (v :: pu) σ) (hf : Fits (v :: pu).length) (hk : K v (σ.set Q.p (.list pu))) : (conOf D (k + 1)).me 1 (.obj Q.q) [] σ K := by
  refine me_of S.get ⟨rfl, ?_⟩
  show wS _ sh_m_get_token [some (.obj Q.q), none, none, none] σ (retK K)
  obtain ⟨h1, ⟨es, h2, h4, _⟩, h3⟩ := h
  unfold sh_m_get_token
  simp only [w_cons, w_nil, r_next, w_ret, r_ret, m_var, o_one, w_asg, m_citer, m_str, w_ife, m_bm, m_cons, m_nil, m_int, m_attr, List.getElem?_cons_zero, List.set_cons_succ, List.set_cons_zero, t_attr]
  rw [t_get h1 h2 h4]
  simp only [u_list h3, List.isEmpty_cons, Bool.not_false, forall_const, reduceCtorEq, false_implies, and_true]
  refine ⟨hf, ?_⟩
  rw [t_get h1 h2 h4]
  simp only [b_pop h3]
  exact ⟨bt_pop h3, by unfold Fits at hf ⊢; simp at hf; lia, hk⟩
end

/-! ## lists compared -/
noncomputable def flatV : V → Prop
  | .none => True
  | .int _ => True
  | .str l => ∀ c ∈ l, c < 0x110000
  | _ => False
theorem flat_dat (σ : Sto) (n : Nat) : ∀ {vs : List V}, (∀ v ∈ vs, flatV v) → ∃ ds, A3 (datL (datV σ n) vs = some ds) ((∀ d ∈ ds, ∀ m, kqdOk m d = true)) (datL datF vs = some ds)
  | [], _ => ⟨[], rfl, fun _ h => (List.not_mem_nil h).elim, rfl⟩
  | v :: vs, h => by
    obtain ⟨ds, h1, h2, h3⟩ := flat_dat σ n (vs := vs) fun w hw => h w (.tail _ hw)
    have hv := h v (.head _)
    have key : ∀ d, datF v = some d → datV σ n v = some d → (∀ m, kqdOk m d = true) → ∃ ds, A3 (datL (datV σ n) (v :: vs) = some ds) ((∀ d ∈ ds, ∀ m, kqdOk m d = true)) (datL datF (v :: vs) = some ds) := fun d e1 e2 e3 =>
      ⟨d :: ds, by simp only [datL, e2, h1], fun d' hd' => by rcases List.mem_cons.mp hd' with rfl | q; exact e3; exact h2 _ q, by simp only [datL, e1, h3]⟩
    cases v with
    | none => exact key .none rfl (by cases n <;> rfl) fun m => by cases m <;> rfl
    | int i => exact key (.int i) rfl (by cases n <;> rfl) fun m => by cases m <;> rfl
    | str l =>
      refine key (.str ⟨l.toArray⟩) rfl (by cases n <;> rfl) fun m => ?_
      have : PyData.strOk ⟨l.toArray⟩ = true := by
        unfold PyData.strOk
        rw [Array.all_eq_true']
        intro c hc
        have hc' : c ∈ l := by simpa using hc
        simpa using hv c hc'
      cases m <;> exact this
    | bool _ => exact hv.elim
    | bytes _ => exact hv.elim
    | obj _ => exact hv.elim
theorem dat_obj {σ : Sto} {n r : Nat} {l : List V} (h : σ[r]? = some (.list l)) : datV σ (n + 1) (.obj r) = (datL (datV σ n) l).map .list := by
  show (match σ[r]? with | some (.list l) => _ | _ => _) = _
  rw [h]
theorem c_neSame {σ : Sto} {r q : Nat} {vs : List V} {T : Bool → Sto → Prop} (h : σ[r]? = some (.list vs)) (h' : σ[q]? = some (.list vs)) (hf : ∀ v ∈ vs, flatV v) (k : T false σ) : cmpS .NotEq (.obj r) (.obj q) σ T := by
  obtain ⟨ds, h1, h2, _⟩ := flat_dat σ 8 hf
  refine ⟨ds, ds, by rw [dat_obj (n := 8) h, h1]; rfl, by rw [dat_obj (n := 8) h', h1]; rfl, fun d hd => h2 d hd 8, fun d hd => h2 d hd 8, fun b hb => ?_⟩
  have : b = false := hb.mpr rfl
  rw [this]; exact k
theorem c_eqSame {σ : Sto} {r q : Nat} {vs : List V} {T : Bool → Sto → Prop} (h : σ[r]? = some (.list vs)) (h' : σ[q]? = some (.list vs)) (hf : ∀ v ∈ vs, flatV v) (k : T true σ) : cmpS .Eq (.obj r) (.obj q) σ T := by
  obtain ⟨ds, h1, h2, _⟩ := flat_dat σ 8 hf
  refine ⟨ds, ds, by rw [dat_obj (n := 8) h, h1]; rfl, by rw [dat_obj (n := 8) h', h1]; rfl, fun d hd => h2 d hd 8, fun d hd => h2 d hd 8, fun b hb => ?_⟩
  have : b = true := hb.mpr rfl
  rw [this]; exact k
/-- lists of lists -/
theorem nest_dat {σ : Sto} : ∀ {as : List Nat} {ls : List (List V)}, as.length = ls.length → (∀ (i a : Nat) (l : List V), as[i]? = some a → ls[i]? = some l → σ[a]? = some (.list l)) → (∀ l ∈ ls, ∀ v ∈ l, flatV v) →
    ∃ ds, A3 (datL (datV σ 8) (as.map .obj) = some ds) ((∀ d ∈ ds, kqdOk 8 d = true)) (ds.map some = ls.map fun l => (datL datF l).map Dat.list)
  | [], [], _, _, _ => ⟨[], rfl, fun _ h => (List.not_mem_nil h).elim, rfl⟩
  | a :: as, l :: ls, hl, h, hf => by
    obtain ⟨ds, h1, h2, h3⟩ := nest_dat (σ := σ) (as := as) (ls := ls) (by simpa using hl) (fun i a l e1 e2 => h (i + 1) a l e1 e2) fun l hl => hf l (.tail _ hl)
    obtain ⟨es, k1, k2, k3⟩ := flat_dat σ 7 (hf l (.head _))
    have ha := h 0 a l rfl rfl
    refine ⟨.list es :: ds, by simp only [List.map_cons, datL, dat_obj (n := 7) ha, k1, Option.map_some, h1], fun d hd => ?_, by simp [h3, k3]⟩
    rcases List.mem_cons.mp hd with rfl | q
    · exact List.all_eq_true.mpr fun d hd => k2 d hd 7
    · exact h2 d q
  | [], _ :: _, h, _, _ => by simp at h
  | _ :: _, [], h, _, _ => by simp at h
theorem nest_same {σ : Sto} {as bs : List Nat} {ls : List (List V)} (ha : as.length = ls.length) (hb : bs.length = ls.length) (h : ∀ (i a : Nat) (l : List V), as[i]? = some a → ls[i]? = some l → σ[a]? = some (.list l)) (h' : ∀ (i a : Nat) (l : List V), bs[i]? = some a → ls[i]? = some l → σ[a]? = some (.list l)) (hf : ∀ l ∈ ls, ∀ v ∈ l, flatV v) :
    ∃ ds, A3 (datL (datV σ 8) (as.map .obj) = some ds) (datL (datV σ 8) (bs.map .obj) = some ds) (∀ d ∈ ds, kqdOk 8 d = true) := by
  obtain ⟨ds, h1, h2, h3⟩ := nest_dat ha h hf
  obtain ⟨es, k1, k2, k3⟩ := nest_dat hb h' hf
  have : ds = es := by
    have e := h3.trans k3.symm
    exact (List.map_inj_right fun _ _ q => Option.some.inj q).mp e
  subst this
  exact ⟨ds, h1, k1, h2⟩
theorem c_eqNest {σ : Sto} {r q : Nat} {as bs : List Nat} {ls : List (List V)} {T : Bool → Sto → Prop} (hr : σ[r]? = some (.list (as.map .obj))) (hq : σ[q]? = some (.list (bs.map .obj))) (ha : as.length = ls.length) (hb : bs.length = ls.length)
    (h : ∀ (i a : Nat) (l : List V), as[i]? = some a → ls[i]? = some l → σ[a]? = some (.list l)) (h' : ∀ (i a : Nat) (l : List V), bs[i]? = some a → ls[i]? = some l → σ[a]? = some (.list l)) (hf : ∀ l ∈ ls, ∀ v ∈ l, flatV v) (k : T true σ) : cmpS .Eq (.obj r) (.obj q) σ T := by
  obtain ⟨ds, h1, h2, h3⟩ := nest_same ha hb h h' hf
  refine ⟨ds, ds, by rw [dat_obj (n := 8) hr, h1]; rfl, by rw [dat_obj (n := 8) hq, h2]; rfl, h3, h3, fun b hb => ?_⟩
  have : b = true := hb.mpr rfl
  rw [this]; exact k
theorem c_neNest {σ : Sto} {r q : Nat} {as bs : List Nat} {ls : List (List V)} {T : Bool → Sto → Prop} (hr : σ[r]? = some (.list (as.map .obj))) (hq : σ[q]? = some (.list (bs.map .obj))) (ha : as.length = ls.length) (hb : bs.length = ls.length)
    (h : ∀ (i a : Nat) (l : List V), as[i]? = some a → ls[i]? = some l → σ[a]? = some (.list l)) (h' : ∀ (i a : Nat) (l : List V), bs[i]? = some a → ls[i]? = some l → σ[a]? = some (.list l)) (hf : ∀ l ∈ ls, ∀ v ∈ l, flatV v) (k : T false σ) : cmpS .NotEq (.obj r) (.obj q) σ T := by
  obtain ⟨ds, h1, h2, h3⟩ := nest_same ha hb h h' hf
  refine ⟨ds, ds, by rw [dat_obj (n := 8) hr, h1]; rfl, by rw [dat_obj (n := 8) hq, h2]; rfl, h3, h3, fun b hb => ?_⟩
  have : b = false := hb.mpr rfl
  rw [this]; exact k
theorem Fr.fresh {σ σ₁ σ₂ : Sto} {m : List Nat} (a : Fr [] σ σ₁) (b : Fr m σ₁ σ₂) (h : ∀ r ∈ m, σ.length ≤ r) : Fr [] σ σ₂ := fun r x _ e => by
  refine b r x (fun z => ?_) (a r x List.not_mem_nil e)
  have := h r z
  have := lt_of_get e
  lia
end MI.Internal
end

section
set_option Elab.async false
set_option linter.all false
set_option maxRecDepth 10000
namespace MI.Internal
open PySem PySem.W

/-! ## a lexer over a text -/
structure Lx where
  q : Nat
  d : Nat
  p : Nat
  q2 : Nat
  d2 : Nat
  f : Nat
  c : Nat
  kd : Nat
  t : Nat
noncomputable def Lx.Qu (L : Lx) : Qu := ⟨L.q, L.d, L.p⟩
structure Lx.At (L : Lx) (ln : Int) (txt : List Nat) (pu : List V) (σ : Sto) : Prop where
  q : σ[L.q]? = some (.inst L.d)
  d : σ[L.d]? = some (.dict (lexD ln (.obj L.q2) L.p))
  p : σ[L.p]? = some (.list pu)
  q2 : σ[L.q2]? = some (.inst L.d2)
  d2 : ∃ es, σ[L.d2]? = some (.dict es) ∧ es.lookup readNm = some (.obj L.f)
  f : σ[L.f]? = some (.fn L.c L.kd)
  c : σ[L.c]? = some (.cell (.obj L.t))
  kd : σ[L.kd]? = some .code
  t : σ[L.t]? = some (.list (txt.map fun c => .str [c]))
  dd : L.d ≠ L.d2
  pt : L.p ≠ L.t
noncomputable def Lx.mu (L : Lx) : List Nat := [L.d, L.t]
section
variable {D : Defs} {k : Nat} {σ σ' : Sto} {K : VK} {L : Lx} {ln : Int} {txt : List Nat} {pu : List V}
theorem Lx.At.qu (h : L.At ln txt pu σ) : L.Qu.At pu σ := ⟨h.q, ⟨_, h.d, rfl, rfl, rfl, rfl⟩, h.p⟩
theorem no_mem {σ : Sto} {r : Nat} {x : O} {m : List Nat} (h : σ[r]? = some x) (hm : ∀ q ∈ m, ∃ y, σ[q]? = some y ∧ y ≠ x) : r ∉ m := fun z => by
  obtain ⟨y, h1, h2⟩ := hm _ z
  rw [h] at h1
  exact h2 (Option.some.inj h1).symm
/-- what else is turned leaves the lexer -/
theorem Lx.At.fr {m : List Nat} (h : L.At ln txt pu σ) (F : Fr m σ σ') (hm : ∀ r ∈ m, (∃ l, σ[r]? = some (.list l)) ∨ ∃ es, σ[r]? = some (.dict es)) (h1 : L.d ∉ m) (h2 : L.d2 ∉ m) (h3 : L.p ∉ m) (h4 : L.t ∉ m) : L.At ln txt pu σ' := by
  have no : ∀ {r : Nat} {x : O}, σ[r]? = some x → (∀ l, x ≠ .list l) → (∀ l, x ≠ .dict l) → r ∉ m := fun e a b z => by
    rcases hm _ z with ⟨l, hl⟩ | ⟨l, hl⟩ <;> rw [e] at hl
    · exact a l (Option.some.inj hl)
    · exact b l (Option.some.inj hl)
  obtain ⟨es, h5, h6⟩ := h.d2
  exact ⟨F _ _ (no h.q (fun _ e => by cases e) fun _ e => by cases e) h.q, F _ _ h1 h.d, F _ _ h3 h.p, F _ _ (no h.q2 (fun _ e => by cases e) fun _ e => by cases e) h.q2, ⟨es, F _ _ h2 h5, h6⟩,
    F _ _ (no h.f (fun _ e => by cases e) fun _ e => by cases e) h.f, F _ _ (no h.c (fun _ e => by cases e) fun _ e => by cases e) h.c, F _ _ (no h.kd (fun _ e => by cases e) fun _ e => by cases e) h.kd, F _ _ h4 h.t, h.dd, h.pt⟩
theorem Lx.At.app {xs : Sto} (h : L.At ln txt pu σ) : L.At ln txt pu (σ ++ xs) := h.fr (m := []) .app (fun _ h => (List.not_mem_nil h).elim) List.not_mem_nil List.not_mem_nil List.not_mem_nil List.not_mem_nil
theorem Lx.At.ne_dp (h : L.At ln txt pu σ) : L.d ≠ L.p := fun e => by have := h.d; rw [e, h.p] at this; cases this
theorem Lx.At.ne_dt (h : L.At ln txt pu σ) : L.d ≠ L.t := fun e => by have := h.d; rw [e, h.t] at this; cases this
theorem Lx.At.ne_d2t (h : L.At ln txt pu σ) : L.d2 ≠ L.t := fun e => by obtain ⟨es, h5, _⟩ := h.d2; rw [e, h.t] at h5; cases h5
theorem Lx.At.ne_d2p (h : L.At ln txt pu σ) : L.d2 ≠ L.p := fun e => by obtain ⟨es, h5, _⟩ := h.d2; rw [e, h.p] at h5; cases h5
theorem Lx.At.setT {txt' : List Nat} (h : L.At ln txt pu σ) : L.At ln txt' pu (σ.set L.t (.list (txt'.map fun c => .str [c]))) := by
  have F : Fr [L.t] σ (σ.set L.t (.list (txt'.map fun c => .str [c]))) := .set
  have no : ∀ {r : Nat} {x : O}, σ[r]? = some x → (∀ l, x ≠ .list l) → r ∉ [L.t] := fun e hx z => by
    rw [List.mem_singleton.mp z, h.t] at e
    exact hx _ (Option.some.inj e).symm
  obtain ⟨es, h5, h6⟩ := h.d2
  exact ⟨F _ _ (no h.q fun _ e => by cases e) h.q, F _ _ (no h.d fun _ e => by cases e) h.d, F _ _ (fun z => h.pt (List.mem_singleton.mp z)) h.p, F _ _ (no h.q2 fun _ e => by cases e) h.q2, ⟨es, F _ _ (no h5 fun _ e => by cases e) h5, h6⟩,
    F _ _ (no h.f fun _ e => by cases e) h.f, F _ _ (no h.c fun _ e => by cases e) h.c, F _ _ (no h.kd fun _ e => by cases e) h.kd, set_get h.t, h.dd, h.pt⟩
theorem Lx.At.setP {pu' : List V} (h : L.At ln txt pu σ) : L.At ln txt pu' (σ.set L.p (.list pu')) := by
  have F : Fr [L.p] σ (σ.set L.p (.list pu')) := .set
  have no : ∀ {r : Nat} {x : O}, σ[r]? = some x → (∀ l, x ≠ .list l) → r ∉ [L.p] := fun e hx z => by
    rw [List.mem_singleton.mp z, h.p] at e
    exact hx _ (Option.some.inj e).symm
  obtain ⟨es, h5, h6⟩ := h.d2
  exact ⟨F _ _ (no h.q fun _ e => by cases e) h.q, F _ _ (no h.d fun _ e => by cases e) h.d, set_get h.p, F _ _ (no h.q2 fun _ e => by cases e) h.q2, ⟨es, F _ _ (no h5 fun _ e => by cases e) h5, h6⟩,
    F _ _ (no h.f fun _ e => by cases e) h.f, F _ _ (no h.c fun _ e => by cases e) h.c, F _ _ (no h.kd fun _ e => by cases e) h.kd, F _ _ (fun z => h.pt (List.mem_singleton.mp z).symm) h.t, h.dd, h.pt⟩
theorem Lx.At.setD {ln' : Int} (h : L.At ln txt pu σ) : L.At ln' txt pu (σ.set L.d (.dict (lexD ln' (.obj L.q2) L.p))) := by
  have F : Fr [L.d] σ (σ.set L.d (.dict (lexD ln' (.obj L.q2) L.p))) := .set
  have no : ∀ {r : Nat} {x : O}, σ[r]? = some x → (∀ l, x ≠ .dict l) → r ∉ [L.d] := fun e hx z => by
    rw [List.mem_singleton.mp z, h.d] at e
    exact hx _ (Option.some.inj e).symm
  obtain ⟨es, h5, h6⟩ := h.d2
  exact ⟨F _ _ (no h.q fun _ e => by cases e) h.q, set_get h.d, F _ _ (no h.p fun _ e => by cases e) h.p, F _ _ (no h.q2 fun _ e => by cases e) h.q2, ⟨es, F _ _ (fun z => h.dd (List.mem_singleton.mp z).symm) h5, h6⟩,
    F _ _ (no h.f fun _ e => by cases e) h.f, F _ _ (no h.c fun _ e => by cases e) h.c, F _ _ (no h.kd fun _ e => by cases e) h.kd, F _ _ (no h.t fun _ e => by cases e) h.t, h.dd, h.pt⟩

theorem rd_eq : (conOf D (k + 1)).rd = rdS := rfl
theorem rc_end (S : ShD D) (h : L.At ln [] pu σ) (hk : K (.str []) σ) : (conOf D (k + 2)).me 0 (.obj L.q) [] σ K := by
  refine me_of S.rc ⟨rfl, ?_⟩
  show wS _ sh_m_read_char [some (.obj L.q), none] σ (retK K)
  obtain ⟨es, h5, h6⟩ := h.d2
  unfold sh_m_read_char
  simp only [w_cons, w_nil, r_next, w_ret, r_ret, m_var, o_one, w_ife, w_augA, m_int, t_cmp, m_str, w_asg, List.set_cons_succ, List.set_cons_zero, List.getElem?_cons_succ, List.getElem?_cons_zero, m_cr, m_cons, m_nil, m_attr]
  rw [t_get h.q h.d rfl]
  rw [t_get (name := [114, 101, 97, 100]) h.q2 h5 h6]
  simp only [w_nil, w_cons, w_asg, w_asgT, w_asgA, w_aug, w_augI, w_augA, w_expr, w_ret, w_retN, w_ife, w_brk, w_cont, o_one, m_none, m_tru, m_fls, m_int, m_str, m_bytes, m_var, m_nil, m_cons, m_bin, m_neg, m_not, m_cmp, t_cmp, t_var, t_bin, t_attr, t_isb, t_call, t_bool, ts_nil, ts_and, ts_or, m_ife, m_idx, m_slice, m_list, m_tup, m_call, m_new, m_bcall, m_bm, m_cm, m_attr, m_isb, i_var, i_call, i_slice, i_list, i_comp, i_range, v_add, v_sub, v_mul, v_div, v_mod, v_pow, v_xor, v_addS, v_addB, v_mulS, a_add, a_sub, a_addS, u_int, u_bool, u_none, c_eq, c_ne, c_lt, c_le, c_gt, c_ge, c_eqS, c_neS, c_in, c_isT, c_isF, c_isntT, c_isntF, c_isN, c_isntN, b_bind1, f_lenS, f_lenB, f_chr, f_ord, f_max2, f_listS, f_abs, f_int, f_divmod, b_sindex, bt_join, bt_sindex, List.getElem?_cons_zero, List.getElem?_cons_succ, List.set_cons_zero, List.set_cons_succ, setsL, true_and, and_true, forall_const, Bool.not_true, Bool.not_false, reduceCtorEq, false_implies, true_implies, implies_true, t_nil, s_one, i_rng1, i_rng2, i_str, i_byt, b_bindL, r_ret, r_next, bo_or, bo_and, m_cr, m_citer, decide_true, decide_false]
  rw [rd_eq]
  simp only [rdS, h.f, h.c, h.kd, h.t, List.map_nil, true_and]
  refine ⟨fits_le (by decide), ?_⟩
  simp only [c_eqS, reduceCtorEq, decide_false, false_implies, forall_const, true_and]
  exact hk
theorem rc_char (S : ShD D) {c : Nat} (h : L.At ln (c :: txt) pu σ) (hf : Fits (c :: txt).length) (hk : ∀ σ', L.At (if c = 10 then ln + 1 else ln) txt pu σ' → Fr L.mu σ σ' → K (.str [c]) σ') : (conOf D (k + 2)).me 0 (.obj L.q) [] σ K := by
  refine me_of S.rc ⟨rfl, ?_⟩
  show wS _ sh_m_read_char [some (.obj L.q), none] σ (retK K)
  obtain ⟨es, h5, h6⟩ := h.d2
  unfold sh_m_read_char
  simp only [w_cons, w_nil, r_next, w_ret, r_ret, m_var, o_one, w_ife, w_augA, m_int, t_cmp, m_str, w_asg, List.set_cons_succ, List.set_cons_zero, List.getElem?_cons_succ, List.getElem?_cons_zero, m_cr, m_cons, m_nil, m_attr]
  rw [t_get h.q h.d rfl]
  rw [t_get (name := [114, 101, 97, 100]) h.q2 h5 h6]
  simp only [w_nil, w_cons, w_asg, w_asgT, w_asgA, w_aug, w_augI, w_augA, w_expr, w_ret, w_retN, w_ife, w_brk, w_cont, o_one, m_none, m_tru, m_fls, m_int, m_str, m_bytes, m_var, m_nil, m_cons, m_bin, m_neg, m_not, m_cmp, t_cmp, t_var, t_bin, t_attr, t_isb, t_call, t_bool, ts_nil, ts_and, ts_or, m_ife, m_idx, m_slice, m_list, m_tup, m_call, m_new, m_bcall, m_bm, m_cm, m_attr, m_isb, i_var, i_call, i_slice, i_list, i_comp, i_range, v_add, v_sub, v_mul, v_div, v_mod, v_pow, v_xor, v_addS, v_addB, v_mulS, a_add, a_sub, a_addS, u_int, u_bool, u_none, c_eq, c_ne, c_lt, c_le, c_gt, c_ge, c_eqS, c_neS, c_in, c_isT, c_isF, c_isntT, c_isntF, c_isN, c_isntN, b_bind1, f_lenS, f_lenB, f_chr, f_ord, f_max2, f_listS, f_abs, f_int, f_divmod, b_sindex, bt_join, bt_sindex, List.getElem?_cons_zero, List.getElem?_cons_succ, List.set_cons_zero, List.set_cons_succ, setsL, true_and, and_true, forall_const, Bool.not_true, Bool.not_false, reduceCtorEq, false_implies, true_implies, implies_true, t_nil, s_one, i_rng1, i_rng2, i_str, i_byt, b_bindL, r_ret, r_next, bo_or, bo_and, m_cr, m_citer, decide_true, decide_false]
  rw [rd_eq]
  simp only [rdS, h.f, h.c, h.kd, h.t, List.map_cons, true_and]
  refine ⟨by simpa using hf, ?_⟩
  simp only [c_eqS]
  have h1 : L.At ln txt pu (σ.set L.t (.list (txt.map fun c => .str [c]))) := h.setT
  have F1 : Fr L.mu σ (σ.set L.t (.list (txt.map fun c => .str [c]))) := Fr.set.mono fun r hr => by rw [List.mem_singleton] at hr; subst hr; exact .tail _ (.head _)
  refine ⟨fun e => ?_, fun e => ?_⟩
  · have e : c = 10 := by simpa using e
    rw [if_pos e] at hk
    rw [t_get h1.q h1.d rfl]
    simp only [a_add]
    rw [t_put h1.q h1.d]
    refine ⟨by simp [lexD], ?_⟩
    refine hk _ h1.setD (F1.trans (Fr.set.mono fun r hr => by rw [List.mem_singleton] at hr; subst hr; exact .head _))
  · have e : c ≠ 10 := by simpa using e
    rw [if_neg e] at hk
    exact hk _ h1 F1
end
end MI.Internal
end

section
set_option Elab.async false
set_option linter.all false
set_option maxRecDepth 10000
namespace MI.Internal
open PySem PySem.W

/-! ## a text is read -/
noncomputable def gtEsc : S := .cons (.ife (.cmp .Eq (.var 3) (.str [92])) (.cons (.asg 3 (.cm 0 rcName (.var 0) .nil)) .nil) .nil) .nil
noncomputable def gtQ : S := .cons (.ife (.cmp .Eq (.var 3) (.str [34])) (.cons (.ret (.var 1)) .nil) gtEsc) (.cons (.aug 1 .Add (.var 3)) .nil)
noncomputable def gtB : S := .cons (.ife (.cmp .In (.var 3) (.attr (.var 0) nWhite)) (.cons (.ret (.var 1)) .nil) gtEsc) (.cons (.aug 1 .Add (.var 3)) .nil)
noncomputable def gtOut : S := .cons (.ife (.cmp .In (.var 3) (.attr (.var 0) nWhite)) (.cons .cont .nil) .nil) (.cons (.ife (.cmp .Eq (.var 3) (.str [34])) (.cons (.forC 3 (.var 2) gtQ) .nil)
  (.cons (.ife (.cmp .Eq (.var 3) (.str [92])) (.cons (.asg 3 (.cm 0 rcName (.var 0) .nil)) .nil) .nil) (.cons (.aug 1 .Add (.var 3)) (.cons (.forC 3 (.var 2) gtB) .nil)))) .nil)
theorem sh_get : sh_m_get_token = .cons (.ife (.attr (.var 0) nPush) (.cons (.ret (.bm .pop0 (.attr (.var 0) nPush) (.cons (.int 0) .nil))) .nil) .nil)
  (.cons (.asg 1 (.str [])) (.cons (.asg 2 (.citer (.var 0))) (.cons (.forC 3 (.var 2) gtOut) (.cons (.ret (.var 1)) .nil)))) := rfl

/-- what is typed: each sign with a backslash ahead or without -/
noncomputable def enc : List (Bool × Nat) → List Nat
  | [] => []
  | (true, c) :: l => 92 :: c :: enc l
  | (false, c) :: l => c :: enc l
noncomputable def CI (L : Lx) (qi m : Nat) (σ : Sto) : Prop := σ[qi]? = some (.citer (some m)) ∧ σ[m]? = some (.meth L.q)
section
variable {D : Defs} {k : Nat} {σ σ' : Sto} {K : FK} {L : Lx} {ln : Int} {txt : List Nat} {pu : List V} {qi m : Nat} {ρ : Lv} {step : V → Lv → Sto → FK → Prop}
theorem mu_kind (h : L.At ln txt pu σ) : ∀ r ∈ L.mu, ∃ y, σ[r]? = some y ∧ ((∃ l, y = .list l) ∨ ∃ l, y = .dict l) := fun r hr => by
  rcases List.mem_cons.mp hr with rfl | hr
  · exact ⟨_, h.d, .inr ⟨_, rfl⟩⟩
  · rw [List.mem_singleton.mp hr]; exact ⟨_, h.t, .inl ⟨_, rfl⟩⟩
theorem CI.fr (c : CI L qi m σ) (h : L.At ln txt pu σ) (F : Fr L.mu σ σ') : CI L qi m σ' := by
  have no : ∀ {r : Nat} {x : O}, σ[r]? = some x → (∀ l, x ≠ .list l) → (∀ l, x ≠ .dict l) → r ∉ L.mu := fun e a b z => by
    obtain ⟨y, h1, h2⟩ := mu_kind h _ z
    rw [e] at h1
    cases h1
    rcases h2 with ⟨l, h2⟩ | ⟨l, h2⟩
    · exact a l h2
    · exact b l h2
  exact ⟨F _ _ (no c.1 (fun _ e => by cases e) fun _ e => by cases e) c.1, F _ _ (no c.2 (fun _ e => by cases e) fun _ e => by cases e) c.2⟩
theorem cit_char (S : ShD D) {c n : Nat} (h : L.At ln (c :: txt) pu σ) (C : CI L qi m σ) (hf : Fits (c :: txt).length)
    (hs : ∀ σ', L.At (if c = 10 then ln + 1 else ln) txt pu σ' → Fr L.mu σ σ' → CI L qi m σ' → step (.str [c]) ρ σ' (flK (fun ρ' σ' => citS ((conOf D (k + 2)).me 0) step n qi ρ' σ' K) K)) : citS ((conOf D (k + 2)).me 0) step (n + 1) qi ρ σ K := by
  refine cit_run C.1 C.2 (rc_char S h hf fun σ' h' F => ?_)
  have C' := C.fr h F
  exact ⟨C'.1, C'.2, fun e => by simp at e, fun _ => hs σ' h' F C'⟩
theorem cit_end (S : ShD D) {n : Nat} (h : L.At ln [] pu σ) (C : CI L qi m σ) (hk : K .next ρ (σ.set qi (.citer none))) : citS ((conOf D (k + 2)).me 0) step (n + 1) qi ρ σ K := by
  refine cit_run C.1 C.2 (rc_end S h ?_)
  exact ⟨C.1, C.2, fun _ => hk, fun e => absurd rfl e⟩

/-- a sign is added to the token, the backslash ahead of it read away -/
noncomputable def okQ (i : Bool × Nat) : Prop := i.2 ≠ 10 ∧ (i.1 = true ∨ (i.2 ≠ 34 ∧ i.2 ≠ 92))
noncomputable def okB (i : Bool × Nat) : Prop := i.2 ≠ 10 ∧ (i.1 = true ∨ (white.contains i.2 = false ∧ i.2 ≠ 92))
noncomputable def stepQ (D : Defs) (k : Nat) : V → Lv → Sto → FK → Prop := fun v ρ σ K => wS (conOf D (k + 2)) gtQ (ρ.set 3 (some v)) σ K
noncomputable def stepB (D : Defs) (k : Nat) : V → Lv → Sto → FK → Prop := fun v ρ σ K => wS (conOf D (k + 2)) gtB (ρ.set 3 (some v)) σ K
theorem enc_len : ∀ its : List (Bool × Nat), its.length ≤ (enc its).length
  | [] => Nat.le_refl _
  | (true, c) :: l => by have := enc_len l; simp [enc]; lia
  | (false, c) :: l => by have := enc_len l; simp [enc]; lia
theorem fits_tail {a : Nat} {l : List Nat} (h : Fits (a :: l).length) : Fits l.length := by unfold Fits at h ⊢; simp at h; lia
theorem At_rc (h : L.At ln txt pu σ) : mthS (.obj L.q) rcName σ := t_mth h.q h.d rfl
theorem readQ (S : ShD D) : ∀ (its : List (Bool × Nat)) (tok : List Nat) (x : Option V) (σ : Sto), (∀ i ∈ its, okQ i) → L.At ln (enc its ++ 34 :: txt) pu σ → CI L qi m σ → Fits (enc its ++ 34 :: txt).length → Fits (tok.length + its.length) →
    (∀ x' σ', L.At ln txt pu σ' → Fr L.mu σ σ' → K (.ret (.str (tok ++ its.map (·.2)))) [some (.obj L.q), some (.str (tok ++ its.map (·.2))), some (.obj qi), x'] σ') →
    citS ((conOf D (k + 2)).me 0) (stepQ D k) (its.length + 1) qi [some (.obj L.q), some (.str tok), some (.obj qi), x] σ K
  | [], tok, x, σ, _, h, C, hf, _, hk => by
    refine cit_char S h C hf fun σ' h' F C' => ?_
    show wS (conOf D (k + 2)) gtQ _ _ _
    unfold gtQ
    simp only [List.set_cons_succ, List.set_cons_zero, w_cons, w_nil, w_aug, m_var, o_one, w_ife, w_ret, List.getElem?_cons_succ, List.getElem?_cons_zero, t_cmp, m_str, c_eqS, decide_true, forall_const, reduceCtorEq, false_implies, and_true]
    rw [if_neg (by decide)] at h'
    have := hk (some (.str [34])) σ' h' F
    show K _ _ _
    simpa using this
  | (true, c) :: its, tok, x, σ, ho, h, C, hf, hl, hk => by
    have hc : c ≠ 10 := (ho _ (.head _)).1
    have hf1 := fits_tail hf
    refine cit_char (c := 92) S h C hf fun σ' h' F C' => ?_
    rw [if_neg (by decide)] at h'
    show wS (conOf D (k + 2)) gtQ _ _ _
    unfold gtQ gtEsc
    simp only [List.set_cons_succ, List.set_cons_zero, w_cons, w_nil, w_aug, m_var, o_one, w_ife, w_ret, List.getElem?_cons_succ, List.getElem?_cons_zero, w_asg, m_cm, m_nil, a_addS, t_cmp, m_str, c_eqS, decide_true, forall_const, reduceCtorEq, false_implies, and_true, List.cons.injEq, Nat.reduceEqDiff, decide_false, true_and]
    refine ⟨At_rc h', rc_char S h' hf1 fun σ'' h'' F'' => ?_⟩
    rw [if_neg hc] at h''
    simp only [a_addS]
    refine ⟨by unfold Fits at hl ⊢; simp at hl ⊢; lia, ?_⟩
    refine readQ S its (tok ++ [c]) _ σ'' (fun i hi => ho i (.tail _ hi)) h'' (C'.fr h' F'') (fits_tail hf1) (by simp at hl ⊢; rw [Nat.add_assoc, Nat.add_comm 1]; exact hl) fun x' σ₃ a b => ?_
    have := hk x' σ₃ a ((F.trans F'').trans b)
    simpa using this
  | (false, c) :: its, tok, x, σ, ho, h, C, hf, hl, hk => by
    have hc : c ≠ 10 := (ho _ (.head _)).1
    have hd : c ≠ 34 ∧ c ≠ 92 := (ho _ (.head _)).2.resolve_left (fun e => by cases e)
    refine cit_char (c := c) S h C hf fun σ' h' F C' => ?_
    rw [if_neg hc] at h'
    show wS (conOf D (k + 2)) gtQ _ _ _
    unfold gtQ gtEsc
    simp only [List.set_cons_succ, List.set_cons_zero, w_cons, w_nil, w_aug, m_var, o_one, w_ife, w_ret, List.getElem?_cons_succ, List.getElem?_cons_zero, w_asg, m_cm, m_nil, a_addS, t_cmp, m_str, c_eqS, show decide (([c] : List Nat) = [92]) = false by simpa using hd.2, reduceCtorEq, false_implies, forall_const, true_and, show decide (([c] : List Nat) = [34]) = false by simpa using hd.1]
    refine ⟨by unfold Fits at hl ⊢; simp at hl ⊢; lia, ?_⟩
    refine readQ S its (tok ++ [c]) _ σ' (fun i hi => ho i (.tail _ hi)) h' C' (fits_tail hf) (by simp at hl ⊢; rw [Nat.add_assoc, Nat.add_comm 1]; exact hl) fun x' σ₃ a b => ?_
    have := hk x' σ₃ a (F.trans b)
    simpa using this
theorem readB (S : ShD D) {w : Nat} (hw : white.contains w = true) : ∀ (its : List (Bool × Nat)) (tok : List Nat) (x : Option V) (σ : Sto), (∀ i ∈ its, okB i) → L.At ln (enc its ++ w :: txt) pu σ → CI L qi m σ → Fits (enc its ++ w :: txt).length → Fits (tok.length + its.length) →
    (∀ x' σ', L.At (if w = 10 then ln + 1 else ln) txt pu σ' → Fr L.mu σ σ' → K (.ret (.str (tok ++ its.map (·.2)))) [some (.obj L.q), some (.str (tok ++ its.map (·.2))), some (.obj qi), x'] σ') →
    citS ((conOf D (k + 2)).me 0) (stepB D k) (its.length + 1) qi [some (.obj L.q), some (.str tok), some (.obj qi), x] σ K
  | [], tok, x, σ, _, h, C, hf, _, hk => by
    refine cit_char S h C hf fun σ' h' F C' => ?_
    show wS (conOf D (k + 2)) gtB _ _ _
    unfold gtB
    simp only [List.set_cons_succ, List.set_cons_zero, w_cons, w_nil, w_aug, m_var, o_one, w_ife, w_ret, List.getElem?_cons_succ, List.getElem?_cons_zero, t_cmp, m_attr]
    rw [t_get h'.q h'.d rfl]
    simp only [c_in, hw, forall_const, reduceCtorEq, false_implies, and_true]
    have := hk (some (.str [w])) σ' h' F
    show K _ _ _
    simpa using this
  | (true, c) :: its, tok, x, σ, ho, h, C, hf, hl, hk => by
    have hc : c ≠ 10 := (ho _ (.head _)).1
    have hf1 := fits_tail hf
    refine cit_char (c := 92) S h C hf fun σ' h' F C' => ?_
    rw [if_neg (by decide)] at h'
    show wS (conOf D (k + 2)) gtB _ _ _
    unfold gtB gtEsc
    simp only [List.set_cons_succ, List.set_cons_zero, w_cons, w_nil, w_aug, m_var, o_one, w_ife, w_ret, List.getElem?_cons_succ, List.getElem?_cons_zero, w_asg, m_cm, m_nil, a_addS, t_cmp, m_str, c_eqS, decide_true, forall_const, reduceCtorEq, false_implies, and_true, m_attr]
    rw [t_get h'.q h'.d rfl]
    simp only [c_in, show white.contains 92 = false from rfl, reduceCtorEq, false_implies, forall_const, true_and]
    refine ⟨At_rc h', rc_char S h' hf1 fun σ'' h'' F'' => ?_⟩
    rw [if_neg hc] at h''
    simp only [a_addS]
    refine ⟨by unfold Fits at hl ⊢; simp at hl ⊢; lia, ?_⟩
    refine readB S hw its (tok ++ [c]) _ σ'' (fun i hi => ho i (.tail _ hi)) h'' (C'.fr h' F'') (fits_tail hf1) (by simp at hl ⊢; rw [Nat.add_assoc, Nat.add_comm 1]; exact hl) fun x' σ₃ a b => ?_
    have := hk x' σ₃ a ((F.trans F'').trans b)
    simpa using this
  | (false, c) :: its, tok, x, σ, ho, h, C, hf, hl, hk => by
    have hc : c ≠ 10 := (ho _ (.head _)).1
    have hd : white.contains c = false ∧ c ≠ 92 := (ho _ (.head _)).2.resolve_left (fun e => by cases e)
    refine cit_char (c := c) S h C hf fun σ' h' F C' => ?_
    rw [if_neg hc] at h'
    show wS (conOf D (k + 2)) gtB _ _ _
    unfold gtB gtEsc
    simp only [List.set_cons_succ, List.set_cons_zero, w_cons, w_nil, w_aug, m_var, o_one, w_ife, w_ret, List.getElem?_cons_succ, List.getElem?_cons_zero, w_asg, m_cm, m_nil, a_addS, t_cmp, m_str, c_eqS, m_attr]
    rw [t_get h'.q h'.d rfl]
    simp only [show decide (([c] : List Nat) = [92]) = false by simpa using hd.2, reduceCtorEq, false_implies, forall_const, true_and, c_in, hd.1]
    refine ⟨by unfold Fits at hl ⊢; simp at hl ⊢; lia, ?_⟩
    refine readB S hw its (tok ++ [c]) _ σ' (fun i hi => ho i (.tail _ hi)) h' C' (fits_tail hf) (by simp at hl ⊢; rw [Nat.add_assoc, Nat.add_comm 1]; exact hl) fun x' σ₃ a b => ?_
    have := hk x' σ₃ a (F.trans b)
    simpa using this
noncomputable def stepO (D : Defs) (k : Nat) : V → Lv → Sto → FK → Prop := fun v ρ σ K => wS (conOf D (k + 2)) gtOut (ρ.set 3 (some v)) σ K
noncomputable def lns (ws : List Nat) : Int := (ws.filter (· == 10)).length
theorem lns_cons (w : Nat) (ws : List Nat) : lns (w :: ws) = (if w = 10 then 1 else 0) + lns ws := by
  unfold lns
  by_cases h : w = 10
  · subst h; simp; lia
  · rw [List.filter_cons_of_neg (by simpa using h), if_neg h]; lia
/-- white signs are passed over -/
theorem readW (S : ShD D) {n : Nat} : ∀ (ws : List Nat) (x : Option V) (σ : Sto) (ln : Int), (∀ w ∈ ws, white.contains w = true) → L.At ln (ws ++ txt) pu σ → CI L qi m σ → Fits (ws ++ txt).length →
    (∀ x' σ', L.At (ln + lns ws) txt pu σ' → Fr L.mu σ σ' → CI L qi m σ' → citS ((conOf D (k + 2)).me 0) (stepO D k) n qi [some (.obj L.q), some (.str []), some (.obj qi), x'] σ' K) →
    citS ((conOf D (k + 2)).me 0) (stepO D k) (ws.length + n) qi [some (.obj L.q), some (.str []), some (.obj qi), x] σ K
  | [], x, σ, ln, _, h, C, hf, hk => by
    rw [List.length_nil, Nat.zero_add]
    exact hk x σ (by simpa [lns] using h) .refl C
  | w :: ws, x, σ, ln, hw, h, C, hf, hk => by
    rw [List.length_cons, Nat.add_right_comm]
    refine cit_char S h C hf fun σ' h' F C' => ?_
    show wS (conOf D (k + 2)) gtOut _ _ _
    unfold gtOut
    simp only [List.set_cons_succ, List.set_cons_zero, w_cons, w_nil, w_ife, w_aug, m_var, o_one, w_asg, m_cm, m_nil, t_cmp, m_str, w_cont, List.getElem?_cons_succ, List.getElem?_cons_zero, a_addS, c_eqS, m_attr]
    rw [t_get h'.q h'.d rfl]
    simp only [c_in, hw w (.head _), forall_const, reduceCtorEq, false_implies, and_true]
    refine readW S ws _ σ' _ (fun v hv => hw v (.tail _ hv)) h' C' (fits_tail hf) fun x' σ₃ a b => ?_
    refine hk x' σ₃ ?_ (F.trans b)
    rw [lns_cons]
    by_cases e : w = 10
    · rw [if_pos e] at a ⊢
      rw [← Int.add_assoc]; exact a
    · rw [if_neg e] at a ⊢
      rw [Int.zero_add]; exact a
end
section
variable {D : Defs} {k : Nat} {σ σ' : Sto} {K : VK} {L : Lx} {ln : Int} {txt : List Nat}
theorem get_start (S : ShD D) (h : L.At ln txt [] σ) {n : Nat} (hk : ∀ qi m σ', σ.length ≤ qi → L.At ln txt [] σ' → Fr L.mu σ σ' → CI L qi m σ' →
    citS ((conOf D (k + 2)).me 0) (stepO D k) n qi [some (.obj L.q), some (.str []), some (.obj qi), none] σ' fun f ρ σ => match f with
      | .next => wS (conOf D (k + 2)) (.cons (.ret (.var 1)) .nil) ρ σ (retK K)
      | f => retK K f ρ σ) : (conOf D (k + 3)).me 1 (.obj L.q) [] σ K := by
  refine me_of S.get ⟨rfl, ?_⟩
  show wS _ sh_m_get_token [some (.obj L.q), none, none, none] σ (retK K)
  rw [sh_get]
  simp only [w_cons, w_nil, r_next, w_ret, r_ret, m_var, o_one, w_asg, m_citer, m_str, w_ife, m_bm, m_cons, m_nil, m_int, m_attr, List.getElem?_cons_zero, List.set_cons_succ, List.set_cons_zero, t_attr]
  rw [t_get h.q h.d rfl]
  simp only [u_list h.p, List.isEmpty_nil, Bool.not_true, reduceCtorEq, false_implies, forall_const, true_and]
  refine ⟨fits_le (by decide), At_rc h, ?_⟩
  rw [w_forC]
  simp only [m_var, List.getElem?_cons_succ, List.getElem?_cons_zero, o_one]
  refine ⟨n, ?_⟩
  rw [List.append_assoc]
  have := hk (σ.length + 1) σ.length (σ ++ [.meth L.q, .citer (some σ.length)]) (Nat.le_succ _) h.app .app ⟨by rw [ag]; rfl, by rw [ag0]; rfl⟩
  exact this
theorem get_quoted (S : ShD D) {ws : List Nat} {its : List (Bool × Nat)} (hw : ∀ w ∈ ws, white.contains w = true) (ho : ∀ i ∈ its, okQ i) (h : L.At ln (ws ++ 34 :: (enc its ++ 34 :: txt)) [] σ) (hf : Fits (ws ++ 34 :: (enc its ++ 34 :: txt)).length)
    (hk : ∀ σ', L.At (ln + lns ws) txt [] σ' → Fr L.mu σ σ' → K (.str (its.map (·.2))) σ') : (conOf D (k + 3)).me 1 (.obj L.q) [] σ K := by
  refine get_start S h (n := ws.length + 1) fun qi m σ₁ lq h₁ F₁ C₁ => ?_
  refine readW S ws none σ₁ ln hw h₁ C₁ hf fun x' σ₂ h₂ F₂ C₂ => ?_
  have hf2 : Fits (34 :: (enc its ++ 34 :: txt)).length := by unfold Fits at hf ⊢; simp at hf ⊢; lia
  refine cit_char S h₂ C₂ hf2 fun σ₃ h₃ F₃ C₃ => ?_
  rw [if_neg (by decide)] at h₃
  show wS (conOf D (k + 2)) gtOut _ _ _
  unfold gtOut
  simp only [List.set_cons_succ, List.set_cons_zero, w_cons, w_nil, r_next, w_ret, r_ret, m_var, o_one, w_ife, w_aug, w_asg, m_cm, m_nil, t_cmp, m_str, w_cont, List.getElem?_cons_succ, List.getElem?_cons_zero, a_addS, c_eqS, decide_true, forall_const, reduceCtorEq, false_implies, and_true, m_attr]
  rw [t_get h₃.q h₃.d rfl]
  simp only [c_in, show white.contains 34 = false from rfl, reduceCtorEq, false_implies, forall_const, true_and]
  rw [w_forC]
  simp only [m_var, List.getElem?_cons_succ, List.getElem?_cons_zero, o_one]
  refine ⟨_, readQ S its [] _ σ₃ ho h₃ C₃ (fits_tail hf2) (by have := enc_len its; unfold Fits at hf2 ⊢; simp at hf2 ⊢; lia) fun x'' σ₄ h₄ F₄ => ?_⟩
  exact hk σ₄ h₄ ((F₁.trans F₂).trans (F₃.trans F₄))
theorem get_bare (S : ShD D) {ws : List Nat} {i0 : Bool × Nat} {its : List (Bool × Nat)} {w : Nat} (hw : ∀ w ∈ ws, white.contains w = true) (hww : white.contains w = true) (h0 : okB i0 ∧ (i0.1 = true ∨ i0.2 ≠ 34)) (ho : ∀ i ∈ its, okB i)
    (h : L.At ln (ws ++ (enc (i0 :: its) ++ w :: txt)) [] σ) (hf : Fits (ws ++ (enc (i0 :: its) ++ w :: txt)).length)
    (hk : ∀ σ', L.At (if w = 10 then ln + lns ws + 1 else ln + lns ws) txt [] σ' → Fr L.mu σ σ' → K (.str (i0.2 :: its.map (·.2))) σ') : (conOf D (k + 3)).me 1 (.obj L.q) [] σ K := by
  refine get_start S h (n := ws.length + 1) fun qi m σ₁ lq h₁ F₁ C₁ => ?_
  refine readW S ws none σ₁ ln hw h₁ C₁ hf fun x' σ₂ h₂ F₂ C₂ => ?_
  have hf2 : Fits (enc (i0 :: its) ++ w :: txt).length := by unfold Fits at hf ⊢; simp at hf ⊢; lia
  obtain ⟨b, c⟩ := i0
  have hc : c ≠ 10 := h0.1.1
  cases b with
  | true =>
    refine cit_char (c := 92) S h₂ C₂ hf2 fun σ₃ h₃ F₃ C₃ => ?_
    rw [if_neg (by decide)] at h₃
    show wS (conOf D (k + 2)) gtOut _ _ _
    unfold gtOut
    simp only [List.set_cons_succ, List.set_cons_zero, w_cons, w_nil, r_next, w_ret, r_ret, m_var, o_one, w_ife, w_aug, w_asg, m_cm, m_nil, t_cmp, m_str, w_cont, List.getElem?_cons_succ, List.getElem?_cons_zero, a_addS, c_eqS, decide_true, forall_const, reduceCtorEq, false_implies, and_true, m_attr]
    rw [t_get h₃.q h₃.d rfl]
    simp only [List.cons.injEq, Nat.reduceEqDiff, and_true, decide_false, reduceCtorEq, false_implies, forall_const, true_and, c_in, show white.contains 92 = false from rfl]
    have hf3 := fits_tail hf2
    refine ⟨At_rc h₃, rc_char S h₃ hf3 fun σ₄ h₄ F₄ => ?_⟩
    rw [if_neg hc] at h₄
    simp only [a_addS, List.nil_append]
    refine ⟨fits_le (by simp), ?_⟩
    rw [w_forC]
    simp only [m_var, List.getElem?_cons_succ, List.getElem?_cons_zero, o_one]
    refine ⟨_, readB S hww its [c] _ σ₄ ho h₄ (C₃.fr h₃ F₄) (fits_tail hf3) (by have := enc_len its; have := fits_tail hf3; unfold Fits at this ⊢; simp at this ⊢; lia) fun x'' σ₅ h₅ F₅ => ?_⟩
    exact hk σ₅ h₅ ((F₁.trans F₂).trans (F₃.trans (F₄.trans F₅)))
  | false =>
    have hd : white.contains c = false ∧ c ≠ 92 := h0.1.2.resolve_left (fun e => by cases e)
    have h34 : c ≠ 34 := h0.2.resolve_left (fun e => by cases e)
    refine cit_char (c := c) S h₂ C₂ hf2 fun σ₃ h₃ F₃ C₃ => ?_
    rw [if_neg hc] at h₃
    show wS (conOf D (k + 2)) gtOut _ _ _
    unfold gtOut
    simp only [List.set_cons_succ, List.set_cons_zero, w_cons, w_nil, r_next, w_ret, r_ret, m_var, o_one, w_ife, w_aug, w_asg, m_cm, m_nil, t_cmp, m_str, w_cont, List.getElem?_cons_succ, List.getElem?_cons_zero, a_addS, c_eqS, m_attr]
    rw [t_get h₃.q h₃.d rfl]
    simp only [show decide (([c] : List Nat) = [34]) = false by simpa using h34, reduceCtorEq, false_implies, show decide (([c] : List Nat) = [92]) = false by simpa using hd.2, List.nil_append, forall_const, true_and, c_in, hd.1]
    refine ⟨fits_le (by simp), ?_⟩
    rw [w_forC]
    simp only [m_var, List.getElem?_cons_succ, List.getElem?_cons_zero, o_one]
    have hf3 := fits_tail hf2
    refine ⟨_, readB S hww its [c] _ σ₃ ho h₃ C₃ hf3 (by have := enc_len its; unfold Fits at hf3 ⊢; simp at hf3 ⊢; lia) fun x'' σ₅ h₅ F₅ => ?_⟩
    exact hk σ₅ h₅ ((F₁.trans F₂).trans (F₃.trans F₅))
theorem get_end (S : ShD D) (h : L.At ln [] [] σ) (hk : ∀ σ', L.At ln [] [] σ' → Fr L.mu σ σ' → K (.str []) σ') : (conOf D (k + 3)).me 1 (.obj L.q) [] σ K := by
  refine get_start S h (n := 1) fun qi m σ₁ lq h₁ F₁ C₁ => ?_
  refine cit_end S h₁ C₁ ?_
  simp only [w_cons, w_nil, r_next, w_ret, r_ret, m_var, List.getElem?_cons_succ, List.getElem?_cons_zero, o_one]
  have F : Fr [qi] σ₁ (σ₁.set qi (.citer none)) := .set
  have no : ∀ {r : Nat} {x : O}, σ₁[r]? = some x → (∀ l, x ≠ .citer l) → r ∉ [qi] := fun e hx z => by
    rw [List.mem_singleton.mp z, C₁.1] at e
    exact hx _ (Option.some.inj e).symm
  obtain ⟨es, h5, h6⟩ := h₁.d2
  refine hk _ ⟨F _ _ (no h₁.q fun _ e => by cases e) h₁.q, F _ _ (no h₁.d fun _ e => by cases e) h₁.d, F _ _ (no h₁.p fun _ e => by cases e) h₁.p, F _ _ (no h₁.q2 fun _ e => by cases e) h₁.q2, ⟨es, F _ _ (no h5 fun _ e => by cases e) h5, h6⟩,
    F _ _ (no h₁.f fun _ e => by cases e) h₁.f, F _ _ (no h₁.c fun _ e => by cases e) h₁.c, F _ _ (no h₁.kd fun _ e => by cases e) h₁.kd, F _ _ (no h₁.t fun _ e => by cases e) h₁.t, h.dd, h.pt⟩ fun r x hr e => ?_
  by_cases q : r = qi
  · have := lt_of_get e; lia
  · exact F r x (fun z => q (List.mem_singleton.mp z)) (F₁ r x hr e)
end
end MI.Internal
end

section
set_option Elab.async false
set_option linter.all false
set_option maxRecDepth 10000
namespace MI.Internal
open PySem PySem.W

/-! ## a lexer is made -/
section
variable {D : Defs} {k : Nat} {σ σ' : Sto} {K : VK}
theorem Fr.toApp {σ σ' xs : Sto} {m : List Nat} (h : Fr m σ σ') : Fr m σ (σ' ++ xs) := h.trans .app
theorem lex_spec (S : ShD D) {l : List Nat} (hf : Fits l.length) (hk : ∀ (L : Lx) σ', L.At 1 l [] σ' → Fr [] σ σ' → (σ.length ≤ L.t ∧ σ.length ≤ L.d ∧ σ.length ≤ L.p ∧ σ.length ≤ L.d2) → K (.obj L.q) σ') : lexS (conOf D (k + 1)) [.str l] σ K := by
  refine ⟨l, rfl, hf, fun σ₂ r0 hσ hr0 => ?_⟩
  have F2 : Fr [] σ σ₂ := by rcases hσ with rfl | rfl <;> (try rw [List.append_assoc]) <;> exact .app
  have ht : σ₂[σ.length]? = some (.list (l.map fun c => .str [c])) := by
    rcases hσ with rfl | rfl
    · exact List.getElem?_concat_length
    · rw [List.append_assoc, ag0]; rfl
  have l2 : σ.length < σ₂.length := lt_of_get ht
  have lr : r0 < σ₂.length := lt_of_get hr0
  unfold lexR
  try simp only [w_cons, w_nil, r_next, w_ret, r_ret, m_new, o_one, m_cons, m_nil, m_var, w_asgA, w_asg, List.set_cons_succ, List.set_cons_zero, List.getElem?_cons_succ, List.getElem?_cons_zero, m_none]
  obtain ⟨σ₃, h3⟩ : ∃ σ₃ : Sto, σ₃ = σ₂ ++ [.cell (.obj σ.length), .fn σ₂.length r0] := ⟨_, rfl⟩
  have l3 : σ₃.length = σ₂.length + 2 := by rw [h3]; simp
  rw [← h3]
  refine new_spec S ?_
  skip
  rw [t_put (r := σ₃.length + 1) (d := σ₃.length) (by rw [ag]; rfl) (by rw [ag0]; rfl), as0]
  refine ⟨by simp [lexD], ?_⟩
  simp only [List.set_cons_zero]
  obtain ⟨σ₄, h4⟩ : ∃ σ₄ : Sto, σ₄ = σ₃ ++ [.dict (putD readNm (.obj (σ₂.length + 1)) (lexD 1 .none (σ₃.length + 2))), .inst σ₃.length, .list []] := ⟨_, rfl⟩
  have l4 : σ₄.length = σ₃.length + 3 := by rw [h4]; simp
  show (conOf D (k + 1)).nw [.obj (σ₃.length + 1)] _ _
  rw [← h4]
  refine new_spec S ?_
  skip
  refine hk ⟨σ₄.length + 1, σ₄.length, σ₄.length + 2, σ₃.length + 1, σ₃.length, σ₂.length + 1, σ₂.length, r0, σ.length⟩ _ ⟨by rw [ag]; rfl, by rw [ag0]; rfl, by rw [ag]; rfl, ?_, ⟨putD readNm (.obj (σ₂.length + 1)) (lexD 1 .none (σ₃.length + 2)), ?_, rfl⟩, ?_, ?_, ?_, ?_, ?_, ?_⟩ ?_ ?_
  · show (σ₄ ++ _)[σ₃.length + 1]? = _
    rw [List.getElem?_append_left (by lia), h4, ag]; rfl
  · show (σ₄ ++ _)[σ₃.length]? = _
    rw [List.getElem?_append_left (by lia), h4, ag0]; rfl
  · show (σ₄ ++ _)[σ₂.length + 1]? = _
    rw [List.getElem?_append_left (by lia), h4, List.getElem?_append_left (by lia), h3, ag]; rfl
  · show (σ₄ ++ _)[σ₂.length]? = _
    rw [List.getElem?_append_left (by lia), h4, List.getElem?_append_left (by lia), h3, ag0]; rfl
  · show (σ₄ ++ _)[r0]? = _
    rw [List.getElem?_append_left (by lia), h4, List.getElem?_append_left (by lia), h3, List.getElem?_append_left (by lia)]; exact hr0
  · show (σ₄ ++ _)[σ.length]? = _
    rw [List.getElem?_append_left (by lia), h4, List.getElem?_append_left (by lia), h3, List.getElem?_append_left (by lia)]; exact ht
  · show σ₄.length ≠ σ₃.length
    lia
  · show σ₄.length + 2 ≠ σ.length
    lia
  · rw [h4, h3]
    exact ((F2.toApp).toApp).toApp
  · show _ ≤ σ.length ∧ σ.length ≤ σ₄.length ∧ σ.length ≤ σ₄.length + 2 ∧ σ.length ≤ σ₃.length
    lia

/-! ## a word as it is typed -/
noncomputable def Typed (ws : List Nat) (w : Option Nat) (word s : List Nat) : Prop := ∃ its : List (Bool × Nat), its.map (·.2) = word ∧ (∀ v ∈ ws, white.contains v = true) ∧ match w with
  | none => s = ws ++ 34 :: (enc its ++ [34]) ∧ ∀ i ∈ its, okQ i
  | some v => s = ws ++ (enc its ++ [v]) ∧ white.contains v = true ∧ (∀ i ∈ its, okB i) ∧ ∀ i, its.head? = some i → i.1 = true ∨ i.2 ≠ 34
theorem get_typed (S : ShD D) {L : Lx} {ln : Int} {ws : List Nat} {w : Option Nat} {word s txt : List Nat} (ht : Typed ws w word s) (hw : word ≠ []) (h : L.At ln (s ++ txt) [] σ) (hf : Fits (s ++ txt).length)
    (hk : ∀ σ', L.At (if w = some 10 then ln + lns ws + 1 else ln + lns ws) txt [] σ' → Fr L.mu σ σ' → K (.str word) σ') : (conOf D (k + 3)).me 1 (.obj L.q) [] σ K := by
  obtain ⟨its, rfl, hws, hc⟩ := ht
  cases w with
  | none =>
    obtain ⟨rfl, ho⟩ := hc
    have e : ws ++ 34 :: (enc its ++ [34]) ++ txt = ws ++ 34 :: (enc its ++ 34 :: txt) := by simp
    rw [e] at h hf
    rw [if_neg (by simp)] at hk
    exact get_quoted S hws ho h hf hk
  | some v =>
    obtain ⟨rfl, hv, ho, hh⟩ := hc
    cases its with
    | nil => exact absurd rfl hw
    | cons i its =>
      have e : ws ++ (enc (i :: its) ++ [v]) ++ txt = ws ++ (enc (i :: its) ++ v :: txt) := by simp
      rw [e] at h hf
      refine get_bare S hws hv ⟨ho _ (.head _), hh _ rfl⟩ (fun j hj => ho _ (.tail _ hj)) h hf fun σ' h' F' => hk σ' ?_ F'
      by_cases q : v = 10
      · subst q; rw [if_pos rfl]; rw [if_pos rfl] at h'; exact h'
      · rw [if_neg (by simpa using q)]; rw [if_neg q] at h'; exact h'
end
end MI.Internal
end

section
set_option Elab.async false
set_option linter.all false
set_option maxRecDepth 10000
namespace M02.Internal
open PySem PySem.W MI.Internal

noncomputable def seen2 : List Nat := [172, 174, 846, 848, 6149, 6151, 6154, 6158, 34, 8202, 8206, 8287, 8289, 92, 65023, 65040, 65278, 32, 65280]
noncomputable def un1 : List Nat := [173, 847, 6150, 6155, 6156, 6157, 8203, 8204, 8205, 8288, 65279]
noncomputable def unseen2 : List Nat := un1 ++ [65024, 65025, 65026, 65027, 65028, 65029, 65030, 65031, 65032, 65033, 65034, 65035, 65036, 65037, 65038, 65039]
noncomputable def signs (b : Bool) : List Nat := if b then seen2 else unseen2
theorem signs_b1 : ∀ b, ∀ c ∈ signs b, inB1 c = !b := by decide +kernel
theorem signs_no : ∀ b, ∀ c ∈ signs b, ¬ (65 ≤ c ∧ c < 81) ∧ c ≠ 10 ∧ c ≠ 9 ∧ c ≠ 13 ∧ 32 ≤ c ∧ c < 1114112 := by decide +kernel

theorem get_mem {l : List Nat} {i : Nat} (h : i < l.length) : ∃ c ∈ l, (l.map fun c : Nat => V.int (c : Int))[i]? = some (.int (c : Int)) := ⟨l[i], List.getElem_mem h, by simp [h]⟩
variable {k : Nat} {σ : Sto} {K : VK}
theorem sign_spec {b : Bool} {t : Int} (hk : ∀ c xs, c ∈ signs b → K (.str [c]) (σ ++ xs)) : (conOf dfs (k + 1)).fn 3 [.bool b, .int t] σ K := by
  refine ⟨rfl, ?_⟩
  show wS _ ir_law_sign [some (.bool b), some (.int t), none, none] σ (retK K)
  unfold ir_law_sign
  ((try simp only [w_cons, w_ife, w_nil, w_ret, r_ret, m_bcall, o_one, m_cons, m_nil, m_idx, m_bin, m_int, m_var, w_asg, List.set_cons_succ, List.set_cons_zero, List.getElem?_cons_succ, List.getElem?_cons_zero, v_mod, m_list, t_var, u_bool]); repeat ((first | (with_reducible show wS _ ir_law_number_t2 _ _ _; unfold ir_law_number_t2) | (with_reducible show wS _ ir_law_number_t3 _ _ _; unfold ir_law_number_t3) | (with_reducible show wS _ ir_law_number_t4 _ _ _; unfold ir_law_number_t4) | (with_reducible show wS _ ir_law_number_t5 _ _ _; unfold ir_law_number_t5) | (with_reducible show wS _ ir_law_sign_t2 _ _ _; unfold ir_law_sign_t2) | (with_reducible show wS _ ir_law_sign_t3 _ _ _; unfold ir_law_sign_t3) | (with_reducible show wS _ ir_law_sign_t4 _ _ _; unfold ir_law_sign_t4)); (skip)))
  refine ⟨fun h => ?_, fun h => ?_⟩
  · subst h
    refine ⟨fits_le (by decide), by decide, ?_⟩
    have hm : 0 ≤ t % 19 ∧ t % 19 < 19 := ⟨Int.emod_nonneg _ (by decide), Int.emod_lt_of_pos _ (by decide)⟩
    obtain ⟨c, hc, e⟩ := get_mem (l := seen2) (i := (t % 19).toNat) (by show _ < 19; lia)
    refine x_list List.getElem?_concat_length (fits_le (by decide)) hm.1 e ?_
    ((try simp only [f_chr]); repeat ((first | (with_reducible show wS _ ir_law_number_t2 _ _ _; unfold ir_law_number_t2) | (with_reducible show wS _ ir_law_number_t3 _ _ _; unfold ir_law_number_t3) | (with_reducible show wS _ ir_law_number_t4 _ _ _; unfold ir_law_number_t4) | (with_reducible show wS _ ir_law_number_t5 _ _ _; unfold ir_law_number_t5) | (with_reducible show wS _ ir_law_sign_t2 _ _ _; unfold ir_law_sign_t2) | (with_reducible show wS _ ir_law_sign_t3 _ _ _; unfold ir_law_sign_t3) | (with_reducible show wS _ ir_law_sign_t4 _ _ _; unfold ir_law_sign_t4)); (skip)))
    have := signs_no true c hc
    refine ⟨by lia, by lia, hk c _ hc⟩
  · subst h
    refine ⟨fits_le (by decide), by decide, ?_⟩
    have hm : 0 ≤ t % 27 ∧ t % 27 < 27 := ⟨Int.emod_nonneg _ (by decide), Int.emod_lt_of_pos _ (by decide)⟩
    refine ⟨fun h => ?_, fun h => ?_⟩
    · have h := of_decide_eq_true h
      obtain ⟨c, hc, e⟩ := get_mem (l := un1) (i := (t % 27).toNat) (by show _ < 11; lia)
      have hc' : c ∈ unseen2 := List.mem_append_left _ hc
      refine x_list List.getElem?_concat_length (fits_le (by decide)) hm.1 e ?_
      ((try simp only [List.set_cons_succ, List.set_cons_zero, r_ret, o_one, m_nil, f_chr]); repeat ((first | (with_reducible show wS _ ir_law_number_t2 _ _ _; unfold ir_law_number_t2) | (with_reducible show wS _ ir_law_number_t3 _ _ _; unfold ir_law_number_t3) | (with_reducible show wS _ ir_law_number_t4 _ _ _; unfold ir_law_number_t4) | (with_reducible show wS _ ir_law_number_t5 _ _ _; unfold ir_law_number_t5) | (with_reducible show wS _ ir_law_sign_t2 _ _ _; unfold ir_law_sign_t2) | (with_reducible show wS _ ir_law_sign_t3 _ _ _; unfold ir_law_sign_t3) | (with_reducible show wS _ ir_law_sign_t4 _ _ _; unfold ir_law_sign_t4)); (skip)))
      have := signs_no false c hc'
      refine ⟨by lia, by lia, hk c _ hc'⟩
    · have h := of_decide_eq_false h
      refine ⟨by lia, by lia, ?_⟩
      have hc' : (65013 + t % 27).toNat ∈ unseen2 := by
        have : ∀ i : Nat, i < 16 → 65024 + i ∈ unseen2 := by decide
        have := this ((t % 27).toNat - 11) (by lia)
        rw [show (65013 + t % 27).toNat = 65024 + ((t % 27).toNat - 11) by lia]
        exact this
      exact hk _ _ hc'

theorem int2ap_fn {x : Int} (hx : (apN x.natAbs).length ≤ 1000) (hk : ∀ xs, K (.bytes (apB x.natAbs)) (σ ++ xs)) : (conOf dfs (k + 1)).fn 0 [.int x] σ K := ⟨rfl, int2ap_spec hx hk⟩
noncomputable def card (x : Int) (s : List Nat) : Prop := ∃ c, s = apN x.natAbs ++ [c] ∧ c ∈ signs (decide (0 ≤ x))
theorem card_spec {x t : Int} (hx : (apN x.natAbs).length ≤ 1000) (hk : ∀ s xs, card x s → K (.str s) (σ ++ xs)) : (conOf dfs (k + 2)).fn 5 [.int x, .int t] σ K := by
  refine ⟨rfl, ?_⟩
  show wS _ ir_law_card [some (.int x), some (.int t)] σ (retK K)
  unfold ir_law_card
  ((try simp only [w_cons, w_nil, r_next, w_ret, r_ret, m_bin, o_one, m_call, m_cons, m_nil, m_var, List.getElem?_cons_succ, List.getElem?_cons_zero, m_cmp, m_int, c_ge, m_bm, m_str, bt_join, true_and]); repeat ((first | (with_reducible show wS _ ir_law_number_t2 _ _ _; unfold ir_law_number_t2) | (with_reducible show wS _ ir_law_number_t3 _ _ _; unfold ir_law_number_t3) | (with_reducible show wS _ ir_law_number_t4 _ _ _; unfold ir_law_number_t4) | (with_reducible show wS _ ir_law_number_t5 _ _ _; unfold ir_law_number_t5) | (with_reducible show wS _ ir_law_sign_t2 _ _ _; unfold ir_law_sign_t2) | (with_reducible show wS _ ir_law_sign_t3 _ _ _; unfold ir_law_sign_t3) | (with_reducible show wS _ ir_law_sign_t4 _ _ _; unfold ir_law_sign_t4)); (skip)))
  rw [m_comp]
  ((try simp only [o_one, i_call, m_call, m_cons, m_nil, m_var, List.getElem?_cons_zero]); repeat ((first | (with_reducible show wS _ ir_law_number_t2 _ _ _; unfold ir_law_number_t2) | (with_reducible show wS _ ir_law_number_t3 _ _ _; unfold ir_law_number_t3) | (with_reducible show wS _ ir_law_number_t4 _ _ _; unfold ir_law_number_t4) | (with_reducible show wS _ ir_law_number_t5 _ _ _; unfold ir_law_number_t5) | (with_reducible show wS _ ir_law_sign_t2 _ _ _; unfold ir_law_sign_t2) | (with_reducible show wS _ ir_law_sign_t3 _ _ _; unfold ir_law_sign_t3) | (with_reducible show wS _ ir_law_sign_t4 _ _ _; unfold ir_law_sign_t4)); (skip)))
  refine int2ap_fn hx fun xs => ?_
  ((try simp only [i_byt]); repeat ((first | (with_reducible show wS _ ir_law_number_t2 _ _ _; unfold ir_law_number_t2) | (with_reducible show wS _ ir_law_number_t3 _ _ _; unfold ir_law_number_t3) | (with_reducible show wS _ ir_law_number_t4 _ _ _; unfold ir_law_number_t4) | (with_reducible show wS _ ir_law_number_t5 _ _ _; unfold ir_law_number_t5) | (with_reducible show wS _ ir_law_sign_t2 _ _ _; unfold ir_law_sign_t2) | (with_reducible show wS _ ir_law_sign_t3 _ _ _; unfold ir_law_sign_t3) | (with_reducible show wS _ ir_law_sign_t4 _ _ _; unfold ir_law_sign_t4)); (skip)))
  refine ⟨by simpa [apB, Fits] using Nat.le_trans hx (by decide), _, comp_byt (fun rest acc σ' => (∃ done, apN x.natAbs = done ++ rest.map UInt8.toNat ∧ acc = done.map fun c => .str [c]) ∧ σ' = σ ++ xs) ?_ ?_ ?_ (apB x.natAbs) [] _ ⟨⟨[], ?_, rfl⟩, rfl⟩⟩
  · rintro i acc σ' ⟨⟨d, h1, rfl⟩, _⟩
    have : (apN x.natAbs).length = (d ++ i.map UInt8.toNat).length := by rw [h1]
    simp at this ⊢
    exact fits_le (by lia)
  · rintro c l acc σ' K' ⟨⟨d, h1, rfl⟩, rfl⟩ h
    ((try simp only [le_law_card_1, s_one, m_bcall, o_one, m_cons, m_nil, m_var, t_nil, reduceCtorEq, false_implies, forall_const, true_and]); repeat ((first | (with_reducible show wS _ ir_law_number_t2 _ _ _; unfold ir_law_number_t2) | (with_reducible show wS _ ir_law_number_t3 _ _ _; unfold ir_law_number_t3) | (with_reducible show wS _ ir_law_number_t4 _ _ _; unfold ir_law_number_t4) | (with_reducible show wS _ ir_law_number_t5 _ _ _; unfold ir_law_number_t5) | (with_reducible show wS _ ir_law_sign_t2 _ _ _; unfold ir_law_sign_t2) | (with_reducible show wS _ ir_law_sign_t3 _ _ _; unfold ir_law_sign_t3) | (with_reducible show wS _ ir_law_sign_t4 _ _ _; unfold ir_law_sign_t4)); (skip)))
    have hm : c.toNat ∈ apN x.natAbs := by rw [h1]; simp
    have := apN_mem hm
    refine ⟨by lia, by lia, h _ _ ⟨⟨d ++ [c.toNat], by rw [h1]; simp, by simp⟩, rfl⟩⟩
  · rintro acc σ' ⟨⟨d, h1, rfl⟩, rfl⟩
    rw [b_join List.getElem?_concat_length]
    have hd : apN x.natAbs = d := by simpa using h1
    refine ⟨d.map fun c => [c], by rw [← strsV_map, List.map_map]; rfl, ?_, ?_⟩
    · rw [flat_one]; simp; rw [← hd]; lia
    · rw [flat_one]
      refine sign_spec fun c ys hc => ?_
      ((try simp only [v_addS]); repeat ((first | (with_reducible show wS _ ir_law_number_t2 _ _ _; unfold ir_law_number_t2) | (with_reducible show wS _ ir_law_number_t3 _ _ _; unfold ir_law_number_t3) | (with_reducible show wS _ ir_law_number_t4 _ _ _; unfold ir_law_number_t4) | (with_reducible show wS _ ir_law_number_t5 _ _ _; unfold ir_law_number_t5) | (with_reducible show wS _ ir_law_sign_t2 _ _ _; unfold ir_law_sign_t2) | (with_reducible show wS _ ir_law_sign_t3 _ _ _; unfold ir_law_sign_t3) | (with_reducible show wS _ ir_law_sign_t4 _ _ _; unfold ir_law_sign_t4)); (skip)))
      refine ⟨by simp [Fits]; rw [← hd]; lia, ?_⟩
      rw [← hd, List.append_assoc, List.append_assoc]
      exact hk _ _ ⟨c, rfl, hc⟩
  · rw [apB, List.map_map]
    have : ∀ c ∈ apN x.natAbs, (UInt8.toNat ∘ UInt8.ofNat) c = c := fun c hc => by
      have := apN_mem hc
      simp; lia
    rw [List.map_congr_left this]; simp
theorem num_spec {x : Int} {s : List Nat} (hs : card x s) (hx : (apN x.natAbs).length ≤ 1000) (hb : Sm x) (hk : ∀ xs, K (.int x) (σ ++ xs)) : (conOf dfs (k + 2)).fn 6 [.str s] σ K := by
  obtain ⟨c, rfl, hc⟩ := hs
  refine ⟨rfl, ?_⟩
  show wS _ ir_law_number [some (.str (apN x.natAbs ++ [c])), none, none, none] σ (retK K)
  unfold ir_law_number
  ((try simp only [w_cons, w_asg, List.set_cons_succ, List.set_cons_zero, m_int, o_one]); repeat ((first | (with_reducible show wS _ ir_law_number_t2 _ _ _; unfold ir_law_number_t2) | (with_reducible show wS _ ir_law_number_t3 _ _ _; unfold ir_law_number_t3) | (with_reducible show wS _ ir_law_number_t4 _ _ _; unfold ir_law_number_t4) | (with_reducible show wS _ ir_law_number_t5 _ _ _; unfold ir_law_number_t5) | (with_reducible show wS _ ir_law_sign_t2 _ _ _; unfold ir_law_sign_t2) | (with_reducible show wS _ ir_law_sign_t3 _ _ _; unfold ir_law_sign_t3) | (with_reducible show wS _ ir_law_sign_t4 _ _ _; unfold ir_law_sign_t4)); (try simp only [w_cons, w_for, b_bindL, setsL, i_slice, m_slice, o_one, m_neg, m_int, m_nil, m_var, List.getElem?_cons_zero])))
  refine ⟨0, (apN x.natAbs).length, by simp [Fits]; lia, rfl, by simp [cut, clipAt]; lia, ?_⟩
  show iterV _ _ _
  rw [i_str]
  rw [List.take_left, List.drop_zero]
  refine ⟨by simp [Fits]; lia, _, for_str (fun rest ρ σ' => Ex3 fun (a : Nat) (y : Option V) (xs : Sto) => A4 (ρ = [some (.str (apN x.natAbs ++ [c])), some (.int a), y, none]) (vl a rest = x.natAbs) ((∀ c ∈ rest, 65 ≤ c ∧ c < 81)) (σ' = σ ++ xs)) ?_ ?_ (apN x.natAbs) _ _ ⟨0, none, [], rfl, vl_apN _, fun _ h => apN_mem h, by simp⟩⟩
  · rintro d l ρ σ' K' ⟨a, y, xs, rfl, h1, h2, rfl⟩ h
    ((try simp only [lb_law_number_1, List.set_cons_succ, List.set_cons_zero, w_cons, w_nil, w_asg, m_bin, o_one, m_bm, m_cons, m_nil, m_var, List.getElem?_cons_succ, List.getElem?_cons_zero, m_str, bt_sindex, b_sindex, true_and, m_int, v_mul, v_add]); repeat ((first | (with_reducible show wS _ ir_law_number_t2 _ _ _; unfold ir_law_number_t2) | (with_reducible show wS _ ir_law_number_t3 _ _ _; unfold ir_law_number_t3) | (with_reducible show wS _ ir_law_number_t4 _ _ _; unfold ir_law_number_t4) | (with_reducible show wS _ ir_law_number_t5 _ _ _; unfold ir_law_number_t5) | (with_reducible show wS _ ir_law_sign_t2 _ _ _; unfold ir_law_sign_t2) | (with_reducible show wS _ ir_law_sign_t3 _ _ _; unfold ir_law_sign_t3) | (with_reducible show wS _ ir_law_sign_t4 _ _ _; unfold ir_law_sign_t4)); (skip)))
    have hd := h2 d (.head _)
    have ha : a ≤ x.natAbs := by rw [← h1]; exact vl_ge _ _
    refine ⟨sm_small (by decide) (by decide), ⟨by have := hb.1; have := hb.2; lia, by have := hb.1; have := hb.2; lia⟩, hd.1, hd.2, ?_⟩
    have e : (16 * (a : Int) + ((d : Int) - 65)) = ((16 * a + (d - 65) : Nat) : Int) := by lia
    rw [e]
    exact h _ _ ⟨16 * a + (d - 65), some (.str [d]), xs, rfl, h1, fun c hc => h2 c (.tail _ hc), rfl⟩
  · rintro ρ σ' ⟨a, y, xs, rfl, h1, _, rfl⟩
    have ha : a = x.natAbs := h1
    subst ha
    ((skip); repeat ((first | (with_reducible show wS _ ir_law_number_t2 _ _ _; unfold ir_law_number_t2) | (with_reducible show wS _ ir_law_number_t3 _ _ _; unfold ir_law_number_t3) | (with_reducible show wS _ ir_law_number_t4 _ _ _; unfold ir_law_number_t4) | (with_reducible show wS _ ir_law_number_t5 _ _ _; unfold ir_law_number_t5) | (with_reducible show wS _ ir_law_sign_t2 _ _ _; unfold ir_law_sign_t2) | (with_reducible show wS _ ir_law_sign_t3 _ _ _; unfold ir_law_sign_t3) | (with_reducible show wS _ ir_law_sign_t4 _ _ _; unfold ir_law_sign_t4)); (try simp only [w_cons, w_asg, List.set_cons_succ, List.set_cons_zero, m_call, o_one, m_cons, m_nil, m_idx, m_neg, m_int, m_var, List.getElem?_cons_zero])))
    refine x_strN (c := c) (by simp [Fits]; lia) (by decide) (by simp; lia) ?_ ?_
    · have : ((((apN x.natAbs ++ [c]).length : Nat) : Int) + -1).toNat = (apN x.natAbs).length := by simp; lia
      rw [this, List.getElem?_concat_length]
    refine ⟨c, rfl, ?_⟩
    ((skip); repeat ((first | (with_reducible show wS _ ir_law_number_t2 _ _ _; unfold ir_law_number_t2) | (with_reducible show wS _ ir_law_number_t3 _ _ _; unfold ir_law_number_t3) | (with_reducible show wS _ ir_law_number_t4 _ _ _; unfold ir_law_number_t4) | (with_reducible show wS _ ir_law_number_t5 _ _ _; unfold ir_law_number_t5) | (with_reducible show wS _ ir_law_sign_t2 _ _ _; unfold ir_law_sign_t2) | (with_reducible show wS _ ir_law_sign_t3 _ _ _; unfold ir_law_sign_t3) | (with_reducible show wS _ ir_law_sign_t4 _ _ _; unfold ir_law_sign_t4)); (try simp only [lt_law_number_2, w_cons, w_ife, w_nil, w_ret, r_ret, m_none, o_one, t_bool, ts_or, forall_const, reduceCtorEq, false_implies, and_true, ts_nil, bo_or, true_and, ts_and, bo_and, t_cmp, m_fls, m_var, List.getElem?_cons_succ, List.getElem?_cons_zero, c_isntF, m_tru, c_isntT, m_str, m_idx, m_int])))
    obtain ⟨d, hd⟩ : ∃ d, (apN x.natAbs ++ [c])[0]? = some d := ⟨_, List.getElem?_eq_getElem (by simp)⟩
    refine x_str (c := d) (by simp [Fits]; lia) (by decide) hd ?_
    ((try simp only [c_eqS]); repeat ((first | (with_reducible show wS _ ir_law_number_t2 _ _ _; unfold ir_law_number_t2) | (with_reducible show wS _ ir_law_number_t3 _ _ _; unfold ir_law_number_t3) | (with_reducible show wS _ ir_law_number_t4 _ _ _; unfold ir_law_number_t4) | (with_reducible show wS _ ir_law_number_t5 _ _ _; unfold ir_law_number_t5) | (with_reducible show wS _ ir_law_sign_t2 _ _ _; unfold ir_law_sign_t2) | (with_reducible show wS _ ir_law_sign_t3 _ _ _; unfold ir_law_sign_t3) | (with_reducible show wS _ ir_law_sign_t4 _ _ _; unfold ir_law_sign_t4)); (skip)))
    have hne : d ≠ 65 := apN_head hd (by have := (signs_no _ c hc).1; lia)
    have e1 := signs_b1 _ c hc
    refine ⟨fun h => by simp at h; exact absurd h hne, fun _ => ?_⟩
    rw [e1]
    by_cases q : 0 ≤ x
    · simp only [q, decide_true, Bool.not_true]
      ((try simp only [reduceCtorEq, decide_false, Bool.not_false, false_implies, forall_const, and_true, true_and]); repeat ((first | (with_reducible show wS _ ir_law_number_t2 _ _ _; unfold ir_law_number_t2) | (with_reducible show wS _ ir_law_number_t3 _ _ _; unfold ir_law_number_t3) | (with_reducible show wS _ ir_law_number_t4 _ _ _; unfold ir_law_number_t4) | (with_reducible show wS _ ir_law_number_t5 _ _ _; unfold ir_law_number_t5) | (with_reducible show wS _ ir_law_sign_t2 _ _ _; unfold ir_law_sign_t2) | (with_reducible show wS _ ir_law_sign_t3 _ _ _; unfold ir_law_sign_t3) | (with_reducible show wS _ ir_law_sign_t4 _ _ _; unfold ir_law_sign_t4)); (try simp only [w_cons, w_nil, r_next, w_ret, r_ret, m_ife, m_neg, o_one, m_var, List.getElem?_cons_succ, List.getElem?_cons_zero, t_var, u_bool, reduceCtorEq, false_implies, forall_const, true_and])))
      rw [show ((x.natAbs : Nat) : Int) = x by lia]
      exact hk xs
    · simp only [q, decide_false, Bool.not_false]
      ((try simp only [decide_true, Bool.not_true, forall_const, reduceCtorEq, decide_false, Bool.not_false, false_implies, true_and, and_true]); repeat ((first | (with_reducible show wS _ ir_law_number_t2 _ _ _; unfold ir_law_number_t2) | (with_reducible show wS _ ir_law_number_t3 _ _ _; unfold ir_law_number_t3) | (with_reducible show wS _ ir_law_number_t4 _ _ _; unfold ir_law_number_t4) | (with_reducible show wS _ ir_law_number_t5 _ _ _; unfold ir_law_number_t5) | (with_reducible show wS _ ir_law_sign_t2 _ _ _; unfold ir_law_sign_t2) | (with_reducible show wS _ ir_law_sign_t3 _ _ _; unfold ir_law_sign_t3) | (with_reducible show wS _ ir_law_sign_t4 _ _ _; unfold ir_law_sign_t4)); (try simp only [w_cons, w_nil, r_next, w_ret, r_ret, m_ife, m_neg, o_one, m_var, List.getElem?_cons_succ, List.getElem?_cons_zero, t_var, u_bool, forall_const, reduceCtorEq, false_implies, and_true])))
      rw [show -((x.natAbs : Nat) : Int) = x by lia]
      exact hk xs
end M02.Internal
end

section
set_option Elab.async false
set_option linter.all false
set_option maxRecDepth 10000
namespace M02.Internal
open PySem PySem.W MI.Internal

theorem shd : ShD dfs := ⟨rfl, rfl, rfl, rfl⟩
variable {k : Nat} {σ : Sto} {K : VK}
theorem lexer_fn {l : List Nat} (hf : Fits l.length) (hk : ∀ (L : Lx) σ', L.At 1 l [] σ' → Fr [] σ σ' → (σ.length ≤ L.t ∧ σ.length ≤ L.d ∧ σ.length ≤ L.p ∧ σ.length ≤ L.d2) → K (.obj L.q) σ') : (conOf dfs (k + 2)).fn 7 [.str l] σ K := lex_spec shd hf hk
theorem sm_pow {n : Nat} (h : n ≤ 100) : Sm ((2 : Int) ^ n) := by
  have h0 : 2 ^ n ≤ 2 ^ 100 := Nat.pow_le_pow_right (by decide) h
  have h1 : (2 : Int) ^ n ≤ 2 ^ 100 := by
    have : ((2 ^ n : Nat) : Int) ≤ ((2 ^ 100 : Nat) : Int) := Int.ofNat_le.mpr h0
    simpa using this
  have h2 : (0 : Int) < 2 ^ n := Int.pow_pos (by decide)
  have h3 : (2 : Int) ^ 100 < 2 ^ 400 := by decide
  exact ⟨by lia, by lia⟩
noncomputable def esc (m bt : Int) (n c : Nat) : Bool := decide (m / 2 ^ n % 2 ≠ 0) || (decide (c = 92) || ((decide (c = 34) && (decide (bt ≠ 0) || decide (n = 0))) || (decide (c = 32) && !decide (bt ≠ 0))))
theorem typed_test {Φ : Con} {card : List Nat} {m bt : Int} {n c : Nat} {a b : Option V} {T : Bool → Sto → Prop} (hc : card[n]? = some c) (hf : card.length ≤ 100) (hT : T (esc m bt n c) σ) :
    (mean Φ lt_law_typed_1).t [some (.str card), some (.int m), some (.int bt), a, b, some (.int n)] σ T := by
  have hn : n < card.length := (List.getElem?_eq_some_iff.mp hc).1
  have hc' : card[(n : Int).toNat]? = some c := hc
  ((try simp only [lt_law_typed_1, t_bool, ts_or, ts_nil, bo_or, ts_and, reduceCtorEq, false_implies, forall_const, true_and, bo_and, and_true, m_not, t_var, m_var, List.getElem?_cons_succ, List.getElem?_cons_zero, o_one, u_int, t_cmp, m_str, m_idx, x_strE (fits_le (by lia : card.length ≤ 1000000)) (Int.natCast_nonneg n) hc', c_eqS, m_int, c_eq, t_bin, m_bin, v_pow, Int.toNat_natCast, v_div, v_mod]); repeat ((first | (with_reducible show wS _ ir_law_typed_t2 _ _ _; unfold ir_law_typed_t2) | (with_reducible show wS _ ir_law_typed_t3 _ _ _; unfold ir_law_typed_t3) | (with_reducible show wS _ lb_law_typed_2_t2 _ _ _; unfold lb_law_typed_2_t2)); (skip)))
  refine ⟨Int.natCast_nonneg n, by lia, sm_small (by decide) (by decide), Int.pow_pos (by decide), sm_pow (by lia), by decide, ?_⟩
  unfold esc at hT
  by_cases h1 : m / 2 ^ n % 2 = 0 <;> by_cases h2 : c = 92 <;> by_cases h3 : c = 34 <;> by_cases h4 : c = 32 <;> by_cases h5 : bt = 0 <;> by_cases h6 : n = 0 <;> simp_all
theorem typed_spec {card : List Nat} {m : Int} (hc : ∀ c ∈ card, c ≠ 10 ∧ c ≠ 9 ∧ c ≠ 13) (hl : card.length ≤ 100) (hk : ∀ s ws w xs, Typed ws w card s → s.length ≤ 2 * card.length + 3 → K (.str s) (σ ++ xs)) : (conOf dfs (k + 1)).fn 8 [.str card, .int m] σ K := by
  refine ⟨rfl, ?_⟩
  show wS _ ir_law_typed [some (.str card), some (.int m), none, none, none, none] σ (retK K)
  unfold ir_law_typed
  have hm : 0 ≤ m / 16 % 4 ∧ m / 16 % 4 < 4 := ⟨Int.emod_nonneg _ (by decide), Int.emod_lt_of_pos _ (by decide)⟩
  obtain ⟨w, hw⟩ : ∃ w, ([32, 10, 9, 13] : List Nat)[(m / 16 % 4).toNat]? = some w := ⟨_, List.getElem?_eq_getElem (by show _ < 4; lia)⟩
  have hww : white.contains w = true := by
    have : w ∈ ([32, 10, 9, 13] : List Nat) := List.mem_of_getElem? hw
    have h : ∀ w ∈ ([32, 10, 9, 13] : List Nat), white.contains w = true := by decide
    exact h w this
  generalize hbt : m / 8 % 2 = bt
  ((try simp only [w_cons, w_asgT, m_tup, o_one, m_cons, m_nil, m_str, m_idx, m_bin, m_int, m_var, List.getElem?_cons_succ, List.getElem?_cons_zero, v_div, v_mod, x_strE (fits_le (by decide)) hm.1 hw]); repeat ((first | (with_reducible show wS _ ir_law_typed_t2 _ _ _; unfold ir_law_typed_t2) | (with_reducible show wS _ ir_law_typed_t3 _ _ _; unfold ir_law_typed_t3) | (with_reducible show wS _ lb_law_typed_2_t2 _ _ _; unfold lb_law_typed_2_t2)); (skip)))
  refine ⟨by decide, sm_small (by decide) (by decide), by decide, by decide, sm_small (by decide) (by decide), by decide, fits_le (by simp), ?_⟩
  rw [hbt, b_bindT (by decide) List.getElem?_concat_length]
  refine ⟨rfl, ?_⟩
  ((try simp only [setsL, List.set_cons_succ, List.set_cons_zero]); repeat ((first | (with_reducible show wS _ ir_law_typed_t2 _ _ _; unfold ir_law_typed_t2) | (with_reducible show wS _ ir_law_typed_t3 _ _ _; unfold ir_law_typed_t3) | (with_reducible show wS _ lb_law_typed_2_t2 _ _ _; unfold lb_law_typed_2_t2)); (try simp only [w_cons])))
  rw [w_for]
  ((try simp only [b_bindL, setsL, i_range, m_cons, m_nil, m_bcall, o_one, m_var, List.getElem?_cons_zero, f_lenS, i_rng1]); repeat ((first | (with_reducible show wS _ ir_law_typed_t2 _ _ _; unfold ir_law_typed_t2) | (with_reducible show wS _ ir_law_typed_t3 _ _ _; unfold ir_law_typed_t3) | (with_reducible show wS _ lb_law_typed_2_t2 _ _ _; unfold lb_law_typed_2_t2)); (skip)))
  refine ⟨fits_le (by lia), ⟨by lia, by lia⟩, _, for_rng (fun a ρ σ' => Ex4 fun (n : Nat) (its : List (Bool × Nat)) (y : Option V) (xs : Sto) => A6 (a = n) (its.map (·.2) = card.take n) ((bt ≠ 0 → ∀ i ∈ its, okQ i)) ((bt = 0 → (∀ i ∈ its, okB i) ∧ ∀ i, its.head? = some i → i.1 = true ∨ i.2 ≠ 34)) (ρ = [some (.str card), some (.int m), some (.int bt), some (.str [w]), some (.str (enc its)), y]) (σ' = σ ++ xs)) card.length ?_ ?_ (card.length : Int).toNat 0 _ _ (by simp) ⟨0, [], none, _, rfl, by simp, fun _ i h => (List.not_mem_nil h).elim, fun _ => ⟨fun i h => (List.not_mem_nil h).elim, fun i h => by simp at h⟩, rfl, rfl⟩⟩
  · rintro a ρ σ' K' ha ⟨n, its, y, xs, rfl, h1, h2, h3, rfl, rfl⟩ h
    have hn : n < card.length := by lia
    obtain ⟨c, hcn⟩ : ∃ c, card[n]? = some c := ⟨_, List.getElem?_eq_getElem hn⟩
    have hcm := hc c (List.mem_of_getElem? hcn)
    have hcn' : card[(n : Int).toNat]? = some c := hcn
    have hlen : its.length = n := by
      have := congrArg List.length h1
      simp at this; lia
    have henc : (enc its).length ≤ 2 * its.length := by
      clear h1 h2 h3 hlen h
      induction its with
      | nil => exact Nat.le_refl _
      | cons i its ih => obtain ⟨b, d⟩ := i; cases b <;> simp [enc] <;> lia
    have happ : ∀ (b : Bool), enc (its ++ [(b, c)]) = enc its ++ (if b then [92, c] else [c]) := by
      intro b
      clear h1 h2 h3 hlen h henc
      induction its with
      | nil => cases b <;> rfl
      | cons i its ih => obtain ⟨b', d⟩ := i; cases b' <;> simp [enc, ih]
    have next : ∀ b : Bool, b = esc m bt n c → K' .next [some (.str card), some (.int m), some (.int bt), some (.str [w]), some (.str (enc its ++ (if b then [92, c] else [c]))), some (.int n)] (σ ++ xs) := fun b hb => by
      rw [← happ b]
      refine h _ _ ⟨n + 1, its ++ [(b, c)], _, xs, by lia, ?_, fun q i hi => ?_, fun q => ⟨fun i hi => ?_, fun i hi => ?_⟩, rfl, rfl⟩
      · rw [List.map_append, h1]; simp [List.take_succ, hcn]
      · rcases List.mem_append.mp hi with hi | hi
        · exact h2 q i hi
        · rw [List.mem_singleton.mp hi]
          refine ⟨hcm.1, ?_⟩
          rw [hb]
          unfold esc
          by_cases e1 : c = 34 <;> by_cases e2 : c = 92 <;> simp_all
      · rcases List.mem_append.mp hi with hi | hi
        · exact (h3 q).1 i hi
        · rw [List.mem_singleton.mp hi]
          refine ⟨hcm.1, ?_⟩
          rw [hb]
          unfold esc
          by_cases e1 : c = 32 <;> by_cases e2 : c = 92 <;> simp_all [white]
      · cases its with
        | cons j its => exact (h3 q).2 i (by simpa using hi)
        | nil =>
          have hn0 : n = 0 := by simpa using hlen.symm
          have : i = (b, c) := by simpa using hi.symm
          subst this
          show b = true ∨ c ≠ 34
          rw [hb]
          unfold esc
          by_cases e1 : c = 34 <;> simp_all
    have hfl : Fits card.length := fits_le (by lia)
    ((try simp only [lb_law_typed_2, List.set_cons_succ, List.set_cons_zero, w_cons, w_ife, w_nil, w_aug, List.getElem?_cons_succ, List.getElem?_cons_zero, m_str, o_one, a_addS]); repeat ((first | (with_reducible show wS _ ir_law_typed_t2 _ _ _; unfold ir_law_typed_t2) | (with_reducible show wS _ ir_law_typed_t3 _ _ _; unfold ir_law_typed_t3) | (with_reducible show wS _ lb_law_typed_2_t2 _ _ _; unfold lb_law_typed_2_t2)); (skip)))
    refine typed_test hcn hl ?_
    refine ⟨fun q => ?_, fun q => ?_⟩
    · refine ⟨fits_le (by simp; lia), ?_⟩
      ((skip); repeat ((first | (with_reducible show wS _ ir_law_typed_t2 _ _ _; unfold ir_law_typed_t2) | (with_reducible show wS _ ir_law_typed_t3 _ _ _; unfold ir_law_typed_t3) | (with_reducible show wS _ lb_law_typed_2_t2 _ _ _; unfold lb_law_typed_2_t2)); (try simp only [w_cons, w_nil, w_aug, List.getElem?_cons_succ, List.getElem?_cons_zero, List.set_cons_succ, List.set_cons_zero, m_idx, o_one, m_var, x_strE hfl (Int.natCast_nonneg n) hcn', a_addS])))
      refine ⟨fits_le (by simp; lia), ?_⟩
      have := next true q.symm
      simpa using this
    · ((skip); repeat ((first | (with_reducible show wS _ ir_law_typed_t2 _ _ _; unfold ir_law_typed_t2) | (with_reducible show wS _ ir_law_typed_t3 _ _ _; unfold ir_law_typed_t3) | (with_reducible show wS _ lb_law_typed_2_t2 _ _ _; unfold lb_law_typed_2_t2)); (try simp only [w_cons, w_nil, w_aug, List.getElem?_cons_succ, List.getElem?_cons_zero, List.set_cons_succ, List.set_cons_zero, m_idx, o_one, m_var, x_strE hfl (Int.natCast_nonneg n) hcn', a_addS])))
      refine ⟨fits_le (by simp; lia), ?_⟩
      have := next false q.symm
      simpa using this
  · rintro ρ σ' ⟨n, its, y, xs, hn, h1, h2, h3, rfl, rfl⟩
    have hn' : n = card.length := by lia
    subst hn'
    rw [List.take_length] at h1
    have henc : (enc its).length ≤ 2 * its.length := by
      clear h1 h2 h3
      induction its with
      | nil => exact Nat.le_refl _
      | cons i its ih => obtain ⟨b, d⟩ := i; cases b <;> simp [enc] <;> lia
    have hlen : its.length = card.length := by rw [← h1]; simp
    ((skip); repeat ((first | (with_reducible show wS _ ir_law_typed_t2 _ _ _; unfold ir_law_typed_t2) | (with_reducible show wS _ ir_law_typed_t3 _ _ _; unfold ir_law_typed_t3) | (with_reducible show wS _ lb_law_typed_2_t2 _ _ _; unfold lb_law_typed_2_t2)); (try simp only [w_cons, w_nil, r_next, w_ret, r_ret, m_ife, m_bin, o_one, m_str, m_var, List.getElem?_cons_succ, List.getElem?_cons_zero, v_addS, t_var, u_int])))
    refine ⟨fun q => ?_, fun q => ?_⟩
    · have q : bt ≠ 0 := by simpa using q
      refine ⟨fits_le (by simp), fits_le (by simp; lia), fits_le (by simp; lia), ?_⟩
      refine hk _ [w] none xs ⟨its, h1, fun v hv => by rw [List.mem_singleton.mp hv]; exact hww, ?_, h2 q⟩ (by simp; lia)
      simp
    · have q : bt = 0 := by simpa using q
      refine ⟨fits_le (by simp; lia), ?_⟩
      exact hk _ [] (some w) xs ⟨its, h1, fun v hv => (List.not_mem_nil hv).elim, rfl, hww, (h3 q).1, (h3 q).2⟩ (by simp; lia)
end M02.Internal
end

section
set_option Elab.async false
set_option linter.all false
set_option maxRecDepth 10000
namespace M02.Internal
open PySem PySem.W MI.Internal

variable {k : Nat} {σ : Sto} {K : VK}
noncomputable def Cards : List Int → List (List Nat) → Prop
  | [], [] => True
  | n :: ns, s :: ss => card n s ∧ Cards ns ss
  | _, _ => False
theorem Cards.snoc {n : Int} {s : List Nat} (h : card n s) : ∀ {ns : List Int} {ss : List (List Nat)}, Cards ns ss → Cards (ns ++ [n]) (ss ++ [s])
  | [], [], _ => ⟨h, trivial⟩
  | _ :: _, _ :: _, ⟨a, b⟩ => ⟨a, Cards.snoc h b⟩
  | [], _ :: _, q => q.elim
  | _ :: _, [], q => q.elim
theorem Cards.len : ∀ {ns : List Int} {ss : List (List Nat)}, Cards ns ss → ss.length = ns.length
  | [], [], _ => rfl
  | _ :: _, _ :: _, ⟨_, b⟩ => by simp [Cards.len b]
  | [], _ :: _, q => q.elim
  | _ :: _, [], q => q.elim
theorem Cards.get : ∀ {ns : List Int} {ss : List (List Nat)}, Cards ns ss → ∀ {i : Nat} {s : List Nat}, ss[i]? = some s → ∃ n, ns[i]? = some n ∧ card n s
  | [], [], _, _, _, h => by simp at h
  | n :: _, _ :: _, ⟨a, _⟩, 0, _, h => ⟨n, rfl, by simp at h; exact h ▸ a⟩
  | _ :: _, _ :: _, ⟨_, b⟩, i + 1, _, h => by simpa using Cards.get b (i := i) (by simpa using h)
  | [], _ :: _, q, _, _, _ => q.elim
  | _ :: _, [], q, _, _, _ => q.elim
theorem Cards.mem {ns : List Int} {ss : List (List Nat)} (h : Cards ns ss) {s : List Nat} (hs : s ∈ ss) : ∃ n ∈ ns, card n s := by
  obtain ⟨i, hi⟩ := List.mem_iff_getElem?.mp hs
  obtain ⟨n, h1, h2⟩ := h.get hi
  exact ⟨n, List.mem_of_getElem? h1, h2⟩
/-- small enough to be dealt -/
noncomputable def Sz (x : Int) : Prop := -(1000000000000 : Int) < x ∧ x < 1000000000000
theorem Sz.len {x : Int} (h : Sz x) : (apN x.natAbs).length ≤ 20 := apN_length 20 _ (by obtain ⟨a, b⟩ := h; have h16 : (16 : Nat) ^ 20 = 1208925819614629174706176 := (by decide); rw [h16]; lia)
theorem Sz.sm {x : Int} (h : Sz x) : Sm x := sm_small h.1 h.2
theorem card_len {x : Int} {s : List Nat} (h : card x s) (hx : Sz x) : 1 ≤ s.length ∧ s.length ≤ 21 := by
  obtain ⟨c, rfl, _⟩ := h
  have := hx.len
  simp; lia
theorem card_chars {x : Int} {s : List Nat} (h : card x s) : ∀ c ∈ s, c ≠ 10 ∧ c ≠ 9 ∧ c ≠ 13 ∧ c < 1114112 := by
  obtain ⟨d, rfl, hd⟩ := h
  intro c hc
  rcases List.mem_append.mp hc with h | h
  · have := apN_mem h; lia
  · rw [List.mem_singleton.mp h]
    have := signs_no _ d hd
    lia
theorem flat_len {ns : List Int} (hz : ∀ n ∈ ns, Sz n) : ∀ {ss : List (List Nat)}, Cards ns ss → ss.flatten.length ≤ 21 * ns.length := by
  induction ns with
  | nil => intro ss h; cases ss with
    | nil => simp
    | cons _ _ => exact h.elim
  | cons n ns ih => intro ss h; cases ss with
    | nil => exact h.elim
    | cons s ss =>
      have := ih (fun n hn => hz n (.tail _ hn)) h.2
      have := (card_len h.1 (hz n (.head _))).2
      show (s ++ ss.flatten).length ≤ 21 * (ns.length + 1)
      rw [List.length_append]; lia
/-- the texts of the cards, one by one -/
noncomputable def TypedAll : List (List Nat) → List (List Nat) → Prop
  | [], [] => True
  | c :: cs, t :: ts => (∃ ws w, Typed ws w c t) ∧ t.length ≤ 2 * c.length + 3 ∧ TypedAll cs ts
  | _, _ => False
theorem TypedAll.snoc {c t : List Nat} (h : ∃ ws w, Typed ws w c t) (hl : t.length ≤ 2 * c.length + 3) : ∀ {cs ts : List (List Nat)}, TypedAll cs ts → TypedAll (cs ++ [c]) (ts ++ [t])
  | [], [], _ => ⟨h, hl, trivial⟩
  | _ :: _, _ :: _, ⟨a, b, d⟩ => ⟨a, b, TypedAll.snoc h hl d⟩
  | [], _ :: _, q => q.elim
  | _ :: _, [], q => q.elim
theorem TypedAll.flat : ∀ {cs ts : List (List Nat)}, TypedAll cs ts → ts.flatten.length ≤ 2 * cs.flatten.length + 3 * cs.length
  | [], [], _ => by simp
  | c :: cs, t :: ts, ⟨_, b, d⟩ => by
    have := TypedAll.flat d
    show (t ++ ts.flatten).length ≤ 2 * (c ++ cs.flatten).length + 3 * (cs.length + 1)
    rw [List.length_append, List.length_append]; lia
  | [], _ :: _, q => q.elim
  | _ :: _, [], q => q.elim
theorem TypedAll.len : ∀ {cs ts : List (List Nat)}, TypedAll cs ts → ts.length = cs.length
  | [], [], _ => rfl
  | _ :: _, _ :: _, ⟨_, _, b⟩ => by simp [TypedAll.len b]
  | [], _ :: _, q => q.elim
  | _ :: _, [], q => q.elim
theorem TypedAll.get : ∀ {cs ts : List (List Nat)}, TypedAll cs ts → ∀ {i : Nat} {c : List Nat}, cs[i]? = some c → ∃ t, ts[i]? = some t ∧ ∃ ws w, Typed ws w c t
  | [], [], _, _, _, h => by simp at h
  | _ :: _, t :: _, ⟨a, _⟩, 0, _, h => ⟨t, rfl, by simp at h; exact h ▸ a⟩
  | _ :: _, _ :: _, ⟨_, _, b⟩, i + 1, _, h => by simpa using TypedAll.get b (i := i) (by simpa using h)
  | [], _ :: _, q, _, _, _ => q.elim
  | _ :: _, [], q, _, _, _ => q.elim
theorem drop_get {α : Type} {l : List α} {i : Nat} {x : α} (h : l[i]? = some x) : l.drop i = x :: l.drop (i + 1) := by
  obtain ⟨hl, e⟩ := List.getElem?_eq_some_iff.mp h
  rw [List.drop_eq_getElem_cons hl, e]
theorem take_get {α : Type} {l : List α} {i : Nat} {x : α} (h : l[i]? = some x) : l.take (i + 1) = l.take i ++ [x] := by
  rw [List.take_succ, h]; rfl

theorem line_spec {r : Nat} {ns : List Int} {m : Int} (hr : σ[r]? = some (.list (ns.map .int))) (hn : ns.length ≤ 4) (h1 : ns ≠ []) (hz : ∀ n ∈ ns, Sz n)
    (hk : ∀ (L : Lx) (t : Nat) (ln : Int) (ss : List (List Nat)) (J jt : List Nat) (ws : List Nat) (w : Option Nat) σ', Cards ns ss → J = ss.flatten → J ≠ [] → Typed ws w J jt → jt.length ≤ 1000 → L.At ln jt (ss.map .str) σ' → Fr [] σ σ' → (σ.length ≤ L.t ∧ σ.length ≤ L.d ∧ σ.length ≤ L.p ∧ σ.length ≤ L.d2) →
      σ'[t]? = some (.tup [.obj L.q, .str J]) → K (.obj t) σ') : (conOf dfs (k + 4)).fn 13 [.obj r, .int m] σ K := by
  refine ⟨rfl, ?_⟩
  show wS _ ir_law_line [some (.obj r), some (.int m), none, none, none, none] σ (retK K)
  unfold ir_law_line
  have lens : (ns.map V.int).length = ns.length := by simp
  ((try simp only [w_cons, w_asg, List.set_cons_succ, List.set_cons_zero]); repeat ((first | (with_reducible show wS _ ir_law_line_t2 _ _ _; unfold ir_law_line_t2) | (with_reducible show wS _ ir_law_line_t3 _ _ _; unfold ir_law_line_t3) | (with_reducible show wS _ ir_law_line_t4 _ _ _; unfold ir_law_line_t4) | (with_reducible show wS _ ir_law_line_t5 _ _ _; unfold ir_law_line_t5) | (with_reducible show wS _ ir_law_line_t6 _ _ _; unfold ir_law_line_t6)); (skip)))
  rw [m_comp]
  ((try simp only [o_one, i_range, m_cons, m_nil, m_bcall, m_var, List.getElem?_cons_zero, f_len hr, lens, i_rng1]); repeat ((first | (with_reducible show wS _ ir_law_line_t2 _ _ _; unfold ir_law_line_t2) | (with_reducible show wS _ ir_law_line_t3 _ _ _; unfold ir_law_line_t3) | (with_reducible show wS _ ir_law_line_t4 _ _ _; unfold ir_law_line_t4) | (with_reducible show wS _ ir_law_line_t5 _ _ _; unfold ir_law_line_t5) | (with_reducible show wS _ ir_law_line_t6 _ _ _; unfold ir_law_line_t6)); (skip)))
  refine ⟨fits_le (by lia), ⟨by lia, by lia⟩, _, comp_rng (fun a acc σ' => Ex3 fun (i : Nat) (ss : List (List Nat)) (xs : Sto) => A4 (a = i) (acc = ss.map .str) (Cards (ns.take i) ss) (σ' = σ ++ xs)) ns.length ?_ ?_ ?_ (ns.length : Int).toNat 0 [] _ (by simp) ⟨0, [], [], rfl, rfl, trivial, by simp⟩⟩
  · rintro a acc σ' ⟨i, ss, xs, rfl, rfl, h, rfl⟩
    have := h.len
    refine fits_le ?_
    simp at this ⊢; lia
  · rintro a acc σ' K' ha ⟨i, ss, xs, rfl, rfl, h, rfl⟩ hK
    have hi : i < ns.length := by lia
    obtain ⟨n, hni⟩ : ∃ n, ns[i]? = some n := ⟨_, List.getElem?_eq_getElem hi⟩
    have hr' : (σ ++ xs)[r]? = some (.list (ns.map .int)) := Fr.app (m := []) _ _ List.not_mem_nil hr
    have hx : (ns.map V.int)[(i : Int).toNat]? = some (.int n) := by simp [hni]
    ((try simp only [le_law_line_1, s_one, m_call, o_one, m_cons, m_nil, m_bin, m_var, m_int, m_idx, t_nil, reduceCtorEq, false_implies, forall_const, true_and]); repeat ((first | (with_reducible show wS _ ir_law_line_t2 _ _ _; unfold ir_law_line_t2) | (with_reducible show wS _ ir_law_line_t3 _ _ _; unfold ir_law_line_t3) | (with_reducible show wS _ ir_law_line_t4 _ _ _; unfold ir_law_line_t4) | (with_reducible show wS _ ir_law_line_t5 _ _ _; unfold ir_law_line_t5) | (with_reducible show wS _ ir_law_line_t6 _ _ _; unfold ir_law_line_t6)); (skip)))
    refine x_list hr' (fits_le (by simp; lia)) (Int.natCast_nonneg i) hx ?_
    ((skip); repeat ((first | (with_reducible show wS _ ir_law_line_t2 _ _ _; unfold ir_law_line_t2) | (with_reducible show wS _ ir_law_line_t3 _ _ _; unfold ir_law_line_t3) | (with_reducible show wS _ ir_law_line_t4 _ _ _; unfold ir_law_line_t4) | (with_reducible show wS _ ir_law_line_t5 _ _ _; unfold ir_law_line_t5) | (with_reducible show wS _ ir_law_line_t6 _ _ _; unfold ir_law_line_t6)); (skip)))
    refine ⟨sm_small (by decide) (by decide), sm_small (by lia) (by lia), ?_⟩
    refine card_spec (Nat.le_trans (hz n (List.mem_of_getElem? hni)).len (by decide)) fun s ys hs => ?_
    ((skip); repeat ((first | (with_reducible show wS _ ir_law_line_t2 _ _ _; unfold ir_law_line_t2) | (with_reducible show wS _ ir_law_line_t3 _ _ _; unfold ir_law_line_t3) | (with_reducible show wS _ ir_law_line_t4 _ _ _; unfold ir_law_line_t4) | (with_reducible show wS _ ir_law_line_t5 _ _ _; unfold ir_law_line_t5) | (with_reducible show wS _ ir_law_line_t6 _ _ _; unfold ir_law_line_t6)); (skip)))
    refine hK _ _ ⟨i + 1, ss ++ [s], xs ++ ys, by lia, by simp, ?_, by simp⟩
    rw [take_get hni]
    exact h.snoc hs
  rintro acc σ₁ ⟨i, ss, xs, hi, rfl, hss, rfl⟩
  have : i = ns.length := by lia
  subst this
  rw [List.take_length] at hss
  have ls := hss.len
  have lJ := flat_len hz hss
  have hJ1 : ss.flatten ≠ [] := by
    cases ss with
    | nil => cases ns with
      | nil => exact absurd rfl h1
      | cons _ _ => exact hss.elim
    | cons s ss => cases ns with
      | nil => exact hss.elim
      | cons n ns =>
        have := (card_len hss.1 (hz n (.head _))).1
        intro e
        have e : s ++ ss.flatten = [] := e
        have := congrArg List.length e
        rw [List.length_append, List.length_nil] at this; lia
  have hJc : ∀ c ∈ ss.flatten, c ≠ 10 ∧ c ≠ 9 ∧ c ≠ 13 ∧ c < 1114112 := fun c hc => by
    obtain ⟨s, hs, hcs⟩ := List.mem_flatten.mp hc
    obtain ⟨n, _, hn⟩ := hss.mem hs
    exact card_chars hn c hcs
  ((skip); repeat ((first | (with_reducible show wS _ ir_law_line_t2 _ _ _; unfold ir_law_line_t2) | (with_reducible show wS _ ir_law_line_t3 _ _ _; unfold ir_law_line_t3) | (with_reducible show wS _ ir_law_line_t4 _ _ _; unfold ir_law_line_t4) | (with_reducible show wS _ ir_law_line_t5 _ _ _; unfold ir_law_line_t5) | (with_reducible show wS _ ir_law_line_t6 _ _ _; unfold ir_law_line_t6)); (try simp only [w_cons, w_asg, List.set_cons_succ, List.set_cons_zero, m_bm, o_one, m_cons, m_nil, m_var, List.getElem?_cons_succ, List.getElem?_cons_zero, m_str, bt_join, true_and])))
  obtain ⟨rc, hrc⟩ : ∃ rc, rc = (σ ++ xs).length := ⟨_, rfl⟩
  rw [← hrc]
  have g1 : (σ ++ xs ++ [O.list (ss.map .str)])[rc]? = some (.list (ss.map .str)) := by rw [hrc]; exact List.getElem?_concat_length
  obtain ⟨σ₂, hσ₂⟩ : ∃ σ₂, σ₂ = σ ++ xs ++ [O.list (ss.map .str)] := ⟨_, rfl⟩
  rw [← hσ₂] at g1 ⊢
  have F2 : Fr [] σ σ₂ := by rw [hσ₂, List.append_assoc]; exact .app
  have l2 : σ.length ≤ σ₂.length := by rw [hσ₂, List.length_append, List.length_append]; lia
  have lrc : rc < σ₂.length := lt_of_get g1
  rw [b_join g1]
  refine ⟨ss, strsV_map ss, by lia, ?_⟩
  ((skip); repeat ((first | (with_reducible show wS _ ir_law_line_t2 _ _ _; unfold ir_law_line_t2) | (with_reducible show wS _ ir_law_line_t3 _ _ _; unfold ir_law_line_t3) | (with_reducible show wS _ ir_law_line_t4 _ _ _; unfold ir_law_line_t4) | (with_reducible show wS _ ir_law_line_t5 _ _ _; unfold ir_law_line_t5) | (with_reducible show wS _ ir_law_line_t6 _ _ _; unfold ir_law_line_t6)); (try simp only [w_cons, w_asg, List.set_cons_succ, List.set_cons_zero, m_bm, o_one, m_cons, m_nil, m_str, bt_join, true_and])))
  rw [m_comp]
  have lens2 : (ss.map V.str).length = ss.length := by simp
  ((try simp only [o_one, i_range, m_cons, m_nil, m_bcall, m_var, List.getElem?_cons_succ, List.getElem?_cons_zero, f_len g1, lens2, i_rng1]); repeat ((first | (with_reducible show wS _ ir_law_line_t2 _ _ _; unfold ir_law_line_t2) | (with_reducible show wS _ ir_law_line_t3 _ _ _; unfold ir_law_line_t3) | (with_reducible show wS _ ir_law_line_t4 _ _ _; unfold ir_law_line_t4) | (with_reducible show wS _ ir_law_line_t5 _ _ _; unfold ir_law_line_t5) | (with_reducible show wS _ ir_law_line_t6 _ _ _; unfold ir_law_line_t6)); (skip)))
  refine ⟨fits_le (by lia), ⟨by lia, by lia⟩, _, comp_rng (fun a acc σ' => Ex3 fun (i : Nat) (ts : List (List Nat)) (ys : Sto) => A4 (a = i) (acc = ts.map .str) (TypedAll (ss.take i) ts) (σ' = σ₂ ++ ys)) ss.length ?_ ?_ ?_ (ss.length : Int).toNat 0 [] _ (by simp) ⟨0, [], [], rfl, rfl, trivial, by simp⟩⟩
  · rintro a acc σ' ⟨i, ts, ys, rfl, rfl, h, rfl⟩
    have := h.len
    refine fits_le ?_
    simp at this ⊢; lia
  · rintro a acc σ' K' ha ⟨i, ts, ys, rfl, rfl, h, rfl⟩ hK
    have hi : i < ss.length := by lia
    obtain ⟨s, hsi⟩ : ∃ s, ss[i]? = some s := ⟨_, List.getElem?_eq_getElem hi⟩
    have g1' : (σ₂ ++ ys)[rc]? = some (.list (ss.map .str)) := Fr.app (m := []) _ _ List.not_mem_nil g1
    have hx : (ss.map V.str)[(i : Int).toNat]? = some (.str s) := by simp [hsi]
    obtain ⟨n, hn1, hn2⟩ := hss.get hsi
    have lc := card_len hn2 (hz n (List.mem_of_getElem? hn1))
    ((try simp only [le_law_line_2, s_one, m_call, o_one, m_cons, m_nil, m_bin, m_var, m_int, m_idx, t_nil, reduceCtorEq, false_implies, forall_const, true_and]); repeat ((first | (with_reducible show wS _ ir_law_line_t2 _ _ _; unfold ir_law_line_t2) | (with_reducible show wS _ ir_law_line_t3 _ _ _; unfold ir_law_line_t3) | (with_reducible show wS _ ir_law_line_t4 _ _ _; unfold ir_law_line_t4) | (with_reducible show wS _ ir_law_line_t5 _ _ _; unfold ir_law_line_t5) | (with_reducible show wS _ ir_law_line_t6 _ _ _; unfold ir_law_line_t6)); (skip)))
    refine x_list g1' (fits_le (by simp; lia)) (Int.natCast_nonneg i) hx ?_
    ((skip); repeat ((first | (with_reducible show wS _ ir_law_line_t2 _ _ _; unfold ir_law_line_t2) | (with_reducible show wS _ ir_law_line_t3 _ _ _; unfold ir_law_line_t3) | (with_reducible show wS _ ir_law_line_t4 _ _ _; unfold ir_law_line_t4) | (with_reducible show wS _ ir_law_line_t5 _ _ _; unfold ir_law_line_t5) | (with_reducible show wS _ ir_law_line_t6 _ _ _; unfold ir_law_line_t6)); (skip)))
    have p3 : (0 : Int) < 3 ^ (i : Int).toNat := Int.pow_pos (by decide)
    have p4 : (3 : Int) ^ (i : Int).toNat ≤ 81 := by
      have : i < 4 := by lia
      rw [Int.toNat_natCast]
      match i, this with
      | 0, _ => decide
      | 1, _ => decide
      | 2, _ => decide
      | 3, _ => decide
    refine ⟨Int.natCast_nonneg i, by lia, sm_small (by decide) (by decide), p3, sm_small (by lia) (by lia), ?_⟩
    refine typed_spec (fun c hc => let ⟨a, b, d, _⟩ := card_chars hn2 c hc; ⟨a, b, d⟩) (by lia) fun t ws w zs ht hl => ?_
    ((skip); repeat ((first | (with_reducible show wS _ ir_law_line_t2 _ _ _; unfold ir_law_line_t2) | (with_reducible show wS _ ir_law_line_t3 _ _ _; unfold ir_law_line_t3) | (with_reducible show wS _ ir_law_line_t4 _ _ _; unfold ir_law_line_t4) | (with_reducible show wS _ ir_law_line_t5 _ _ _; unfold ir_law_line_t5) | (with_reducible show wS _ ir_law_line_t6 _ _ _; unfold ir_law_line_t6)); (skip)))
    refine hK _ _ ⟨i + 1, ts ++ [t], ys ++ zs, by lia, by simp, ?_, by simp⟩
    rw [take_get hsi]
    exact h.snoc ⟨ws, w, ht⟩ hl
  rintro acc σ₃ ⟨i, ts, ys, hi, rfl, hts, rfl⟩
  have : i = ss.length := by lia
  subst this
  rw [List.take_length] at hts
  have lts := hts.len
  have lT := hts.flat
  ((skip); repeat ((first | (with_reducible show wS _ ir_law_line_t2 _ _ _; unfold ir_law_line_t2) | (with_reducible show wS _ ir_law_line_t3 _ _ _; unfold ir_law_line_t3) | (with_reducible show wS _ ir_law_line_t4 _ _ _; unfold ir_law_line_t4) | (with_reducible show wS _ ir_law_line_t5 _ _ _; unfold ir_law_line_t5) | (with_reducible show wS _ ir_law_line_t6 _ _ _; unfold ir_law_line_t6)); (skip)))
  rw [b_join List.getElem?_concat_length]
  refine ⟨ts, strsV_map ts, by lia, ?_⟩
  ((skip); repeat ((first | (with_reducible show wS _ ir_law_line_t2 _ _ _; unfold ir_law_line_t2) | (with_reducible show wS _ ir_law_line_t3 _ _ _; unfold ir_law_line_t3) | (with_reducible show wS _ ir_law_line_t4 _ _ _; unfold ir_law_line_t4) | (with_reducible show wS _ ir_law_line_t5 _ _ _; unfold ir_law_line_t5) | (with_reducible show wS _ ir_law_line_t6 _ _ _; unfold ir_law_line_t6)); (try simp only [w_cons, w_asg, List.set_cons_succ, List.set_cons_zero, m_call, o_one, m_cons, m_nil, m_bin, m_int, m_var, List.getElem?_cons_succ, List.getElem?_cons_zero, v_div])))
  refine ⟨by decide, sm_small (by decide) (by decide), ?_⟩
  refine typed_spec (fun c hc => let ⟨a, b, d, _⟩ := hJc c hc; ⟨a, b, d⟩) (by lia) fun jt jws jw zs hjt hjl => ?_
  ((try simp only [v_addS]); repeat ((first | (with_reducible show wS _ ir_law_line_t2 _ _ _; unfold ir_law_line_t2) | (with_reducible show wS _ ir_law_line_t3 _ _ _; unfold ir_law_line_t3) | (with_reducible show wS _ ir_law_line_t4 _ _ _; unfold ir_law_line_t4) | (with_reducible show wS _ ir_law_line_t5 _ _ _; unfold ir_law_line_t5) | (with_reducible show wS _ ir_law_line_t6 _ _ _; unfold ir_law_line_t6)); (skip)))
  refine ⟨fits_le (by lia), ?_⟩
  obtain ⟨σ₄, hσ₄⟩ : ∃ σ₄, σ₄ = σ₂ ++ ys ++ [O.list (ts.map .str)] ++ zs := ⟨_, rfl⟩
  rw [← hσ₄]
  have F4 : Fr [] σ₂ σ₄ := by rw [hσ₄, List.append_assoc, List.append_assoc]; exact .app
  have l4 : σ₂.length ≤ σ₄.length := by rw [hσ₄, List.length_append, List.length_append, List.length_append]; lia
  refine lexer_fn (fits_le (by rw [List.length_append]; lia)) fun L σ₅ hL F5 hLt => ?_
  ((skip); repeat ((first | (with_reducible show wS _ ir_law_line_t2 _ _ _; unfold ir_law_line_t2) | (with_reducible show wS _ ir_law_line_t3 _ _ _; unfold ir_law_line_t3) | (with_reducible show wS _ ir_law_line_t4 _ _ _; unfold ir_law_line_t4) | (with_reducible show wS _ ir_law_line_t5 _ _ _; unfold ir_law_line_t5) | (with_reducible show wS _ ir_law_line_t6 _ _ _; unfold ir_law_line_t6)); (try simp only [w_cons, w_ife, w_nil, w_ret, r_ret, m_tup, o_one, m_cons, m_nil, m_var, List.getElem?_cons_succ, List.getElem?_cons_zero, m_none])))
  have g5 : σ₅[rc]? = some (.list (ss.map .str)) := F5 _ _ List.not_mem_nil (F4 _ _ List.not_mem_nil g1)
  have e5 : ∀ r ∈ L.p :: L.mu, σ₄.length ≤ r := fun r hr => by
    rcases List.mem_cons.mp hr with rfl | hr
    · lia
    · rcases List.mem_cons.mp hr with rfl | hr
      · lia
      · rw [List.mem_singleton.mp hr]; lia
  have nrc : rc ∉ L.p :: L.mu := fun z => by have := e5 _ z; lia
  have nrc' : rc ∉ L.mu := fun z => nrc (.tail _ z)
  have fl : ∀ v ∈ ss.map V.str, flatV v := fun v hv => by
    obtain ⟨s, hs, rfl⟩ := List.mem_map.mp hv
    obtain ⟨n, _, hn⟩ := hss.mem hs
    exact fun c hc => (card_chars hn c hc).2.2.2
  -- the test
  have test : ∀ (T : Bool → Sto → Prop), (∀ ln σ', L.At ln jt (ss.map .str) σ' → Fr [] σ₄ σ' → T false σ') → (mean (conOf dfs (k + 3)) lt_law_line_6).t [some (V.obj r), some (V.int m), some (V.obj rc), some (V.str ss.flatten), some (V.str ts.flatten), some (V.obj L.q)] σ₅ T := by
    intro T hT
    ((try simp only [lt_law_line_6, t_bool, ts_or, ts_nil, bo_or, t_cmp, m_var, List.getElem?_cons_succ, List.getElem?_cons_zero, o_one]); repeat ((first | (with_reducible show wS _ ir_law_line_t2 _ _ _; unfold ir_law_line_t2) | (with_reducible show wS _ ir_law_line_t3 _ _ _; unfold ir_law_line_t3) | (with_reducible show wS _ ir_law_line_t4 _ _ _; unfold ir_law_line_t4) | (with_reducible show wS _ ir_law_line_t5 _ _ _; unfold ir_law_line_t5) | (with_reducible show wS _ ir_law_line_t6 _ _ _; unfold ir_law_line_t6)); (skip)))
    rw [m_comp]
    ((try simp only [o_one, i_var, m_var, List.getElem?_cons_succ, List.getElem?_cons_zero, i_lst g5]); repeat ((first | (with_reducible show wS _ ir_law_line_t2 _ _ _; unfold ir_law_line_t2) | (with_reducible show wS _ ir_law_line_t3 _ _ _; unfold ir_law_line_t3) | (with_reducible show wS _ ir_law_line_t4 _ _ _; unfold ir_law_line_t4) | (with_reducible show wS _ ir_law_line_t5 _ _ _; unfold ir_law_line_t5) | (with_reducible show wS _ ir_law_line_t6 _ _ _; unfold ir_law_line_t6)); (skip)))
    refine ⟨_, comp_lst (r := rc) (l := ss.map .str) (fun i acc σ' => ∃ ln, A3 (acc = (ss.take i).map .str) (L.At ln ((ts.drop i).flatten ++ jt) [] σ') (Fr L.mu σ₅ σ')) ?_ ?_ ?_ ?_ ss.length 0 [] σ₅ (by simp) ⟨1, rfl, by simpa using hL, .refl⟩⟩
    · rintro i acc σ' ⟨ln, rfl, _⟩
      refine fits_le ?_
      simp; lia
    · rintro i acc σ' ⟨ln, rfl, _, F⟩
      exact F _ _ nrc' g5
    · rintro i v acc σ' K' hv ⟨ln, rfl, hA, F⟩ hK _
      obtain ⟨s, hs, rfl⟩ : ∃ s, ss[i]? = some s ∧ V.str s = v := by simpa using hv
      obtain ⟨t, ht, tws, tw, hty⟩ := hts.get hs
      obtain ⟨n, hn1, hn2⟩ := hss.get hs
      have lc := card_len hn2 (hz n (List.mem_of_getElem? hn1))
      have hd : (ts.drop i).flatten ++ jt = t ++ ((ts.drop (i + 1)).flatten ++ jt) := by rw [drop_get ht]; simp
      rw [hd] at hA
      have lts2 : (ts.drop i).flatten.length ≤ ts.flatten.length := by
        have := congrArg (fun x => (List.flatten x).length) (List.take_append_drop i ts)
        simp only [List.flatten_append, List.length_append] at this
        lia
      ((try simp only [le_law_line_3, s_one, m_cm, o_one, m_nil, m_var, t_nil, reduceCtorEq, false_implies, forall_const, true_and]); repeat ((first | (with_reducible show wS _ ir_law_line_t2 _ _ _; unfold ir_law_line_t2) | (with_reducible show wS _ ir_law_line_t3 _ _ _; unfold ir_law_line_t3) | (with_reducible show wS _ ir_law_line_t4 _ _ _; unfold ir_law_line_t4) | (with_reducible show wS _ ir_law_line_t5 _ _ _; unfold ir_law_line_t5) | (with_reducible show wS _ ir_law_line_t6 _ _ _; unfold ir_law_line_t6)); (skip)))
      refine ⟨hA.qu.mget, get_typed shd hty (fun e => by rw [e] at lc; simp at lc) hA (fits_le (by rw [← hd, List.length_append]; lia)) fun σ'' hA' F' => ?_⟩
      ((skip); repeat ((first | (with_reducible show wS _ ir_law_line_t2 _ _ _; unfold ir_law_line_t2) | (with_reducible show wS _ ir_law_line_t3 _ _ _; unfold ir_law_line_t3) | (with_reducible show wS _ ir_law_line_t4 _ _ _; unfold ir_law_line_t4) | (with_reducible show wS _ ir_law_line_t5 _ _ _; unfold ir_law_line_t5) | (with_reducible show wS _ ir_law_line_t6 _ _ _; unfold ir_law_line_t6)); (skip)))
      refine hK _ _ ⟨_, ?_, hA', F.trans F'⟩
      rw [take_get hs]; simp
    · rintro acc σ₆ ⟨ln, rfl, hA, F⟩
      have lm : (ss.map V.str).length = ss.length := by simp
      rw [lm] at hA ⊢
      rw [List.take_length]
      rw [← lts, List.drop_length] at hA
      have hA : L.At ln jt [] σ₆ := by simpa using hA
      have g6 : σ₆[rc]? = some (.list (ss.map .str)) := F _ _ nrc' g5
      ((skip); repeat ((first | (with_reducible show wS _ ir_law_line_t2 _ _ _; unfold ir_law_line_t2) | (with_reducible show wS _ ir_law_line_t3 _ _ _; unfold ir_law_line_t3) | (with_reducible show wS _ ir_law_line_t4 _ _ _; unfold ir_law_line_t4) | (with_reducible show wS _ ir_law_line_t5 _ _ _; unfold ir_law_line_t5) | (with_reducible show wS _ ir_law_line_t6 _ _ _; unfold ir_law_line_t6)); (skip)))
      refine c_neSame (vs := ss.map .str) List.getElem?_concat_length (Fr.app (m := []) _ _ List.not_mem_nil g6) fl ?_
      ((try simp only [reduceCtorEq, false_implies, forall_const, true_and]); repeat ((first | (with_reducible show wS _ ir_law_line_t2 _ _ _; unfold ir_law_line_t2) | (with_reducible show wS _ ir_law_line_t3 _ _ _; unfold ir_law_line_t3) | (with_reducible show wS _ ir_law_line_t4 _ _ _; unfold ir_law_line_t4) | (with_reducible show wS _ ir_law_line_t5 _ _ _; unfold ir_law_line_t5) | (with_reducible show wS _ ir_law_line_t6 _ _ _; unfold ir_law_line_t6)); (skip)))
      rw [m_comp]
      have hA7 : L.At ln jt [] (σ₆ ++ [O.list (ss.map .str)]) := hA.app
      have F7 : Fr L.mu σ₅ (σ₆ ++ [O.list (ss.map .str)]) := F.trans .app
      generalize σ₆ ++ [O.list (ss.map .str)] = σ₇ at hA7 F7
      have g7 : σ₇[rc]? = some (.list (ss.map .str)) := F7 _ _ nrc' g5
      ((try simp only [o_one, i_var, m_var, List.getElem?_cons_succ, List.getElem?_cons_zero, i_lst g7]); repeat ((first | (with_reducible show wS _ ir_law_line_t2 _ _ _; unfold ir_law_line_t2) | (with_reducible show wS _ ir_law_line_t3 _ _ _; unfold ir_law_line_t3) | (with_reducible show wS _ ir_law_line_t4 _ _ _; unfold ir_law_line_t4) | (with_reducible show wS _ ir_law_line_t5 _ _ _; unfold ir_law_line_t5) | (with_reducible show wS _ ir_law_line_t6 _ _ _; unfold ir_law_line_t6)); (skip)))
      refine ⟨_, comp_lst (r := rc) (l := ss.map .str) (fun i acc σ' => acc = List.replicate i .none ∧ i ≤ ss.length ∧ L.At ln jt ((ss.take i).map .str) σ' ∧ Fr (L.p :: L.mu) σ₅ σ') ?_ ?_ ?_ ?_ ss.length 0 [] σ₇ (by simp) ⟨rfl, Nat.zero_le _, hA7, F7.mono fun _ h => .tail _ h⟩⟩
      · rintro i acc σ' ⟨rfl, hi, _⟩
        refine fits_le ?_
        simp; lia
      · rintro i acc σ' ⟨rfl, hi, _, F⟩
        exact F _ _ nrc g5
      · rintro i v acc σ' K' hv ⟨rfl, hi, hA, F⟩ hK _
        obtain ⟨s, hs, rfl⟩ : ∃ s, ss[i]? = some s ∧ V.str s = v := by simpa using hv
        have hi' := (List.getElem?_eq_some_iff.mp hs).1
        ((try simp only [le_law_line_4, s_one, m_cm, o_one, m_cons, m_nil, m_var, t_nil, reduceCtorEq, false_implies, forall_const, true_and]); repeat ((first | (with_reducible show wS _ ir_law_line_t2 _ _ _; unfold ir_law_line_t2) | (with_reducible show wS _ ir_law_line_t3 _ _ _; unfold ir_law_line_t3) | (with_reducible show wS _ ir_law_line_t4 _ _ _; unfold ir_law_line_t4) | (with_reducible show wS _ ir_law_line_t5 _ _ _; unfold ir_law_line_t5) | (with_reducible show wS _ ir_law_line_t6 _ _ _; unfold ir_law_line_t6)); (skip)))
        refine ⟨hA.qu.mput, put_spec shd hA.qu (fits_le (by simp; lia)) ?_⟩
        ((skip); repeat ((first | (with_reducible show wS _ ir_law_line_t2 _ _ _; unfold ir_law_line_t2) | (with_reducible show wS _ ir_law_line_t3 _ _ _; unfold ir_law_line_t3) | (with_reducible show wS _ ir_law_line_t4 _ _ _; unfold ir_law_line_t4) | (with_reducible show wS _ ir_law_line_t5 _ _ _; unfold ir_law_line_t5) | (with_reducible show wS _ ir_law_line_t6 _ _ _; unfold ir_law_line_t6)); (skip)))
        refine hK _ _ ⟨by rw [List.replicate_succ'], by lia, ?_, F.trans (Fr.set.mono fun r hr => by rw [List.mem_singleton.mp hr]; exact .head _)⟩
        rw [take_get hs, List.map_append]
        exact hA.setP
      · rintro acc σ₈ ⟨rfl, _, hA8, F8⟩
        rw [lm] at hA8 ⊢
        rw [List.take_length] at hA8
        ((skip); repeat ((first | (with_reducible show wS _ ir_law_line_t2 _ _ _; unfold ir_law_line_t2) | (with_reducible show wS _ ir_law_line_t3 _ _ _; unfold ir_law_line_t3) | (with_reducible show wS _ ir_law_line_t4 _ _ _; unfold ir_law_line_t4) | (with_reducible show wS _ ir_law_line_t5 _ _ _; unfold ir_law_line_t5) | (with_reducible show wS _ ir_law_line_t6 _ _ _; unfold ir_law_line_t6)); (skip)))
        rw [m_comp]
        have hA9 : L.At ln jt (ss.map .str) (σ₈ ++ [O.list (List.replicate ss.length .none)]) := hA8.app
        have F9 : Fr (L.p :: L.mu) σ₅ (σ₈ ++ [O.list (List.replicate ss.length .none)]) := F8.trans .app
        have g9 : (σ₈ ++ [O.list (List.replicate ss.length .none)])[rc]? = some (.list (ss.map .str)) := F9 _ _ nrc g5
        have n9 : (σ₈ ++ [O.list (List.replicate ss.length .none)])[σ₈.length]? = some (.list (List.replicate ss.length .none)) := List.getElem?_concat_length
        generalize σ₈ ++ [O.list (List.replicate ss.length .none)] = σ₉ at hA9 F9 g9 n9
        ((try simp only [o_one, i_var, m_var, List.getElem?_cons_succ, List.getElem?_cons_zero, i_lst g9]); repeat ((first | (with_reducible show wS _ ir_law_line_t2 _ _ _; unfold ir_law_line_t2) | (with_reducible show wS _ ir_law_line_t3 _ _ _; unfold ir_law_line_t3) | (with_reducible show wS _ ir_law_line_t4 _ _ _; unfold ir_law_line_t4) | (with_reducible show wS _ ir_law_line_t5 _ _ _; unfold ir_law_line_t5) | (with_reducible show wS _ ir_law_line_t6 _ _ _; unfold ir_law_line_t6)); (skip)))
        refine ⟨_, comp_lst (r := rc) (l := ss.map .str) (fun i acc σ' => acc = List.replicate i .none ∧ i ≤ ss.length ∧ σ' = σ₉) ?_ ?_ ?_ ?_ ss.length 0 [] σ₉ (by simp) ⟨rfl, Nat.zero_le _, rfl⟩⟩
        · rintro i acc σ' ⟨rfl, hi, _⟩
          refine fits_le ?_
          simp; lia
        · rintro i acc σ' ⟨rfl, hi, rfl⟩
          exact g9
        · rintro i v acc σ' K' hv ⟨rfl, hi, rfl⟩ hK _
          have hi' : i < ss.length := by have := (List.getElem?_eq_some_iff.mp hv).1; rw [lm] at this; exact this
          ((try simp only [le_law_line_5, s_one, m_none, o_one, t_nil, reduceCtorEq, false_implies, forall_const, true_and]); repeat ((first | (with_reducible show wS _ ir_law_line_t2 _ _ _; unfold ir_law_line_t2) | (with_reducible show wS _ ir_law_line_t3 _ _ _; unfold ir_law_line_t3) | (with_reducible show wS _ ir_law_line_t4 _ _ _; unfold ir_law_line_t4) | (with_reducible show wS _ ir_law_line_t5 _ _ _; unfold ir_law_line_t5) | (with_reducible show wS _ ir_law_line_t6 _ _ _; unfold ir_law_line_t6)); (skip)))
          exact hK _ _ ⟨by rw [List.replicate_succ'], by lia, rfl⟩
        · rintro acc σ' ⟨rfl, _, rfl⟩
          rw [lm]
          refine c_neSame (vs := List.replicate ss.length .none) (Fr.app (m := []) _ _ List.not_mem_nil n9) List.getElem?_concat_length (fun v hv => by rw [(List.mem_replicate.mp hv).2]; trivial) ?_
          ((try simp only [reduceCtorEq, false_implies, forall_const, true_and]); repeat ((first | (with_reducible show wS _ ir_law_line_t2 _ _ _; unfold ir_law_line_t2) | (with_reducible show wS _ ir_law_line_t3 _ _ _; unfold ir_law_line_t3) | (with_reducible show wS _ ir_law_line_t4 _ _ _; unfold ir_law_line_t4) | (with_reducible show wS _ ir_law_line_t5 _ _ _; unfold ir_law_line_t5) | (with_reducible show wS _ ir_law_line_t6 _ _ _; unfold ir_law_line_t6)); (skip)))
          refine hT ln _ hA9.app (Fr.fresh F5 (F9.trans .app) e5)
  refine test _ fun ln σ₆ hA6 F6 => ?_
  ((try simp only [reduceCtorEq, false_implies, forall_const, true_and]); repeat ((first | (with_reducible show wS _ ir_law_line_t2 _ _ _; unfold ir_law_line_t2) | (with_reducible show wS _ ir_law_line_t3 _ _ _; unfold ir_law_line_t3) | (with_reducible show wS _ ir_law_line_t4 _ _ _; unfold ir_law_line_t4) | (with_reducible show wS _ ir_law_line_t5 _ _ _; unfold ir_law_line_t5) | (with_reducible show wS _ ir_law_line_t6 _ _ _; unfold ir_law_line_t6)); (try simp only [w_cons, w_nil, r_next, w_ret, r_ret, m_tup, o_one, m_cons, m_nil, m_var, List.getElem?_cons_succ, List.getElem?_cons_zero])))
  refine ⟨fits_le (by simp), ?_⟩
  have lσ4 : σ.length ≤ σ₄.length := by lia
  refine hk L σ₆.length ln ss ss.flatten jt jws jw _ hss rfl hJ1 hjt (by lia) hA6.app (((F2.trans F4).trans F6).trans .app) (by lia) List.getElem?_concat_length
end M02.Internal
end

section
set_option Elab.async false
set_option linter.all false
set_option maxRecDepth 10000
namespace M02.Internal
open PySem PySem.W MI.Internal

variable {k : Nat} {K : VK}
/-- the heaps and the line while cards are moved -/
structure DS (σ0 : Sto) (Q Q0 Q1 : Qu) (hp sz : Nat) (l h0 h1 : List (List Nat)) (szs : List Int) (σ : Sto) : Prop where
  fl : Q.At (l.map .str) σ
  fa : Q0.At (h0.map .str) σ
  fb : Q1.At (h1.map .str) σ
  fhp : σ[hp]? = some (.list [.obj Q0.q, .obj Q1.q])
  fsz : σ[sz]? = some (.list (szs.map .int))
  fr : Fr [Q.p] σ0 σ
  n1 : Q.p < σ0.length
  n2 : σ0.length ≤ Q0.p
  n3 : Q0.p < Q1.p
  n4 : Q1.p < hp
  n5 : hp < sz
section
variable {σ0 σ σ' : Sto} {Q Q0 Q1 : Qu} {hp sz : Nat} {l h0 h1 : List (List Nat)} {szs : List Int}
theorem at_p {Q : Qu} {pu : List V} {σ : Sto} (h : Q.At pu σ) : ∀ r ∈ [Q.p], ∃ l, σ[r]? = some (.list l) := fun r hr => by
  rw [List.mem_singleton.mp hr]; exact ⟨_, h.2.2⟩
theorem nm {a b : Nat} (h : a ≠ b) : a ∉ [b] := fun z => h (List.mem_singleton.mp z)
theorem DS.app {xs : Sto} (D : DS σ0 Q Q0 Q1 hp sz l h0 h1 szs σ) : DS σ0 Q Q0 Q1 hp sz l h0 h1 szs (σ ++ xs) :=
  ⟨D.fl.app, D.fa.app, D.fb.app, Fr.app (m := []) _ _ List.not_mem_nil D.fhp, Fr.app (m := []) _ _ List.not_mem_nil D.fsz, D.fr.trans .app, D.n1, D.n2, D.n3, D.n4, D.n5⟩
theorem DS.setL {l' : List (List Nat)} (D : DS σ0 Q Q0 Q1 hp sz l h0 h1 szs σ) : DS σ0 Q Q0 Q1 hp sz l' h0 h1 szs (σ.set Q.p (.list (l'.map .str))) := by
  have := D.n1; have := D.n2; have := D.n3; have := D.n4; have := D.n5
  exact ⟨D.fl.turn, D.fa.fr .set (at_p D.fl) (nm (by lia)), D.fb.fr .set (at_p D.fl) (nm (by lia)), Fr.set _ _ (nm (by lia)) D.fhp, Fr.set _ _ (nm (by lia)) D.fsz, D.fr.trans .set, D.n1, D.n2, D.n3, D.n4, D.n5⟩
theorem DS.frs {r : Nat} {x : O} (D : DS σ0 Q Q0 Q1 hp sz l h0 h1 szs σ) (hr : σ0.length ≤ r) : Fr [Q.p] σ0 (σ.set r x) := fun q y hq e => by
  have e' := D.fr q y hq e
  have := lt_of_get e
  exact Fr.set _ _ (nm (by lia)) e'
theorem DS.setA {l' : List (List Nat)} (D : DS σ0 Q Q0 Q1 hp sz l h0 h1 szs σ) : DS σ0 Q Q0 Q1 hp sz l l' h1 szs (σ.set Q0.p (.list (l'.map .str))) := by
  have := D.n1; have := D.n2; have := D.n3; have := D.n4; have := D.n5
  exact ⟨D.fl.fr .set (at_p D.fa) (nm (by lia)), D.fa.turn, D.fb.fr .set (at_p D.fa) (nm (by lia)), Fr.set _ _ (nm (by lia)) D.fhp, Fr.set _ _ (nm (by lia)) D.fsz, D.frs D.n2, D.n1, D.n2, D.n3, D.n4, D.n5⟩
theorem DS.setB {l' : List (List Nat)} (D : DS σ0 Q Q0 Q1 hp sz l h0 h1 szs σ) : DS σ0 Q Q0 Q1 hp sz l h0 l' szs (σ.set Q1.p (.list (l'.map .str))) := by
  have := D.n1; have := D.n2; have := D.n3; have := D.n4; have := D.n5
  exact ⟨D.fl.fr .set (at_p D.fb) (nm (by lia)), D.fa.fr .set (at_p D.fb) (nm (by lia)), D.fb.turn, Fr.set _ _ (nm (by lia)) D.fhp, Fr.set _ _ (nm (by lia)) D.fsz, D.frs (by lia), D.n1, D.n2, D.n3, D.n4, D.n5⟩
theorem DS.setS {s' : List Int} (D : DS σ0 Q Q0 Q1 hp sz l h0 h1 szs σ) : DS σ0 Q Q0 Q1 hp sz l h0 h1 s' (σ.set sz (.list (s'.map .int))) := by
  have := D.n1; have := D.n2; have := D.n3; have := D.n4; have := D.n5
  have hk : ∀ r ∈ [sz], ∃ l, σ[r]? = some (.list l) := fun r hr => by rw [List.mem_singleton.mp hr]; exact ⟨_, D.fsz⟩
  exact ⟨D.fl.fr .set hk (nm (by lia)), D.fa.fr .set hk (nm (by lia)), D.fb.fr .set hk (nm (by lia)), Fr.set _ _ (nm (by lia)) D.fhp, set_get D.fsz, D.frs (by lia), D.n1, D.n2, D.n3, D.n4, D.n5⟩

/-- one card is moved -/
theorem move_one {cards : List (List Nat)} {h i : Nat} {x2 x3 x6 x8 x9 : Option V} {K : FK} (hh : 0 < h) (hc : cards.length = 2 * h) (hl : h ≤ 2) (hi : i < 2 * h) (D : DS σ0 Q Q0 Q1 hp sz (cards.drop i) ((cards.take i).take h) ((cards.take i).drop h) szs σ)
    (hk : ∀ σ', DS σ0 Q Q0 Q1 hp sz (cards.drop (i + 1)) ((cards.take (i + 1)).take h) ((cards.take (i + 1)).drop h) szs σ' → (∀ r x, sz < r → σ[r]? = some x → σ'[r]? = some x) → K .next [some (.obj Q.q), some (.int h), x2, x3, some (.obj hp), some (.obj sz), x6, some (.int i), x8, x9] σ') :
    wS (conOf dfs (k + 2)) lb_law_deal_1 [some (.obj Q.q), some (.int h), x2, x3, some (.obj hp), some (.obj sz), x6, some (.int i), x8, x9] σ K := by
  obtain ⟨c, hci⟩ : ∃ c, cards[i]? = some c := ⟨_, List.getElem?_eq_getElem (by lia)⟩
  have n1 := D.n1; have n2 := D.n2; have n3 := D.n3; have n4 := D.n4; have n5 := D.n5
  have hd := drop_get hci
  have ht := take_get hci
  have DL := D.fl
  rw [hd] at DL
  have lt1 : (cards.take i).length = i := by simp; lia
  ((try simp only [lb_law_deal_1, w_cons, w_nil, w_expr, m_cm, o_one, m_cons, m_nil, m_var, List.getElem?_cons_zero, m_idx, m_bin, List.getElem?_cons_succ, v_div]); repeat ((first | (with_reducible show wS _ lb_law_deal_3_t2 _ _ _; unfold lb_law_deal_3_t2) | (with_reducible show wS _ lb_law_deal_3_t3 _ _ _; unfold lb_law_deal_3_t3) | (with_reducible show wS _ lb_law_deal_3_t4 _ _ _; unfold lb_law_deal_3_t4)); (skip)))
  refine ⟨by lia, sm_small (by lia) (by lia), ?_⟩
  by_cases q : i < h
  · have e0 : ((i : Int) / (h : Int)) = 0 := Int.ediv_eq_zero_of_lt (by lia) (by lia)
    rw [e0]
    refine x_list (v := .obj Q0.q) D.fhp (fits_le (by simp)) (by decide) rfl ?_
    ((skip); repeat ((first | (with_reducible show wS _ lb_law_deal_3_t2 _ _ _; unfold lb_law_deal_3_t2) | (with_reducible show wS _ lb_law_deal_3_t3 _ _ _; unfold lb_law_deal_3_t3) | (with_reducible show wS _ lb_law_deal_3_t4 _ _ _; unfold lb_law_deal_3_t4)); (skip)))
    refine ⟨D.fa.mput, DL.mget, ?_⟩
    refine get_spec shd (v := .str c) (pu := (cards.drop (i + 1)).map .str) DL (fits_le (by simp; lia)) ?_
    ((skip); repeat ((first | (with_reducible show wS _ lb_law_deal_3_t2 _ _ _; unfold lb_law_deal_3_t2) | (with_reducible show wS _ lb_law_deal_3_t3 _ _ _; unfold lb_law_deal_3_t3) | (with_reducible show wS _ lb_law_deal_3_t4 _ _ _; unfold lb_law_deal_3_t4)); (skip)))
    have D1 := D.setL (l' := cards.drop (i + 1))
    refine put_spec shd D1.fa (fits_le (by simp; lia)) ?_
    ((skip); repeat ((first | (with_reducible show wS _ lb_law_deal_3_t2 _ _ _; unfold lb_law_deal_3_t2) | (with_reducible show wS _ lb_law_deal_3_t3 _ _ _; unfold lb_law_deal_3_t3) | (with_reducible show wS _ lb_law_deal_3_t4 _ _ _; unfold lb_law_deal_3_t4)); (skip)))
    have D2 := D1.setA (l' := (cards.take i).take h ++ [c])
    have ea : (cards.take (i + 1)).take h = (cards.take i).take h ++ [c] := by
      rw [ht, List.take_append, lt1, List.take_of_length_le (l := [c]) (by simp; lia)]
    have eb : (cards.take (i + 1)).drop h = (cards.take i).drop h := by
      rw [List.drop_eq_nil_of_le (by simp; lia), List.drop_eq_nil_of_le (by simp; lia)]
    refine hk _ ?_ fun r x hr ex => ?_
    · rw [ea, eb]
      simpa using D2
    · exact Fr.set _ _ (nm (by lia)) (Fr.set _ _ (nm (by lia)) ex)
  · have e0 : ((i : Int) / (h : Int)) = 1 := by
      have h1 : (i : Int) = h * 1 + (i - h) := by lia
      rw [h1, Int.add_comm, Int.add_mul_ediv_left _ _ (by lia), Int.ediv_eq_zero_of_lt (by lia) (by lia)]; rfl
    rw [e0]
    refine x_list (v := .obj Q1.q) D.fhp (fits_le (by simp)) (by decide) rfl ?_
    ((skip); repeat ((first | (with_reducible show wS _ lb_law_deal_3_t2 _ _ _; unfold lb_law_deal_3_t2) | (with_reducible show wS _ lb_law_deal_3_t3 _ _ _; unfold lb_law_deal_3_t3) | (with_reducible show wS _ lb_law_deal_3_t4 _ _ _; unfold lb_law_deal_3_t4)); (skip)))
    refine ⟨D.fb.mput, DL.mget, ?_⟩
    refine get_spec shd (v := .str c) (pu := (cards.drop (i + 1)).map .str) DL (fits_le (by simp; lia)) ?_
    ((skip); repeat ((first | (with_reducible show wS _ lb_law_deal_3_t2 _ _ _; unfold lb_law_deal_3_t2) | (with_reducible show wS _ lb_law_deal_3_t3 _ _ _; unfold lb_law_deal_3_t3) | (with_reducible show wS _ lb_law_deal_3_t4 _ _ _; unfold lb_law_deal_3_t4)); (skip)))
    have D1 := D.setL (l' := cards.drop (i + 1))
    refine put_spec shd D1.fb (fits_le (by simp; lia)) ?_
    ((skip); repeat ((first | (with_reducible show wS _ lb_law_deal_3_t2 _ _ _; unfold lb_law_deal_3_t2) | (with_reducible show wS _ lb_law_deal_3_t3 _ _ _; unfold lb_law_deal_3_t3) | (with_reducible show wS _ lb_law_deal_3_t4 _ _ _; unfold lb_law_deal_3_t4)); (skip)))
    have D2 := D1.setB (l' := (cards.take i).drop h ++ [c])
    have ea : (cards.take (i + 1)).take h = (cards.take i).take h := by
      rw [ht, List.take_append_of_le_length (by lia)]
    have eb : (cards.take (i + 1)).drop h = (cards.take i).drop h ++ [c] := by
      rw [ht, List.drop_append_of_le_length (by lia)]
    refine hk _ ?_ fun r x hr ex => ?_
    · rw [ea, eb]
      simpa using D2
    · exact Fr.set _ _ (nm (by lia)) (Fr.set _ _ (nm (by lia)) ex)

noncomputable def ci (l : List Nat) : List Int := l.map fun n : Nat => (n : Int)
theorem ci_sum : ∀ l : List Nat, (ci l).sum = (l.sum : Int)
  | [] => rfl
  | a :: l => by have := ci_sum l; simp [ci] at this ⊢; lia
theorem ci_app (l m : List Nat) : ci (l ++ m) = ci l ++ ci m := List.map_append
theorem sum_pos : ∀ {l : List Nat}, (∀ t ∈ l, 1 ≤ t) → l.sum = 0 → l = []
  | [], _, _ => rfl
  | a :: l, h, e => by have := h a (.head _); simp at e; lia
theorem deal_gen {cards : List (List Nat)} {h : Nat} {kd turn : Int} {ns : List Int} {lv : List V} {rl : Nat} {x8 x9 : Option V} {K : FK} (hh : 0 < h) (hc : cards.length = 2 * h) (hl : h ≤ 2) (hrl : sz < rl) : ∀ (rest done : List Nat) (x6 x7 : Option V) (σ : Sto),
    (∀ i t, rest[i]? = some t → genSeq ns none (done.length + i) = some ((t : Nat) : Int)) → (2 ≤ kd → genSeq ns none (done.length + rest.length) = none) → done.sum + rest.sum = 2 * h → (∀ t ∈ rest, 1 ≤ t) → (rest = [] → 2 ≤ kd) → done.length + rest.length ≤ 10 →
    DS σ0 Q Q0 Q1 hp sz (cards.drop done.sum) ((cards.take done.sum).take h) ((cards.take done.sum).drop h) (ci done) σ → σ[rl]? = some (.list lv) →
    (∀ x6 x7 σ', DS σ0 Q Q0 Q1 hp sz (cards.drop (2 * h)) ((cards.take (2 * h)).take h) ((cards.take (2 * h)).drop h) (ci (done ++ rest)) σ' → K .next [some (.obj Q.q), some (.int h), some (.int kd), some (.int turn), some (.obj hp), some (.obj sz), x6, x7, x8, x9] σ') →
    genL (fun v ρ σ K => wS (conOf dfs (k + 2)) lb_law_deal_3 (ρ.set 6 (some v)) σ K) rl ns lv (rest.length + 1) done.length [some (.obj Q.q), some (.int h), some (.int kd), some (.int turn), some (.obj hp), some (.obj sz), x6, x7, x8, x9] σ K
  | [], done, x6, x7, σ, _, hend, hsum, _, hkd, _, D, hr, hk => by
    have := hend (hkd rfl)
    rw [List.length_nil, Nat.add_zero] at this
    refine gl_end hr this ?_
    rw [List.append_nil] at hk
    have e : done.sum = 2 * h := by simpa using hsum
    rw [e] at D
    exact hk x6 x7 σ D
  | t :: rest, done, x6, x7, σ, hg, hend, hsum, hpos, hkd, hdl, D, hr, hk => by
    have hdl' : done.length + rest.length + 1 ≤ 10 := by simp at hdl; lia
    have hsum' : done.sum + (t + rest.sum) = 2 * h := by simpa using hsum
    have ht := hpos t (.head _)
    have h0 := hg 0 t rfl
    rw [Nat.add_zero] at h0
    refine gl_step hr h0 fun Kc hKn hKb => ?_
    ((try simp only [lb_law_deal_3, List.set_cons_succ, List.set_cons_zero, w_cons, w_ife, w_nil, w_ret, m_fls, o_one, t_cmp, m_bin, m_var, List.getElem?_cons_succ, List.getElem?_cons_zero, m_int, v_mul, m_bcall, m_cons, m_nil, f_sum D.fsz, v_add, c_gt]); repeat ((first | (with_reducible show wS _ lb_law_deal_3_t2 _ _ _; unfold lb_law_deal_3_t2) | (with_reducible show wS _ lb_law_deal_3_t3 _ _ _; unfold lb_law_deal_3_t3) | (with_reducible show wS _ lb_law_deal_3_t4 _ _ _; unfold lb_law_deal_3_t4)); (skip)))
    refine ⟨_, intsV_map _, ?_⟩
    ((skip); repeat ((first | (with_reducible show wS _ lb_law_deal_3_t2 _ _ _; unfold lb_law_deal_3_t2) | (with_reducible show wS _ lb_law_deal_3_t3 _ _ _; unfold lb_law_deal_3_t3) | (with_reducible show wS _ lb_law_deal_3_t4 _ _ _; unfold lb_law_deal_3_t4)); (skip)))
    refine ⟨sm_small (by decide) (by decide), sm_small (by lia) (by lia), ?_⟩
    rw [ci_sum]
    have e1 : decide ((2 : Int) * (h : Int) < (done.sum : Int) + (t : Int)) = false := decide_eq_false (by lia)
    rw [e1]
    ((try simp only [reduceCtorEq, false_implies, forall_const, true_and]); repeat ((first | (with_reducible show wS _ lb_law_deal_3_t2 _ _ _; unfold lb_law_deal_3_t2) | (with_reducible show wS _ lb_law_deal_3_t3 _ _ _; unfold lb_law_deal_3_t3) | (with_reducible show wS _ lb_law_deal_3_t4 _ _ _; unfold lb_law_deal_3_t4)); (try simp only [w_cons])))
    rw [w_for]
    ((try simp only [b_bindL, setsL, i_range, m_cons, m_nil, m_bin, o_one, m_var, List.getElem?_cons_succ, List.getElem?_cons_zero, m_bcall, f_sum D.fsz, v_add, i_rng2]); repeat ((first | (with_reducible show wS _ lb_law_deal_3_t2 _ _ _; unfold lb_law_deal_3_t2) | (with_reducible show wS _ lb_law_deal_3_t3 _ _ _; unfold lb_law_deal_3_t3) | (with_reducible show wS _ lb_law_deal_3_t4 _ _ _; unfold lb_law_deal_3_t4)); (skip)))
    refine ⟨_, intsV_map _, _, intsV_map _, ?_⟩
    ((skip); repeat ((first | (with_reducible show wS _ lb_law_deal_3_t2 _ _ _; unfold lb_law_deal_3_t2) | (with_reducible show wS _ lb_law_deal_3_t3 _ _ _; unfold lb_law_deal_3_t3) | (with_reducible show wS _ lb_law_deal_3_t4 _ _ _; unfold lb_law_deal_3_t4)); (skip)))
    rw [ci_sum]
    have e2 : ((done.sum : Int) + (t : Int) - (done.sum : Int)).toNat = t := by lia
    rw [e2]
    refine ⟨⟨by lia, by lia⟩, ⟨by lia, by lia⟩, _, for_rng (fun a ρ σ' => Ex2 fun (i : Nat) (x7 : Option V) => A4 (a = i) (DS σ0 Q Q0 Q1 hp sz (cards.drop i) ((cards.take i).take h) ((cards.take i).drop h) (ci done) σ') (σ'[rl]? = some (.list lv)) (ρ = [some (.obj Q.q), some (.int h), some (.int kd), some (.int turn), some (.obj hp), some (.obj sz), some (.int t), x7, x8, x9])) ((done.sum + t : Nat) : Int) ?_ ?_ t _ _ _ (by lia) ⟨done.sum, x7, rfl, D, hr, rfl⟩⟩
    · rintro a ρ σ' K' ha ⟨i, y7, rfl, Di, hri, rfl⟩ hK
      ((try simp only [List.set_cons_succ, List.set_cons_zero]); repeat ((first | (with_reducible show wS _ lb_law_deal_3_t2 _ _ _; unfold lb_law_deal_3_t2) | (with_reducible show wS _ lb_law_deal_3_t3 _ _ _; unfold lb_law_deal_3_t3) | (with_reducible show wS _ lb_law_deal_3_t4 _ _ _; unfold lb_law_deal_3_t4)); (skip)))
      refine move_one hh hc hl (by lia) Di fun σ'' D'' F'' => ?_
      exact hK _ _ ⟨i + 1, some (.int i), by lia, D'', F'' rl _ hrl hri, rfl⟩
    · rintro ρ σ' ⟨i, y7, hi, Di, hri, rfl⟩
      have hi : i = done.sum + t := by lia
      subst hi
      ((skip); repeat ((first | (with_reducible show wS _ lb_law_deal_3_t2 _ _ _; unfold lb_law_deal_3_t2) | (with_reducible show wS _ lb_law_deal_3_t3 _ _ _; unfold lb_law_deal_3_t3) | (with_reducible show wS _ lb_law_deal_3_t4 _ _ _; unfold lb_law_deal_3_t4)); (try simp only [w_cons, w_expr, m_bm, o_one, m_cons, m_nil, m_var, List.getElem?_cons_succ, List.getElem?_cons_zero, b_append Di.fsz])))
      refine ⟨bt_append Di.fsz, fits_le (by simp [ci]; lia), ?_⟩
      have D1 := Di.setS (s' := ci (done ++ [t]))
      have es : (ci done).map V.int ++ [V.int (t : Int)] = (ci (done ++ [t])).map .int := by rw [ci_app]; simp [ci]
      rw [es]
      have hr1 : (σ'.set sz (.list ((ci (done ++ [t])).map .int)))[rl]? = some (.list lv) := Fr.set _ _ (nm (by lia)) hri
      have es2 : (done ++ [t]).sum = done.sum + t := by simp
      have Dn : DS σ0 Q Q0 Q1 hp sz (cards.drop (done ++ [t]).sum) ((cards.take (done ++ [t]).sum).take h) ((cards.take (done ++ [t]).sum).drop h) (ci (done ++ [t])) (σ'.set sz (.list ((ci (done ++ [t])).map .int))) := by rw [es2]; exact D1
      generalize σ'.set sz (.list ((ci (done ++ [t])).map .int)) = σ'' at hr1 Dn
      have next : (rest = [] → 2 ≤ kd) → genL (fun v ρ σ K => wS (conOf dfs (k + 2)) lb_law_deal_3 (ρ.set 6 (some v)) σ K) rl ns lv (rest.length + 1) (done.length + 1) [some (.obj Q.q), some (.int h), some (.int kd), some (.int turn), some (.obj hp), some (.obj sz), some (.int t), y7, x8, x9] σ'' K := fun hkd' => by
        have e : done.length + 1 = (done ++ [t]).length := by simp
        rw [e]
        refine deal_gen hh hc hl hrl rest (done ++ [t]) _ _ σ'' (fun i u hu => ?_) (fun q => ?_) (by rw [es2]; lia) (fun u hu => hpos u (.tail _ hu)) hkd' ?_ Dn hr1 fun a b σ₃ D₃ => ?_
        · have := hg (i + 1) u hu
          rw [← e, Nat.add_right_comm]; exact this
        · have := hend q
          rw [← e, Nat.add_right_comm]; exact this
        · rw [← e]; lia
        · rw [List.append_assoc] at D₃
          exact hk a b σ₃ D₃
      ((skip); repeat ((first | (with_reducible show wS _ lb_law_deal_3_t2 _ _ _; unfold lb_law_deal_3_t2) | (with_reducible show wS _ lb_law_deal_3_t3 _ _ _; unfold lb_law_deal_3_t3) | (with_reducible show wS _ lb_law_deal_3_t4 _ _ _; unfold lb_law_deal_3_t4)); (try simp only [lt_law_deal_2, w_cons, w_nil, w_ife, w_brk, t_bool, ts_and, reduceCtorEq, false_implies, forall_const, true_and, ts_nil, bo_and, and_true, t_cmp, m_bin, o_one, m_var, List.getElem?_cons_succ, List.getElem?_cons_zero, m_int, v_mul, m_bcall, m_cons, m_nil, c_lt, f_sum Dn.fsz, c_eq])))
      refine ⟨fun q => ?_, fun q => ?_⟩
      · exact hKn _ _ <| next fun _ => by have := of_decide_eq_false q; lia
      · have q := of_decide_eq_true q
        refine ⟨_, intsV_map _, ?_⟩
        ((skip); repeat ((first | (with_reducible show wS _ lb_law_deal_3_t2 _ _ _; unfold lb_law_deal_3_t2) | (with_reducible show wS _ lb_law_deal_3_t3 _ _ _; unfold lb_law_deal_3_t3) | (with_reducible show wS _ lb_law_deal_3_t4 _ _ _; unfold lb_law_deal_3_t4)); (skip)))
        refine ⟨sm_small (by decide) (by decide), sm_small (by lia) (by lia), ?_⟩
        rw [ci_sum, es2]
        refine ⟨fun e => ?_, fun e => ?_⟩
        · have e := of_decide_eq_false e
          exact hKn _ _ <| next fun e' => by subst e'; simp at hsum'; lia
        · have e := of_decide_eq_true e
          have : rest = [] := sum_pos (fun u hu => hpos u (.tail _ hu)) (by lia)
          subst this
          rw [es2] at Dn
          rw [show done.sum + t = 2 * h by lia] at Dn
          exact hKb _ _ (hk _ _ _ Dn)
end
end M02.Internal
end

section
set_option Elab.async false
set_option linter.all false
set_option maxRecDepth 10000
namespace M02.Internal
open PySem PySem.W MI.Internal

variable {k : Nat} {σ : Sto} {K : VK}
noncomputable def Bd (b x : Int) : Prop := -b ≤ x ∧ x ≤ b
noncomputable def dealt (h : Nat) (ns : List Int) : List Int := ((ns.take h).zip (ns.drop h)).flatMap fun p => [p.1 + p.2, p.1 - p.2]
noncomputable def rulers (h : Nat) : List (List Int) := [[h, h - 1, 0], [1, 0], [h, h], [h, h, 127, 1]]
noncomputable def sizes (h : Nat) : Nat → List Nat
  | 0 => h :: List.replicate h 1
  | 1 => List.replicate (2 * h) 1
  | _ => [h, h]
noncomputable def tailS : S → S
  | .cons _ b => b
  | s => s
noncomputable def rul (h kd : Nat) : List Int := ((rulers h)[kd]?).getD []
noncomputable def okD (h kd : Nat) : Bool := ((List.range 6).all fun i => match (sizes h kd)[i]? with
    | some t => genSeq (rul h kd) none i == some (t : Int)
    | none => true) && (decide (kd < 2) || genSeq (rul h kd) none (sizes h kd).length == none) && (sizes h kd).sum == 2 * h && (sizes h kd).all (fun t => decide (1 ≤ t)) && !(sizes h kd).isEmpty && decide ((sizes h kd).length ≤ 5) && (rul h kd).head? != some 0
theorem okD_all {h kd : Nat} (hh : h = 1 ∨ h = 2) (hkd : kd < 4) : okD h kd = true := by
  have a : ∀ kd, kd < 4 → okD 1 kd = true ∧ okD 2 kd = true := by decide
  rcases hh with rfl | rfl
  · exact (a kd hkd).1
  · exact (a kd hkd).2
/-- the sizes that are compared -/
noncomputable def szL (h : Nat) : Nat → List Int
  | 0 => (h : Int) :: List.replicate h 1
  | 1 => List.replicate (2 * h) 1
  | _ => [h, h]
theorem szL_ci {h kd : Nat} (hh : h = 1 ∨ h = 2) (hkd : kd < 4) : ci (sizes h kd) = szL h kd := by
  have a : ∀ kd, kd < 4 → ci (sizes 1 kd) = szL 1 kd ∧ ci (sizes 2 kd) = szL 2 kd := by decide
  rcases hh with rfl | rfl
  · exact (a kd hkd).1
  · exact (a kd hkd).2
theorem rep_flat {h : Nat} {v : V} : (List.replicate h [v]).flatten = List.replicate h v := by
  induction h with
  | zero => rfl
  | succ h ih => rw [List.replicate_succ, List.flatten_cons, ih]; rfl
theorem deal_rest {σ1 : Sto} {Q Q0 Q1 : Qu} {hp sz rl : Nat} {cards : List (List Nat)} {h kd : Nat} {turn : Int} {K : FK} (hh : h = 1 ∨ h = 2) (hkd : kd < 4) (hc : cards.length = 2 * h) (D : DS σ Q Q0 Q1 hp sz cards [] [] [] σ1) (hrl : sz < rl) (hr : σ1[rl]? = some (.list ((rul h kd).map .int)))
    (hk : ∀ x6 x7 σ', DS σ Q Q0 Q1 hp sz [] (cards.take h) (cards.drop h) (ci (sizes h kd)) σ' → K .next [some (.obj Q.q), some (.int h), some (.int kd), some (.int turn), some (.obj hp), some (.obj sz), x6, x7, none, none] σ') :
    ∃ l ns, σ1[rl]? = some (.list l) ∧ intsV l = some ns ∧ ns.head? ≠ some 0 ∧ ∃ m, genL (fun v ρ σ K => wS (conOf dfs (k + 2)) lb_law_deal_3 (ρ.set 6 (some v)) σ K) rl ns l m 0 [some (.obj Q.q), some (.int h), some (.int kd), some (.int turn), some (.obj hp), some (.obj sz), none, none, none, none] σ1 K := by
  have ok := okD_all hh hkd
  simp only [okD, Bool.and_eq_true, Bool.or_eq_true, decide_eq_true_eq, beq_iff_eq, bne_iff_ne, Bool.not_eq_true'] at ok
  obtain ⟨⟨⟨⟨⟨⟨o1, o2⟩, o3⟩, o4⟩, o5⟩, o6⟩, o7⟩ := ok
  refine ⟨_, rul h kd, hr, intsV_map _, o7, (sizes h kd).length + 1, ?_⟩
  refine deal_gen (by lia) hc (by lia) hrl (sizes h kd) [] none none σ1 (fun i t ht => ?_) (fun q => ?_) (by simpa using o3) (fun t ht => ?_) (fun e => ?_) (by simp; lia) (by simpa [ci] using D) hr fun x6 x7 σ' D' => ?_
  · have hi := (List.getElem?_eq_some_iff.mp ht).1
    have := List.all_eq_true.mp o1 i (List.mem_range.mpr (by lia))
    rw [ht] at this
    simpa using this
  · have : genSeq (rul h kd) none (sizes h kd).length = none := o2.resolve_left (by lia)
    simpa using this
  · simpa using List.all_eq_true.mp o4 t ht
  · rw [e] at o5; cases o5
  · have e1 : cards.drop (2 * h) = [] := List.drop_eq_nil_of_le (by lia)
    have e2 : cards.take (2 * h) = cards := List.take_of_length_le (by lia)
    rw [e1, e2, List.nil_append] at D'
    exact hk x6 x7 σ' D'

theorem zip_get {α β : Type} {a : List α} {b : List β} {i : Nat} {x : α} {y : β} (h1 : a[i]? = some x) (h2 : b[i]? = some y) : (a.zip b)[i]? = some (x, y) := by
  rw [List.getElem?_zip_eq_some]; exact ⟨h1, h2⟩
/-- two cards are dealt -/
theorem deal_two {σ0 : Sto} {Q Q0 Q1 : Qu} {hp sz : Nat} {ca cb : List Nat} {la lb l : List (List Nat)} {szs : List Int} {a b B : Int} {h i : Nat} {turn : Int} {x2 x6 x8 x9 : Option V} {K : FK} (D : DS σ0 Q Q0 Q1 hp sz l (ca :: la) (cb :: lb) szs σ) (hca : card a ca) (hcb : card b cb)
    (ha : Bd B a) (hb : Bd B b) (hB : 2 * B < 1000000000000) (hla : la.length ≤ 100) (hlb : lb.length ≤ 100) (hl : l.length ≤ 100)
    (hk : ∀ x8 x9 s d σ', card (a + b) s → card (a - b) d → DS σ0 Q Q0 Q1 hp sz (l ++ [s, d]) la lb szs σ' → K .next [some (.obj Q.q), some (.int h), x2, some (.int turn), some (.obj hp), some (.obj sz), x6, some (.int i), x8, x9] σ') :
    wS (conOf dfs (k + 2)) lb_law_deal_4 [some (.obj Q.q), some (.int h), x2, some (.int turn), some (.obj hp), some (.obj sz), x6, some (.int i), x8, x9] σ K := by
  obtain ⟨a1, a2⟩ := ha
  obtain ⟨b1, b2⟩ := hb
  have za : Sz a := ⟨by lia, by lia⟩
  have zb : Sz b := ⟨by lia, by lia⟩
  have zs : Sz (a + b) := ⟨by lia, by lia⟩
  have zd : Sz (a - b) := ⟨by lia, by lia⟩
  ((try simp only [lb_law_deal_4, w_cons, w_asgT, m_tup, o_one, m_cons, m_nil, m_call, m_cm, m_idx, m_int, m_var, List.getElem?_cons_succ, List.getElem?_cons_zero]); repeat ((first | (with_reducible show wS _ lb_law_deal_3_t2 _ _ _; unfold lb_law_deal_3_t2) | (with_reducible show wS _ lb_law_deal_3_t3 _ _ _; unfold lb_law_deal_3_t3) | (with_reducible show wS _ lb_law_deal_3_t4 _ _ _; unfold lb_law_deal_3_t4) | (with_reducible show wS _ lb_law_deal_4_t2 _ _ _; unfold lb_law_deal_4_t2) | (with_reducible show wS _ lb_law_deal_4_t3 _ _ _; unfold lb_law_deal_4_t3)); (skip)))
  refine x_list (v := .obj Q0.q) D.fhp (fits_le (by simp)) (by decide) rfl ?_
  ((skip); repeat ((first | (with_reducible show wS _ lb_law_deal_3_t2 _ _ _; unfold lb_law_deal_3_t2) | (with_reducible show wS _ lb_law_deal_3_t3 _ _ _; unfold lb_law_deal_3_t3) | (with_reducible show wS _ lb_law_deal_3_t4 _ _ _; unfold lb_law_deal_3_t4) | (with_reducible show wS _ lb_law_deal_4_t2 _ _ _; unfold lb_law_deal_4_t2) | (with_reducible show wS _ lb_law_deal_4_t3 _ _ _; unfold lb_law_deal_4_t3)); (skip)))
  refine ⟨D.fa.mget, get_spec shd (v := .str ca) (pu := la.map .str) D.fa (fits_le (by simp; lia)) ?_⟩
  ((skip); repeat ((first | (with_reducible show wS _ lb_law_deal_3_t2 _ _ _; unfold lb_law_deal_3_t2) | (with_reducible show wS _ lb_law_deal_3_t3 _ _ _; unfold lb_law_deal_3_t3) | (with_reducible show wS _ lb_law_deal_3_t4 _ _ _; unfold lb_law_deal_3_t4) | (with_reducible show wS _ lb_law_deal_4_t2 _ _ _; unfold lb_law_deal_4_t2) | (with_reducible show wS _ lb_law_deal_4_t3 _ _ _; unfold lb_law_deal_4_t3)); (skip)))
  have D1 := D.setA (l' := la)
  refine num_spec hca (Nat.le_trans za.len (by decide)) za.sm fun xs => ?_
  ((skip); repeat ((first | (with_reducible show wS _ lb_law_deal_3_t2 _ _ _; unfold lb_law_deal_3_t2) | (with_reducible show wS _ lb_law_deal_3_t3 _ _ _; unfold lb_law_deal_3_t3) | (with_reducible show wS _ lb_law_deal_3_t4 _ _ _; unfold lb_law_deal_3_t4) | (with_reducible show wS _ lb_law_deal_4_t2 _ _ _; unfold lb_law_deal_4_t2) | (with_reducible show wS _ lb_law_deal_4_t3 _ _ _; unfold lb_law_deal_4_t3)); (skip)))
  have D2 := D1.app (xs := xs)
  refine x_list (v := .obj Q1.q) D2.fhp (fits_le (by simp)) (by decide) rfl ?_
  ((skip); repeat ((first | (with_reducible show wS _ lb_law_deal_3_t2 _ _ _; unfold lb_law_deal_3_t2) | (with_reducible show wS _ lb_law_deal_3_t3 _ _ _; unfold lb_law_deal_3_t3) | (with_reducible show wS _ lb_law_deal_3_t4 _ _ _; unfold lb_law_deal_3_t4) | (with_reducible show wS _ lb_law_deal_4_t2 _ _ _; unfold lb_law_deal_4_t2) | (with_reducible show wS _ lb_law_deal_4_t3 _ _ _; unfold lb_law_deal_4_t3)); (skip)))
  refine ⟨D2.fb.mget, get_spec shd (v := .str cb) (pu := lb.map .str) D2.fb (fits_le (by simp; lia)) ?_⟩
  ((skip); repeat ((first | (with_reducible show wS _ lb_law_deal_3_t2 _ _ _; unfold lb_law_deal_3_t2) | (with_reducible show wS _ lb_law_deal_3_t3 _ _ _; unfold lb_law_deal_3_t3) | (with_reducible show wS _ lb_law_deal_3_t4 _ _ _; unfold lb_law_deal_3_t4) | (with_reducible show wS _ lb_law_deal_4_t2 _ _ _; unfold lb_law_deal_4_t2) | (with_reducible show wS _ lb_law_deal_4_t3 _ _ _; unfold lb_law_deal_4_t3)); (skip)))
  have D3 := D2.setB (l' := lb)
  refine num_spec hcb (Nat.le_trans zb.len (by decide)) zb.sm fun ys => ?_
  ((skip); repeat ((first | (with_reducible show wS _ lb_law_deal_3_t2 _ _ _; unfold lb_law_deal_3_t2) | (with_reducible show wS _ lb_law_deal_3_t3 _ _ _; unfold lb_law_deal_3_t3) | (with_reducible show wS _ lb_law_deal_3_t4 _ _ _; unfold lb_law_deal_3_t4) | (with_reducible show wS _ lb_law_deal_4_t2 _ _ _; unfold lb_law_deal_4_t2) | (with_reducible show wS _ lb_law_deal_4_t3 _ _ _; unfold lb_law_deal_4_t3)); (skip)))
  have D4 := D3.app (xs := ys)
  refine ⟨fits_le (by simp), ?_⟩
  rw [b_bindT (by decide) List.getElem?_concat_length]
  refine ⟨rfl, ?_⟩
  ((try simp only [setsL, List.set_cons_succ, List.set_cons_zero]); repeat ((first | (with_reducible show wS _ lb_law_deal_3_t2 _ _ _; unfold lb_law_deal_3_t2) | (with_reducible show wS _ lb_law_deal_3_t3 _ _ _; unfold lb_law_deal_3_t3) | (with_reducible show wS _ lb_law_deal_3_t4 _ _ _; unfold lb_law_deal_3_t4) | (with_reducible show wS _ lb_law_deal_4_t2 _ _ _; unfold lb_law_deal_4_t2) | (with_reducible show wS _ lb_law_deal_4_t3 _ _ _; unfold lb_law_deal_4_t3)); (try simp only [w_cons, w_expr, m_cm, o_one, m_cons, m_nil, m_call, m_var, List.getElem?_cons_succ, List.getElem?_cons_zero, m_bin, v_add])))
  have D5 := D4.app (xs := [.tup [.int a, .int b]])
  refine ⟨D5.fl.mput, card_spec (Nat.le_trans zs.len (by decide)) fun s zs' hs => ?_⟩
  ((skip); repeat ((first | (with_reducible show wS _ lb_law_deal_3_t2 _ _ _; unfold lb_law_deal_3_t2) | (with_reducible show wS _ lb_law_deal_3_t3 _ _ _; unfold lb_law_deal_3_t3) | (with_reducible show wS _ lb_law_deal_3_t4 _ _ _; unfold lb_law_deal_3_t4) | (with_reducible show wS _ lb_law_deal_4_t2 _ _ _; unfold lb_law_deal_4_t2) | (with_reducible show wS _ lb_law_deal_4_t3 _ _ _; unfold lb_law_deal_4_t3)); (skip)))
  have D6 := D5.app (xs := zs')
  refine put_spec shd D6.fl (fits_le (by simp; lia)) ?_
  ((skip); repeat ((first | (with_reducible show wS _ lb_law_deal_3_t2 _ _ _; unfold lb_law_deal_3_t2) | (with_reducible show wS _ lb_law_deal_3_t3 _ _ _; unfold lb_law_deal_3_t3) | (with_reducible show wS _ lb_law_deal_3_t4 _ _ _; unfold lb_law_deal_3_t4) | (with_reducible show wS _ lb_law_deal_4_t2 _ _ _; unfold lb_law_deal_4_t2) | (with_reducible show wS _ lb_law_deal_4_t3 _ _ _; unfold lb_law_deal_4_t3)); (try simp only [w_cons, w_nil, w_expr, m_cm, o_one, m_cons, m_nil, m_call, m_var, List.getElem?_cons_succ, List.getElem?_cons_zero, m_bin, v_sub])))
  have D7 := D6.setL (l' := l ++ [s])
  have e7 : l.map V.str ++ [V.str s] = (l ++ [s]).map .str := by simp
  rw [e7]
  refine ⟨D7.fl.mput, card_spec (Nat.le_trans zd.len (by decide)) fun d ws hd => ?_⟩
  ((skip); repeat ((first | (with_reducible show wS _ lb_law_deal_3_t2 _ _ _; unfold lb_law_deal_3_t2) | (with_reducible show wS _ lb_law_deal_3_t3 _ _ _; unfold lb_law_deal_3_t3) | (with_reducible show wS _ lb_law_deal_3_t4 _ _ _; unfold lb_law_deal_3_t4) | (with_reducible show wS _ lb_law_deal_4_t2 _ _ _; unfold lb_law_deal_4_t2) | (with_reducible show wS _ lb_law_deal_4_t3 _ _ _; unfold lb_law_deal_4_t3)); (skip)))
  have D8 := D7.app (xs := ws)
  refine put_spec shd D8.fl (fits_le (by simp; lia)) ?_
  ((skip); repeat ((first | (with_reducible show wS _ lb_law_deal_3_t2 _ _ _; unfold lb_law_deal_3_t2) | (with_reducible show wS _ lb_law_deal_3_t3 _ _ _; unfold lb_law_deal_3_t3) | (with_reducible show wS _ lb_law_deal_3_t4 _ _ _; unfold lb_law_deal_3_t4) | (with_reducible show wS _ lb_law_deal_4_t2 _ _ _; unfold lb_law_deal_4_t2) | (with_reducible show wS _ lb_law_deal_4_t3 _ _ _; unfold lb_law_deal_4_t3)); (skip)))
  have D9 := D8.setL (l' := l ++ [s, d])
  have e9 : (l ++ [s]).map V.str ++ [V.str d] = (l ++ [s, d]).map .str := by simp
  rw [e9]
  exact hk _ _ s d _ hs hd D9
end M02.Internal
end

section
set_option Elab.async false
set_option linter.all false
set_option maxRecDepth 10000
namespace M02.Internal
open PySem PySem.W MI.Internal

variable {k : Nat} {σ : Sto} {K : VK}
theorem ds_init {Q : Qu} {pu : List (List Nat)} {xs : Sto} (hQ : Q.At (pu.map .str) σ) (h0 : xs[0]? = some (.dict (lexD 1 .none (σ.length + 2)))) (h1 : xs[1]? = some (.inst σ.length)) (h2 : xs[2]? = some (.list [])) (h3 : xs[3]? = some (.dict (lexD 1 .none (σ.length + 5)))) (h4 : xs[4]? = some (.inst (σ.length + 3))) (h5 : xs[5]? = some (.list []))
    (h6 : xs[6]? = some (.list [.obj (σ.length + 1), .obj (σ.length + 4)])) (h7 : xs[7]? = some (.list [])) : DS σ Q ⟨σ.length + 1, σ.length, σ.length + 2⟩ ⟨σ.length + 4, σ.length + 3, σ.length + 5⟩ (σ.length + 6) (σ.length + 7) pu [] [] [] (σ ++ xs) := by
  have lp := lt_of_get hQ.2.2
  refine ⟨hQ.app, ⟨?_, ⟨lexD 1 .none (σ.length + 2), ?_, rfl, rfl, rfl, rfl⟩, ?_⟩, ⟨?_, ⟨lexD 1 .none (σ.length + 5), ?_, rfl, rfl, rfl, rfl⟩, ?_⟩, ?_, ?_, .app, lp, ?_, ?_, ?_, ?_⟩
  · rw [ag]; exact h1
  · rw [ag0]; exact h0
  · rw [ag]; exact h2
  · rw [ag]; exact h4
  · rw [ag]; exact h3
  · rw [ag]; exact h5
  · rw [ag]; exact h6
  · rw [ag]; exact h7
  · show σ.length ≤ σ.length + 2; lia
  · show σ.length + 2 < σ.length + 5; lia
  · show σ.length + 5 < σ.length + 6; lia
  · lia
theorem Cards.take {i : Nat} : ∀ {ns : List Int} {ss : List (List Nat)}, Cards ns ss → Cards (ns.take i) (ss.take i) := by
  induction i with
  | zero => intro ns ss _; simp [Cards]
  | succ i ih => intro ns ss h; cases ns <;> cases ss <;> first | exact h.elim | skip
                 · exact trivial
                 · exact ⟨h.1, ih h.2⟩
theorem Cards.drop {i : Nat} : ∀ {ns : List Int} {ss : List (List Nat)}, Cards ns ss → Cards (ns.drop i) (ss.drop i) := by
  induction i with
  | zero => intro ns ss h; exact h
  | succ i ih => intro ns ss h; cases ns <;> cases ss <;> first | exact h.elim | skip
                 · exact trivial
                 · exact ih h.2
theorem Cards.app : ∀ {ns ms : List Int} {ss ts : List (List Nat)}, Cards ns ss → Cards ms ts → Cards (ns ++ ms) (ss ++ ts)
  | [], _, [], _, _, h => h
  | _ :: _, _, _ :: _, _, ⟨a, b⟩, h => ⟨a, Cards.app b h⟩
  | [], _, _ :: _, _, q, _ => q.elim
  | _ :: _, _, [], _, q, _ => q.elim
theorem Cards.at : ∀ {ns : List Int} {ss : List (List Nat)}, Cards ns ss → ∀ {i : Nat} {n : Int}, ns[i]? = some n → ∃ s, ss[i]? = some s ∧ card n s
  | [], [], _, _, _, h => by simp at h
  | _ :: _, s :: _, ⟨a, _⟩, 0, _, h => ⟨s, rfl, by simp at h; exact h ▸ a⟩
  | _ :: _, _ :: _, ⟨_, b⟩, i + 1, _, h => by simpa using Cards.at b (i := i) (by simpa using h)
  | [], _ :: _, q, _, _, _ => q.elim
  | _ :: _, [], q, _, _, _ => q.elim
theorem deal_spec {Q : Qu} {cards : List (List Nat)} {ns : List Int} {h kd : Nat} {turn B : Int} (hh : h = 1 ∨ h = 2) (hkd : kd < 4) (hn : ns.length = 2 * h) (hC : Cards ns cards) (hQ : Q.At (cards.map .str) σ) (hb : ∀ n ∈ ns, Bd B n) (hb2 : 2 * B < 1000000000000)
    (hk : ∀ cards' σ', Cards (dealt h ns) cards' → Q.At (cards'.map .str) σ' → Fr [Q.p] σ σ' → K (.bool true) σ') : (conOf dfs (k + 3)).fn 14 [.obj Q.q, .int h, .int kd, .int turn] σ K := by
  refine ⟨rfl, ?_⟩
  show wS _ ir_law_deal [some (.obj Q.q), some (.int h), some (.int kd), some (.int turn), none, none, none, none, none, none] σ (retK K)
  have hc : cards.length = 2 * h := by rw [hC.len]; exact hn
  unfold ir_law_deal
  ((try simp only [w_cons, w_asgT, m_tup, o_one, m_cons, m_nil, m_list, m_new, m_none]); repeat ((first | (with_reducible show wS _ ir_law_deal_t2 _ _ _; unfold ir_law_deal_t2) | (with_reducible show wS _ ir_law_deal_t3 _ _ _; unfold ir_law_deal_t3) | (with_reducible show wS _ ir_law_deal_t4 _ _ _; unfold ir_law_deal_t4) | (with_reducible show wS _ ir_law_deal_t5 _ _ _; unfold ir_law_deal_t5)); (skip)))
  refine new_spec shd ?_
  ((skip); repeat ((first | (with_reducible show wS _ ir_law_deal_t2 _ _ _; unfold ir_law_deal_t2) | (with_reducible show wS _ ir_law_deal_t3 _ _ _; unfold ir_law_deal_t3) | (with_reducible show wS _ ir_law_deal_t4 _ _ _; unfold ir_law_deal_t4) | (with_reducible show wS _ ir_law_deal_t5 _ _ _; unfold ir_law_deal_t5)); (skip)))
  refine new_spec shd ?_
  ((skip); repeat ((first | (with_reducible show wS _ ir_law_deal_t2 _ _ _; unfold ir_law_deal_t2) | (with_reducible show wS _ ir_law_deal_t3 _ _ _; unfold ir_law_deal_t3) | (with_reducible show wS _ ir_law_deal_t4 _ _ _; unfold ir_law_deal_t4) | (with_reducible show wS _ ir_law_deal_t5 _ _ _; unfold ir_law_deal_t5)); (skip)))
  refine ⟨fits_le (by simp), fits_le (by simp), fits_le (by simp), ?_⟩
  try simp only [List.append_assoc, List.cons_append, List.nil_append, List.length_append, List.length_cons, List.length_nil, Nat.zero_add, Nat.add_assoc, Nat.reduceAdd]
  rw [b_bindT (by decide) (by rw [ag]; rfl)]
  refine ⟨rfl, ?_⟩
  ((try simp only [setsL, List.set_cons_succ, List.set_cons_zero]); repeat ((first | (with_reducible show wS _ ir_law_deal_t2 _ _ _; unfold ir_law_deal_t2) | (with_reducible show wS _ ir_law_deal_t3 _ _ _; unfold ir_law_deal_t3) | (with_reducible show wS _ ir_law_deal_t4 _ _ _; unfold ir_law_deal_t4) | (with_reducible show wS _ ir_law_deal_t5 _ _ _; unfold ir_law_deal_t5)); (try simp only [w_cons])))
  rw [w_forG]
  ((try simp only [m_idx, o_one, m_var, List.getElem?_cons_succ, List.getElem?_cons_zero, m_list, m_cons, m_nil, m_int, m_bin, v_sub]); repeat ((first | (with_reducible show wS _ ir_law_deal_t2 _ _ _; unfold ir_law_deal_t2) | (with_reducible show wS _ ir_law_deal_t3 _ _ _; unfold ir_law_deal_t3) | (with_reducible show wS _ ir_law_deal_t4 _ _ _; unfold ir_law_deal_t4) | (with_reducible show wS _ ir_law_deal_t5 _ _ _; unfold ir_law_deal_t5)); (skip)))
  refine ⟨fits_le (by simp), fits_le (by simp), fits_le (by simp), fits_le (by simp), fits_le (by simp), ?_⟩
  try simp only [List.append_assoc, List.cons_append, List.nil_append, List.length_append, List.length_cons, List.length_nil, Nat.zero_add, Nat.add_assoc, Nat.reduceAdd]
  refine x_list (v := .obj (σ.length + (9 + kd))) (by rw [ag]; rfl) (fits_le (by simp)) (Int.natCast_nonneg kd) ?_ ?_
  · rw [Int.toNat_natCast]
    match kd, hkd with
    | 0, _ => rfl
    | 1, _ => rfl
    | 2, _ => rfl
    | 3, _ => rfl
  refine deal_rest hh hkd hc (ds_init hQ rfl rfl rfl rfl rfl rfl rfl rfl) (by lia) ?_ fun x6 x7 σ₁ D => ?_
  · rw [ag]
    match kd, hkd with
    | 0, _ => rfl
    | 1, _ => rfl
    | 2, _ => rfl
    | 3, _ => rfl
  have htoN : ((h : Int)).toNat = h := Int.toNat_natCast h
  have hto2 : (2 * (h : Int)).toNat = 2 * h := by lia
  ((skip); repeat ((first | (with_reducible show wS _ ir_law_deal_t2 _ _ _; unfold ir_law_deal_t2) | (with_reducible show wS _ ir_law_deal_t3 _ _ _; unfold ir_law_deal_t3) | (with_reducible show wS _ ir_law_deal_t4 _ _ _; unfold ir_law_deal_t4) | (with_reducible show wS _ ir_law_deal_t5 _ _ _; unfold ir_law_deal_t5)); (try simp only [w_cons, w_ife, w_nil, w_ret, r_ret, m_fls, o_one, t_cmp, m_idx, m_var, List.getElem?_cons_succ, List.getElem?_cons_zero, m_list, m_cons, m_nil, m_bin, m_int, v_mul])))
  refine ⟨fits_le (by simp), fits_le (by simp), ?_⟩
  try simp only [List.append_assoc, List.cons_append, List.nil_append, List.length_append, List.length_cons, List.length_nil, Nat.zero_add, Nat.add_assoc, Nat.reduceAdd]
  rw [v_mulL (by rw [ag]; rfl)]
  refine ⟨by lia, by lia, by simp, ?_⟩
  try simp only [List.append_assoc, List.cons_append, List.nil_append, List.length_append, List.length_cons, List.length_nil, Nat.zero_add, Nat.add_assoc, Nat.reduceAdd, htoN]
  rw [rep_flat, v_addL (by rw [ag0]; rfl) (by rw [ag]; rfl)]
  refine ⟨fits_le (by simp; lia), ?_⟩
  ((skip); repeat ((first | (with_reducible show wS _ ir_law_deal_t2 _ _ _; unfold ir_law_deal_t2) | (with_reducible show wS _ ir_law_deal_t3 _ _ _; unfold ir_law_deal_t3) | (with_reducible show wS _ ir_law_deal_t4 _ _ _; unfold ir_law_deal_t4) | (with_reducible show wS _ ir_law_deal_t5 _ _ _; unfold ir_law_deal_t5)); (skip)))
  refine ⟨fits_le (by simp), sm_small (by decide) (by decide), sm_small (by lia) (by lia), ?_⟩
  rw [v_mulL List.getElem?_concat_length]
  refine ⟨by lia, by lia, by simp, ?_⟩
  ((skip); repeat ((first | (with_reducible show wS _ ir_law_deal_t2 _ _ _; unfold ir_law_deal_t2) | (with_reducible show wS _ ir_law_deal_t3 _ _ _; unfold ir_law_deal_t3) | (with_reducible show wS _ ir_law_deal_t4 _ _ _; unfold ir_law_deal_t4) | (with_reducible show wS _ ir_law_deal_t5 _ _ _; unfold ir_law_deal_t5)); (skip)))
  refine ⟨fits_le (by simp), fits_le (by simp), fits_le (by simp), ?_⟩
  try simp only [List.append_assoc, List.cons_append, List.nil_append, List.length_append, List.length_cons, List.length_nil, Nat.zero_add, Nat.add_assoc, Nat.reduceAdd, hto2]
  rw [rep_flat]
  have gsz : ∀ ys : Sto, (σ₁ ++ ys)[σ.length + 7]? = some (.list ((ci (sizes h kd)).map .int)) := fun ys => Fr.app (m := []) _ _ List.not_mem_nil D.fsz
  refine x_list (v := .obj (σ₁.length + (if kd = 0 then 3 else if kd = 1 then 5 else if kd = 2 then 6 else 7))) (by rw [ag]; rfl) (fits_le (by simp)) (Int.natCast_nonneg kd) ?_ ?_
  · rw [Int.toNat_natCast]
    match kd, hkd with
    | 0, _ => rfl
    | 1, _ => rfl
    | 2, _ => rfl
    | 3, _ => rfl
  refine c_neSame (vs := (ci (sizes h kd)).map .int) (gsz _) ?_ (fun v hv => by obtain ⟨i, _, rfl⟩ := List.mem_map.mp hv; trivial) ?_
  · rw [ag, szL_ci hh hkd]
    have repm : ∀ m : Nat, (List.replicate m (1 : Int)).map V.int = List.replicate m (.int 1) := fun m => by simp
    match kd, hkd with
    | 0, _ => simp [szL, repm]
    | 1, _ => simp [szL, repm]
    | 2, _ => simp [szL]
    | 3, _ => simp [szL]
  ((try simp only [reduceCtorEq, false_implies, forall_const, true_and]); repeat ((first | (with_reducible show wS _ ir_law_deal_t2 _ _ _; unfold ir_law_deal_t2) | (with_reducible show wS _ ir_law_deal_t3 _ _ _; unfold ir_law_deal_t3) | (with_reducible show wS _ ir_law_deal_t4 _ _ _; unfold ir_law_deal_t4) | (with_reducible show wS _ ir_law_deal_t5 _ _ _; unfold ir_law_deal_t5)); (try simp only [w_cons])))
  rw [w_for]
  ((try simp only [b_bindL, setsL, i_range, m_cons, m_nil, m_var, List.getElem?_cons_succ, List.getElem?_cons_zero, o_one, i_rng1]); repeat ((first | (with_reducible show wS _ ir_law_deal_t2 _ _ _; unfold ir_law_deal_t2) | (with_reducible show wS _ ir_law_deal_t3 _ _ _; unfold ir_law_deal_t3) | (with_reducible show wS _ ir_law_deal_t4 _ _ _; unfold ir_law_deal_t4) | (with_reducible show wS _ ir_law_deal_t5 _ _ _; unfold ir_law_deal_t5)); (skip)))
  rw [htoN]
  have Cl := hC.take (i := h)
  have Cr := hC.drop (i := h)
  have la : (ns.take h).length = h := by simp; lia
  have lb : (ns.drop h).length = h := by simp; lia
  have lca := Cl.len
  have lcb := Cr.len
  refine ⟨⟨by lia, by lia⟩, _, for_rng (fun a ρ σ' => Ex5 fun (i : Nat) (y7 y8 y9 : Option V) (outs : List (List Nat)) => A5 (a = i) (DS σ Q ⟨σ.length + 1, σ.length, σ.length + 2⟩ ⟨σ.length + 4, σ.length + 3, σ.length + 5⟩ (σ.length + 6) (σ.length + 7) outs ((cards.take h).drop i) ((cards.drop h).drop i) (ci (sizes h kd)) σ') (Cards ((((ns.take h).zip (ns.drop h)).take i).flatMap fun p => [p.1 + p.2, p.1 - p.2]) outs) (outs.length = 2 * i) (ρ = [some (.obj Q.q), some (.int h), some (.int kd), some (.int turn), some (.obj (σ.length + 6)), some (.obj (σ.length + 7)), x6, y7, y8, y9])) h ?_ ?_ h 0 _ _ (by lia) ⟨0, x7, none, none, [], rfl, D.app, trivial, rfl, rfl⟩⟩
  · rintro a ρ σ' K' ha ⟨i, y7, y8, y9, outs, rfl, Di, hCi, ho, rfl⟩ hK
    have hi : i < h := by lia
    obtain ⟨na, hna⟩ : ∃ n, (ns.take h)[i]? = some n := ⟨_, List.getElem?_eq_getElem (by lia)⟩
    obtain ⟨nb, hnb⟩ : ∃ n, (ns.drop h)[i]? = some n := ⟨_, List.getElem?_eq_getElem (by lia)⟩
    obtain ⟨ca, hca, cca⟩ := Cl.at hna
    obtain ⟨cb, hcb, ccb⟩ := Cr.at hnb
    have Di' := Di
    rw [drop_get hca, drop_get hcb] at Di'
    ((try simp only [List.set_cons_succ, List.set_cons_zero]); repeat ((first | (with_reducible show wS _ ir_law_deal_t2 _ _ _; unfold ir_law_deal_t2) | (with_reducible show wS _ ir_law_deal_t3 _ _ _; unfold ir_law_deal_t3) | (with_reducible show wS _ ir_law_deal_t4 _ _ _; unfold ir_law_deal_t4) | (with_reducible show wS _ ir_law_deal_t5 _ _ _; unfold ir_law_deal_t5)); (skip)))
    refine deal_two Di' cca ccb (hb _ (List.mem_of_mem_take (List.mem_of_getElem? hna))) (hb _ (List.mem_of_mem_drop (List.mem_of_getElem? hnb))) hb2 (by simp; lia) (by simp; lia) (by lia) fun z8 z9 s d σ'' hs hd D'' => ?_
    refine hK _ _ ⟨i + 1, some (.int i), z8, z9, outs ++ [s, d], by lia, D'', ?_, by simp; lia, rfl⟩
    rw [take_get (zip_get hna hnb), List.flatMap_append]
    exact hCi.app ⟨hs, hd, trivial⟩
  · rintro ρ σ' ⟨i, y7, y8, y9, outs, hi, Di, hCi, ho, rfl⟩
    have hi : i = h := by lia
    subst hi
    ((skip); repeat ((first | (with_reducible show wS _ ir_law_deal_t2 _ _ _; unfold ir_law_deal_t2) | (with_reducible show wS _ ir_law_deal_t3 _ _ _; unfold ir_law_deal_t3) | (with_reducible show wS _ ir_law_deal_t4 _ _ _; unfold ir_law_deal_t4) | (with_reducible show wS _ ir_law_deal_t5 _ _ _; unfold ir_law_deal_t5)); (try simp only [w_cons, w_nil, r_next, w_ret, r_ret, m_tru, o_one])))
    refine hk outs σ' ?_ Di.fl Di.fr
    have lz : ((ns.take i).zip (ns.drop i)).length = i := by rw [List.length_zip]; lia
    rw [List.take_of_length_le (by lia)] at hCi
    exact hCi
end M02.Internal
end

section
set_option Elab.async false
set_option linter.all false
set_option maxRecDepth 10000
namespace M02.Internal
open PySem PySem.W MI.Internal

variable {k : Nat} {σ σ' : Sto} {K : VK}
theorem cells_spec {r : Nat} {ns : List Int} (hr : σ[r]? = some (.frz (ns.map .int))) (hn : ns.length ≤ 63) (hk : ∀ cs : List Int, cs.length = 8 → K (.obj σ.length) (σ ++ [.list (cs.map .int)])) : (conOf dfs (k + 1)).fn 2 [.obj r] σ K := by
  refine ⟨rfl, ?_⟩
  show wS _ ir_law_cells [some (.obj r), none, none] σ (retK K)
  unfold ir_law_cells
  have lens : (ns.map V.int).length = ns.length := by simp
  have gr : ∀ xs : Sto, (σ ++ xs)[r]? = some (.frz (ns.map .int)) := fun xs => Fr.app (m := []) _ _ List.not_mem_nil hr
  ((try simp only [w_cons, w_asg, List.set_cons_succ, List.set_cons_zero, m_list, o_one, m_cons, m_nil, m_int]); repeat ((first | (with_reducible show wS _ ir_law_cells_t2 _ _ _; unfold ir_law_cells_t2) | (with_reducible show wS _ ir_law_cells_t3 _ _ _; unfold ir_law_cells_t3)); (skip)))
  refine ⟨fits_le (by simp), ?_⟩
  ((skip); repeat ((first | (with_reducible show wS _ ir_law_cells_t2 _ _ _; unfold ir_law_cells_t2) | (with_reducible show wS _ ir_law_cells_t3 _ _ _; unfold ir_law_cells_t3)); (try simp only [w_cons])))
  rw [w_for]
  ((try simp only [b_bindL, setsL, i_range, m_cons, m_nil, m_bcall, o_one, m_var, List.getElem?_cons_zero, f_lenF (gr _), lens, i_rng1]); repeat ((first | (with_reducible show wS _ ir_law_cells_t2 _ _ _; unfold ir_law_cells_t2) | (with_reducible show wS _ ir_law_cells_t3 _ _ _; unfold ir_law_cells_t3)); (skip)))
  refine ⟨fits_le (by lia), ⟨by lia, by lia⟩, _, for_rng (fun a ρ σ' => Ex3 fun (i : Nat) (cs : List Int) (x2 : Option V) => A4 (a = i) (cs.length = 8) (σ' = σ ++ [.list (cs.map .int)]) (ρ = [some (.obj r), some (.obj σ.length), x2])) ns.length ?_ ?_ (ns.length : Int).toNat 0 _ _ (by simp) ⟨0, [258, 254, 255, 257, 256, 257, 253, 260], none, rfl, rfl, rfl, rfl⟩⟩
  · rintro a ρ σ' K' ha ⟨i, cs, x2, rfl, hc, rfl, rfl⟩ hK
    have hi : i < ns.length := by lia
    obtain ⟨n, hni⟩ : ∃ n, ns[i]? = some n := ⟨_, List.getElem?_eq_getElem hi⟩
    have hj : ((i : Int) % 8).toNat < 8 := by lia
    obtain ⟨c, hci⟩ : ∃ c, cs[((i : Int) % 8).toNat]? = some c := ⟨_, List.getElem?_eq_getElem (by lia)⟩
    have gl : (σ ++ [O.list (cs.map .int)])[σ.length]? = some (.list (cs.map .int)) := List.getElem?_concat_length
    ((try simp only [lb_law_cells_1, List.set_cons_succ, List.set_cons_zero, w_cons, w_nil, w_augI, m_bin, o_one, m_int, m_idx, m_var, List.getElem?_cons_succ, List.getElem?_cons_zero, v_mod]); repeat ((first | (with_reducible show wS _ ir_law_cells_t2 _ _ _; unfold ir_law_cells_t2) | (with_reducible show wS _ ir_law_cells_t3 _ _ _; unfold ir_law_cells_t3)); (skip)))
    refine ⟨by decide, ?_⟩
    refine x_list (v := .int c) gl (fits_le (by simp; lia)) (by lia) (by simp [hci]) ?_
    ((skip); repeat ((first | (with_reducible show wS _ ir_law_cells_t2 _ _ _; unfold ir_law_cells_t2) | (with_reducible show wS _ ir_law_cells_t3 _ _ _; unfold ir_law_cells_t3)); (skip)))
    refine x_frz (v := .int n) (gr _) (fits_le (by simp; lia)) (by lia) (by simp [hni]) ?_
    ((try simp only [v_mod, a_add]); repeat ((first | (with_reducible show wS _ ir_law_cells_t2 _ _ _; unfold ir_law_cells_t2) | (with_reducible show wS _ ir_law_cells_t3 _ _ _; unfold ir_law_cells_t3)); (skip)))
    refine ⟨by decide, ?_⟩
    refine p_list gl (fits_le (by simp; lia)) (by lia) (by simp; lia) ?_
    refine hK _ _ ⟨i + 1, cs.set ((i : Int) % 8).toNat (c + n % 1000000), some (.int i), by lia, by simp [hc], ?_, rfl⟩
    rw [as0, List.map_set]; rfl
  · rintro ρ σ' ⟨i, cs, x2, hi, hc, rfl, rfl⟩
    ((skip); repeat ((first | (with_reducible show wS _ ir_law_cells_t2 _ _ _; unfold ir_law_cells_t2) | (with_reducible show wS _ ir_law_cells_t3 _ _ _; unfold ir_law_cells_t3)); (try simp only [w_cons, w_nil, r_next, w_ret, r_ret, m_var, List.getElem?_cons_succ, List.getElem?_cons_zero, o_one])))
    exact hk cs hc

/-! ## two lines -/
theorem At_turnP {L : Lx} {ln : Int} {txt : List Nat} {pu pu' : List V} (h : L.At ln txt pu σ) (F : Fr [L.p] σ σ') (hp : σ'[L.p]? = some (.list pu')) : L.At ln txt pu' σ' := by
  have no : ∀ {r : Nat} {x : O}, σ[r]? = some x → (∀ l, x ≠ .list l) → r ∉ [L.p] := fun e hx z => by
    rw [List.mem_singleton.mp z, h.p] at e
    exact hx _ (Option.some.inj e).symm
  obtain ⟨es, h5, h6⟩ := h.d2
  exact ⟨F _ _ (no h.q fun _ e => by cases e) h.q, F _ _ (no h.d fun _ e => by cases e) h.d, hp, F _ _ (no h.q2 fun _ e => by cases e) h.q2, ⟨es, F _ _ (no h5 fun _ e => by cases e) h5, h6⟩,
    F _ _ (no h.f fun _ e => by cases e) h.f, F _ _ (no h.c fun _ e => by cases e) h.c, F _ _ (no h.kd fun _ e => by cases e) h.kd, F _ _ (fun z => h.pt (List.mem_singleton.mp z).symm) h.t, h.dd, h.pt⟩
noncomputable def Lx.ms (L : Lx) : List Nat := [L.d, L.t, L.p]
structure TL (kp : List (Nat × O)) (n : Nat) (L1 L2 : Lx) (ln1 : Int) (t1 : List Nat) (c1 : List V) (ln2 : Int) (t2 : List Nat) (c2 : List V) (σ : Sto) : Prop where
  a : L1.At ln1 t1 c1 σ
  b : L2.At ln2 t2 c2 σ
  ks : ∀ e ∈ kp, σ[e.1]? = some e.2
  ka : ∀ e ∈ kp, e.1 ∉ Lx.ms L1
  kb : ∀ e ∈ kp, e.1 ∉ Lx.ms L2
  u1 : L1.d < n
  u2 : L1.t < n
  u3 : L1.p < n
  u4 : L1.d2 < n
  v1 : n ≤ L2.d
  v2 : n ≤ L2.t
  v3 : n ≤ L2.p
  v4 : n ≤ L2.d2
section
variable {kp : List (Nat × O)} {n : Nat} {L1 L2 : Lx} {ln1 ln1' ln2 ln2' : Int} {t1 t1' t2 t2' : List Nat} {c1 c1' c2 c2' : List V}
theorem ms_kind {L : Lx} {ln : Int} {t : List Nat} {c : List V} (h : L.At ln t c σ) : ∀ r ∈ Lx.ms L, (∃ l, σ[r]? = some (.list l)) ∨ ∃ es, σ[r]? = some (.dict es) := fun r hr => by
  simp only [Lx.ms, List.mem_cons, List.not_mem_nil, or_false] at hr
  rcases hr with rfl | rfl | rfl
  · exact .inr ⟨_, h.d⟩
  · exact .inl ⟨_, h.t⟩
  · exact .inl ⟨_, h.p⟩
theorem nms {L : Lx} {r : Nat} (h1 : r ≠ L.d) (h2 : r ≠ L.t) (h3 : r ≠ L.p) : r ∉ Lx.ms L := by
  simp only [Lx.ms, List.mem_cons, List.not_mem_nil, or_false, not_or]
  exact ⟨h1, h2, h3⟩
theorem TL.one (T : TL kp n L1 L2 ln1 t1 c1 ln2 t2 c2 σ) (F : Fr (Lx.ms L1) σ σ') (h : L1.At ln1' t1' c1' σ') : TL kp n L1 L2 ln1' t1' c1' ln2 t2 c2 σ' := by
  have := T.u1; have := T.u2; have := T.u3; have := T.v1; have := T.v2; have := T.v3; have := T.v4
  exact ⟨h, T.b.fr F (ms_kind T.a) (nms (by lia) (by lia) (by lia)) (nms (by lia) (by lia) (by lia)) (nms (by lia) (by lia) (by lia)) (nms (by lia) (by lia) (by lia)), fun e he => F _ _ (T.ka e he) (T.ks e he), T.ka, T.kb, T.u1, T.u2, T.u3, T.u4, T.v1, T.v2, T.v3, T.v4⟩
theorem TL.two (T : TL kp n L1 L2 ln1 t1 c1 ln2 t2 c2 σ) (F : Fr (Lx.ms L2) σ σ') (h : L2.At ln2' t2' c2' σ') : TL kp n L1 L2 ln1 t1 c1 ln2' t2' c2' σ' := by
  have := T.u1; have := T.u2; have := T.u3; have := T.u4; have := T.v1; have := T.v2; have := T.v3
  exact ⟨T.a.fr F (ms_kind T.b) (nms (by lia) (by lia) (by lia)) (nms (by lia) (by lia) (by lia)) (nms (by lia) (by lia) (by lia)) (nms (by lia) (by lia) (by lia)), h, fun e he => F _ _ (T.kb e he) (T.ks e he), T.ka, T.kb, T.u1, T.u2, T.u3, T.u4, T.v1, T.v2, T.v3, T.v4⟩
theorem TL.app {xs : Sto} (T : TL kp n L1 L2 ln1 t1 c1 ln2 t2 c2 σ) : TL kp n L1 L2 ln1 t1 c1 ln2 t2 c2 (σ ++ xs) :=
  ⟨T.a.app, T.b.app, fun e he => Fr.app (m := []) _ _ List.not_mem_nil (T.ks e he), T.ka, T.kb, T.u1, T.u2, T.u3, T.u4, T.v1, T.v2, T.v3, T.v4⟩
theorem frP {L : Lx} (F : Fr [L.p] σ σ') : Fr (Lx.ms L) σ σ' := F.mono fun r hr => by rw [List.mem_singleton.mp hr]; simp [Lx.ms]
theorem frM {L : Lx} (F : Fr L.mu σ σ') : Fr (Lx.ms L) σ σ' := F.mono fun r hr => by
  simp only [Lx.mu, List.mem_cons, List.not_mem_nil, or_false] at hr
  simp only [Lx.ms, List.mem_cons, List.not_mem_nil, or_false]
  rcases hr with h | h <;> simp [h]
theorem TL.deal1 (T : TL kp n L1 L2 ln1 t1 c1 ln2 t2 c2 σ) (h : L1.Qu.At c1' σ') (F : Fr [L1.Qu.p] σ σ') : TL kp n L1 L2 ln1 t1 c1' ln2 t2 c2 σ' := T.one (frP F) (At_turnP T.a F h.2.2)
theorem TL.deal2 (T : TL kp n L1 L2 ln1 t1 c1 ln2 t2 c2 σ) (h : L2.Qu.At c2' σ') (F : Fr [L2.Qu.p] σ σ') : TL kp n L1 L2 ln1 t1 c1 ln2 t2 c2' σ' := T.two (frP F) (At_turnP T.b F h.2.2)
theorem TL.put1 (T : TL kp n L1 L2 ln1 t1 c1 ln2 t2 c2 σ) : TL kp n L1 L2 ln1 t1 c1' ln2 t2 c2 (σ.set L1.p (.list c1')) := T.one (frP .set) T.a.setP
theorem TL.put2 (T : TL kp n L1 L2 ln1 t1 c1 ln2 t2 c2 σ) : TL kp n L1 L2 ln1 t1 c1 ln2 t2 c2' (σ.set L2.p (.list c2')) := T.two (frP .set) T.b.setP
end

/-! ## what is dealt again and again -/
noncomputable def itD (h : Nat) : Nat → List Int → List Int
  | 0, l => l
  | n + 1, l => dealt h (itD h n l)
theorem dealt_len {h : Nat} {l : List Int} (hl : l.length = 2 * h) : (dealt h l).length = 2 * h := by
  have : ∀ m : List (Int × Int), (m.flatMap fun p => [p.1 + p.2, p.1 - p.2]).length = 2 * m.length := by
    intro m
    induction m with
    | nil => rfl
    | cons a m ih => simp only [List.flatMap_cons, List.length_append, ih, List.length_cons, List.length_nil]; lia
  unfold dealt
  rw [this, List.length_zip, List.length_take, List.length_drop]
  lia
theorem dealt_bd {h : Nat} {l : List Int} {b : Int} (hb : ∀ x ∈ l, Bd b x) : ∀ x ∈ dealt h l, Bd (2 * b) x := by
  intro x hx
  obtain ⟨⟨p, q⟩, hp, hx⟩ := List.mem_flatMap.mp hx
  obtain ⟨h1, h2⟩ := List.of_mem_zip hp
  obtain ⟨p1, p2⟩ := hb p (List.mem_of_mem_take h1)
  obtain ⟨q1, q2⟩ := hb q (List.mem_of_mem_drop h2)
  simp only [List.mem_cons, List.not_mem_nil, or_false] at hx
  rcases hx with rfl | rfl <;> constructor <;> lia
theorem itD_len {h : Nat} {l : List Int} (hl : l.length = 2 * h) : ∀ n, (itD h n l).length = 2 * h
  | 0 => hl
  | n + 1 => dealt_len (itD_len hl n)
theorem itD_bd {h : Nat} {l : List Int} {b : Int} (hb : ∀ x ∈ l, Bd b x) : ∀ n, ∀ x ∈ itD h n l, Bd (2 ^ n * b) x
  | 0, x, hx => by simpa using hb x hx
  | n + 1, x, hx => by
    have := dealt_bd (itD_bd hb n) x hx
    rw [Int.pow_succ, Int.mul_comm (2 ^ n) 2, Int.mul_assoc]
    exact this
noncomputable def prods (a b : List Int) : List Int := List.zipWith (· * ·) a b
theorem prods_len {a b : List Int} {n : Nat} (ha : a.length = n) (hb : b.length = n) : (prods a b).length = n := by simp [prods, ha, hb]
theorem mul_bd {x y b : Int} (hx : Bd b x) (hy : Bd b y) : Bd (b * b) (x * y) := by
  obtain ⟨x1, x2⟩ := hx
  obtain ⟨y1, y2⟩ := hy
  have e1 : 0 ≤ (b - x) * (b + y) := Int.mul_nonneg (by lia) (by lia)
  have e2 : 0 ≤ (b + x) * (b - y) := Int.mul_nonneg (by lia) (by lia)
  have e3 : 0 ≤ (b - x) * (b - y) := Int.mul_nonneg (by lia) (by lia)
  have e4 : 0 ≤ (b + x) * (b + y) := Int.mul_nonneg (by lia) (by lia)
  simp only [Int.mul_add, Int.add_mul, Int.mul_sub, Int.sub_mul] at e1 e2 e3 e4
  constructor <;> lia
theorem prods_bd {a b : List Int} {c : Int} (ha : ∀ x ∈ a, Bd c x) (hb : ∀ x ∈ b, Bd c x) : ∀ x ∈ prods a b, Bd (c * c) x := by
  intro x hx
  unfold prods at hx
  obtain ⟨i, hi⟩ := List.mem_iff_getElem?.mp hx
  rw [List.getElem?_zipWith_eq_some] at hi
  obtain ⟨p, q, h1, h2, rfl⟩ := hi
  exact mul_bd (ha _ (List.mem_of_getElem? h1)) (hb _ (List.mem_of_getElem? h2))
noncomputable def dueL (P : Nat) (f g : List Int) : List Int := (List.range P).map fun o => 16 * ((List.range P).map fun x => f.getD x 0 * g.getD (x ^^^ o) 0).sum
theorem due_one (a b c d : Int) : itD 1 7 (prods (itD 1 1 [a, b]) (itD 1 1 [c, d])) = dueL 2 [a, b] [c, d] := by
  simp only [itD, dealt, prods, List.take_succ_cons, List.take_zero, List.drop_succ_cons, List.drop_zero, List.zip_cons_cons, List.zip_nil_left, List.zip_nil_right, List.flatMap_cons, List.flatMap_nil, List.cons_append, List.nil_append, List.append_nil, List.zipWith_cons_cons, List.zipWith_nil_left]
  have e : dueL 2 [a, b] [c, d] = [16 * (a * c + (b * d + 0)), 16 * (a * d + (b * c + 0))] := rfl
  rw [e]
  simp only [Int.mul_add, Int.add_mul, Int.mul_sub, Int.sub_mul, List.cons.injEq, and_true]
  constructor <;> lia
theorem due_two4 (p q r s : Int) : itD 2 6 [p, q, r, s] = [4 * (p + q + r + s), 4 * (p - q + r - s), 4 * (p + q - r - s), 4 * (p - q - r + s)] := by
  simp only [itD, dealt, prods, List.take_succ_cons, List.take_zero, List.drop_succ_cons, List.drop_zero, List.zip_cons_cons, List.zip_nil_left, List.zip_nil_right, List.flatMap_cons, List.flatMap_nil, List.cons_append, List.nil_append, List.append_nil, List.cons.injEq, and_true]
  refine ⟨by lia, by lia, by lia, by lia⟩
theorem due_two (a b c d e f g h : Int) : itD 2 6 (prods (itD 2 2 [a, b, c, d]) (itD 2 2 [e, f, g, h])) = dueL 4 [a, b, c, d] [e, f, g, h] := by
  have e1 : itD 2 2 [a, b, c, d] = [a + c + (b + d), a + c - (b + d), a - c + (b - d), a - c - (b - d)] := rfl
  have e2 : itD 2 2 [e, f, g, h] = [e + g + (f + h), e + g - (f + h), e - g + (f - h), e - g - (f - h)] := rfl
  rw [e1, e2]
  simp only [prods, List.zipWith_cons_cons, List.zipWith_nil_left]
  rw [due_two4]
  have e3 : dueL 4 [a, b, c, d] [e, f, g, h] = [16 * (a * e + (b * f + (c * g + (d * h + 0)))), 16 * (a * f + (b * e + (c * h + (d * g + 0)))), 16 * (a * g + (b * h + (c * e + (d * f + 0)))), 16 * (a * h + (b * g + (c * f + (d * e + 0))))] := rfl
  rw [e3]
  simp only [Int.mul_add, Int.add_mul, Int.mul_sub, Int.sub_mul, List.cons.injEq, and_true]
  refine ⟨by lia, by lia, by lia, by lia⟩
theorem due_all {h : Nat} {f g : List Int} (hh : h = 1 ∨ h = 2) (hf : f.length = 2 * h) (hg : g.length = 2 * h) : itD h (8 - h) (prods (itD h h f) (itD h h g)) = dueL (2 * h) f g := by
  rcases hh with rfl | rfl
  · match f, g, hf, hg with
    | [a, b], [c, d], _, _ => exact due_one a b c d
  · match f, g, hf, hg with
    | [a, b, c, d], [e, f, g, h], _, _ => exact due_two a b c d e f g h
end M02.Internal
end

section
set_option Elab.async false
set_option linter.all false
set_option maxRecDepth 10000
namespace M02.Internal
open PySem PySem.W MI.Internal

variable {k : Nat} {σ σ' : Sto} {kp : List (Nat × O)} {n : Nat} {L1 L2 : Lx} {ln1 ln2 : Int} {t1 t2 : List Nat} {cs1 cs2 : List (List Nat)} {f g : List Int} {h rl : Nat} {m : Int} {K : FK} {x0 x1 x3 x5 x6 x7 x9 x10 x11 x12 x13 x14 : Option V}
theorem pow7 : ∀ n, n ≤ 7 → (2 : Int) ^ n ≤ 128 := by decide
theorem Bd.mono {a b x : Int} (hx : Bd a x) (h : a ≤ b) : Bd b x := ⟨by have := hx.1; lia, by have := hx.2; lia⟩
theorem itD_bd' {l : List Int} {b : Int} (hb0 : 0 ≤ b) (hb : ∀ x ∈ l, Bd b x) {n : Nat} (hn : n ≤ 7) : ∀ x ∈ itD h n l, Bd (128 * b) x := fun x hx =>
  (itD_bd hb n x hx).mono (Int.mul_le_mul_of_nonneg_right (pow7 n hn) hb0)
/-- a line is dealt -/
theorem deal_call {Q : Qu} {cards : List (List Nat)} {ns : List Int} {d : Nat} {B : Int} {T : Bool → Sto → Prop} (hh : h = 1 ∨ h = 2) (hn : ns.length = 2 * h) (hC : Cards ns cards) (hQ : Q.At (cards.map .str) σ) (hb : ∀ n ∈ ns, Bd B n) (hb2 : 2 * B < 1000000000000)
    (hk : ∀ cards' σ', Cards (dealt h ns) cards' → Q.At (cards'.map .str) σ' → Fr [Q.p] σ σ' → T true σ') : (conOf dfs (k + 4)).fn 14 [.obj Q.q, .int (2 * (h : Int) / 2), .int ((m + d) % 4), .int (m + 5 * d)] σ fun v σ => truS v σ T := by
  obtain ⟨kd, e, hkd⟩ : ∃ kd : Nat, (m + d) % 4 = kd ∧ kd < 4 := ⟨((m + d) % 4).toNat, by lia, by lia⟩
  have e2 : 2 * (h : Int) / 2 = h := by lia
  rw [e, e2]
  exact deal_spec hh hkd hn hC hQ hb hb2 hk
theorem loop1 (T : TL kp n L1 L2 ln1 t1 (cs1.map .str) ln2 t2 (cs2.map .str) σ) (hrl : (rl, O.list [.obj L1.q, .obj L2.q]) ∈ kp) (C1 : Cards f cs1) (C2 : Cards g cs2) (hh : h = 1 ∨ h = 2) (hf : f.length = 2 * h) (hg : g.length = 2 * h) (bf : ∀ x ∈ f, Bd 255 x) (bg : ∀ x ∈ g, Bd 255 x)
    (hk : ∀ x9 x10 cs1 cs2 σ, Cards (itD h h f) cs1 → Cards (itD h h g) cs2 → TL kp n L1 L2 ln1 t1 (cs1.map .str) ln2 t2 (cs2.map .str) σ → K .next [x0, x1, some (.int m), some (.int h), some (.int (2 * (h : Int))), x5, x6, x7, some (.obj rl), x9, x10, x11, x12, x13, x14] σ) :
    wS (conOf dfs (k + 4)) (.for_ [9] (.range (.cons (.var 3) .nil)) lb_law_5) [x0, x1, some (.int m), some (.int h), some (.int (2 * (h : Int))), x5, x6, x7, some (.obj rl), x9, x10, x11, x12, x13, x14] σ K := by
  ((skip); repeat ((first | (with_reducible show wS _ lb_law_6_t2 _ _ _; unfold lb_law_6_t2)); (skip)))
  rw [w_for]
  ((try simp only [b_bindL, setsL, i_range, m_cons, m_nil, m_var, List.getElem?_cons_succ, List.getElem?_cons_zero, o_one, i_rng1, Int.toNat_natCast]); repeat ((first | (with_reducible show wS _ lb_law_6_t2 _ _ _; unfold lb_law_6_t2)); (skip)))
  refine ⟨⟨by lia, by lia⟩, _, for_rng (fun a ρ σ' => Ex5 fun (d : Nat) (y9 y10 : Option V) (ds1 ds2 : List (List Nat)) => A5 (a = d) (Cards (itD h d f) ds1) (Cards (itD h d g) ds2) (TL kp n L1 L2 ln1 t1 (ds1.map .str) ln2 t2 (ds2.map .str) σ') (ρ = [x0, x1, some (.int m), some (.int h), some (.int (2 * (h : Int))), x5, x6, x7, some (.obj rl), y9, y10, x11, x12, x13, x14])) h ?_ ?_ h 0 _ _ (by lia) ⟨0, _, _, cs1, cs2, rfl, C1, C2, T, rfl⟩⟩
  · rintro a ρ σ₁ K' ha ⟨d, y9, y10, ds1, ds2, rfl, D1, D2, T1, rfl⟩ hK
    have hd : d < h := by lia
    ((try simp only [lb_law_5, List.set_cons_succ, List.set_cons_zero, w_cons, w_nil]); repeat ((first | (with_reducible show wS _ lb_law_6_t2 _ _ _; unfold lb_law_6_t2)); (skip)))
    rw [w_for]
    ((try simp only [b_bindL, setsL, i_var, m_var, List.getElem?_cons_succ, List.getElem?_cons_zero, o_one, i_lst (T1.ks _ hrl)]); repeat ((first | (with_reducible show wS _ lb_law_6_t2 _ _ _; unfold lb_law_6_t2)); (skip)))
    refine ⟨_, for_lst (r := rl) (l := [.obj L1.q, .obj L2.q]) (fun i ρ σ' => Ex3 fun (y10 : Option V) (es1 es2 : List (List Nat)) => A4 (Cards (itD h (if 0 < i then d + 1 else d) f) es1) (Cards (itD h (if 1 < i then d + 1 else d) g) es2) (TL kp n L1 L2 ln1 t1 (es1.map .str) ln2 t2 (es2.map .str) σ') (ρ = [x0, x1, some (.int m), some (.int h), some (.int (2 * (h : Int))), x5, x6, x7, some (.obj rl), some (.int d), y10, x11, x12, x13, x14])) ?_ ?_ ?_ 2 0 _ _ rfl ⟨_, ds1, ds2, D1, D2, T1, rfl⟩⟩
    · rintro i ρ σ' ⟨_, _, _, _, _, T2, _⟩
      exact T2.ks _ hrl
    · rintro i v ρ σ' K'' hv ⟨y10', es1, es2, E1, E2, T2, rfl⟩ hK2
      match i, hv with
      | 0, hv =>
        cases hv
        ((try simp only [lb_law_4, List.set_cons_succ, List.set_cons_zero, w_cons, w_nil, w_ife, w_ret, m_fls, o_one, m_not, t_call, m_call, m_cons, m_nil, m_bin, m_var, List.getElem?_cons_succ, List.getElem?_cons_zero, m_int, v_mul, v_add, v_mod, v_div]); repeat ((first | (with_reducible show wS _ lb_law_6_t2 _ _ _; unfold lb_law_6_t2)); (skip)))
        refine ⟨by lia, sm_small (by decide) (by decide), by lia, sm_small (by decide) (by decide), sm_small (by lia) (by lia), ?_⟩
        refine deal_call (Q := L1.Qu) hh (itD_len hf _) E1 T2.a.qu (itD_bd' (by decide) bf (by rw [if_neg (by lia)]; lia)) (by decide) fun cards' σ'' C' Q' F' => ?_
        ((try simp only [Bool.not_true, reduceCtorEq, false_implies, forall_const, true_and]); repeat ((first | (with_reducible show wS _ lb_law_6_t2 _ _ _; unfold lb_law_6_t2)); (skip)))
        exact hK2 _ _ ⟨_, cards', es2, C', E2, T2.deal1 Q' F', rfl⟩
      | 1, hv =>
        cases hv
        ((try simp only [lb_law_4, List.set_cons_succ, List.set_cons_zero, w_cons, w_nil, w_ife, w_ret, m_fls, o_one, m_not, t_call, m_call, m_cons, m_nil, m_bin, m_var, List.getElem?_cons_succ, List.getElem?_cons_zero, m_int, v_mul, v_add, v_mod, v_div]); repeat ((first | (with_reducible show wS _ lb_law_6_t2 _ _ _; unfold lb_law_6_t2)); (skip)))
        refine ⟨by lia, sm_small (by decide) (by decide), by lia, sm_small (by decide) (by decide), sm_small (by lia) (by lia), ?_⟩
        refine deal_call (Q := L2.Qu) hh (itD_len hg _) E2 T2.b.qu (itD_bd' (by decide) bg (by rw [if_neg (by lia)]; lia)) (by decide) fun cards' σ'' C' Q' F' => ?_
        ((try simp only [Bool.not_true, reduceCtorEq, false_implies, forall_const, true_and]); repeat ((first | (with_reducible show wS _ lb_law_6_t2 _ _ _; unfold lb_law_6_t2)); (skip)))
        exact hK2 _ _ ⟨_, es1, cards', E1, C', T2.deal2 Q' F', rfl⟩
      | i + 2, hv => simp at hv
    · rintro ρ σ' ⟨y10', es1, es2, E1, E2, T2, rfl⟩
      exact hK _ _ ⟨d + 1, _, _, es1, es2, by lia, E1, E2, T2, rfl⟩
  · rintro ρ σ₁ ⟨d, y9, y10, ds1, ds2, hd, D1, D2, T1, rfl⟩
    have : d = h := by lia
    subst this
    exact hk _ _ _ _ _ D1 D2 T1
theorem loop3 {q : List Int} (T : TL kp n L1 L2 ln1 t1 (cs1.map .str) ln2 t2 (cs2.map .str) σ) (hrl : (rl, O.list [.obj L1.q, .obj L2.q]) ∈ kp) (C1 : Cards q cs1) (hh : h = 1 ∨ h = 2) (hq : q.length = 2 * h) (bq : ∀ x ∈ q, Bd 1040400 x)
    (hk : ∀ x9 cs1 σ, Cards (itD h (8 - h) q) cs1 → TL kp n L1 L2 ln1 t1 (cs1.map .str) ln2 t2 (cs2.map .str) σ → K .next [x0, x1, some (.int m), some (.int h), some (.int (2 * (h : Int))), x5, x6, x7, some (.obj rl), x9, x10, x11, x12, x13, x14] σ) :
    wS (conOf dfs (k + 4)) (.for_ [9] (.range (.cons (.var 3) (.cons (.int 8) .nil))) lb_law_7) [x0, x1, some (.int m), some (.int h), some (.int (2 * (h : Int))), x5, x6, x7, some (.obj rl), x9, x10, x11, x12, x13, x14] σ K := by
  ((skip); repeat ((first | (with_reducible show wS _ lb_law_6_t2 _ _ _; unfold lb_law_6_t2)); (skip)))
  rw [w_for]
  ((try simp only [b_bindL, setsL, i_range, m_cons, m_nil, m_int, o_one, m_var, List.getElem?_cons_succ, List.getElem?_cons_zero, i_rng2]); repeat ((first | (with_reducible show wS _ lb_law_6_t2 _ _ _; unfold lb_law_6_t2)); (skip)))
  have e8 : (8 - (h : Int)).toNat = 8 - h := by lia
  rw [e8]
  refine ⟨⟨by lia, by lia⟩, ⟨by lia, by lia⟩, _, for_rng (fun a ρ σ' => Ex3 fun (d : Nat) (y9 : Option V) (ds1 : List (List Nat)) => A4 (a = (h : Int) + d) (Cards (itD h d q) ds1) (TL kp n L1 L2 ln1 t1 (ds1.map .str) ln2 t2 (cs2.map .str) σ') (ρ = [x0, x1, some (.int m), some (.int h), some (.int (2 * (h : Int))), x5, x6, x7, some (.obj rl), y9, x10, x11, x12, x13, x14])) 8 ?_ ?_ (8 - h) h _ _ (by lia) ⟨0, _, cs1, by lia, C1, T, rfl⟩⟩
  · rintro a ρ σ₁ K' ha ⟨d, y9, ds1, rfl, D1, T1, rfl⟩ hK
    have hd : d ≤ 7 := by lia
    have gl := T1.ks _ hrl
    ((try simp only [lb_law_7, List.set_cons_succ, List.set_cons_zero, w_cons, w_nil, w_ife, w_ret, m_fls, o_one, m_not, t_call, m_call, m_cons, m_nil, m_bin, m_var, List.getElem?_cons_succ, List.getElem?_cons_zero, m_int, v_mul, v_add, v_mod, v_div, m_idx]); repeat ((first | (with_reducible show wS _ lb_law_6_t2 _ _ _; unfold lb_law_6_t2)); (skip)))
    refine x_list (v := .obj L1.q) gl (fits_le (by simp)) (by decide) rfl ?_
    ((skip); repeat ((first | (with_reducible show wS _ lb_law_6_t2 _ _ _; unfold lb_law_6_t2)); (skip)))
    refine ⟨by lia, sm_small (by decide) (by decide), by lia, sm_small (by decide) (by decide), sm_small (by lia) (by lia), ?_⟩
    have ec : (h : Int) + (d : Int) = ((h + d : Nat) : Int) := by lia
    rw [ec]
    refine deal_call (Q := L1.Qu) hh (itD_len hq _) D1 T1.a.qu (itD_bd' (by decide) bq hd) (by decide) fun cards' σ'' C' Q' F' => ?_
    ((try simp only [Bool.not_true, reduceCtorEq, false_implies, forall_const, true_and]); repeat ((first | (with_reducible show wS _ lb_law_6_t2 _ _ _; unfold lb_law_6_t2)); (skip)))
    exact hK _ _ ⟨d + 1, some (.int ((h + d : Nat) : Int)), cards', by lia, C', T1.deal1 Q' F', rfl⟩
  · rintro ρ σ₁ ⟨d, y9, ds1, hd, D1, T1, rfl⟩
    have : d = 8 - h := by lia
    subst this
    exact hk _ _ _ D1 T1
theorem loop2 {A B : List Int} (T : TL kp n L1 L2 ln1 t1 (cs1.map .str) ln2 t2 (cs2.map .str) σ) (hrl : (rl, O.list [.obj L1.q, .obj L2.q]) ∈ kp) (C1 : Cards A cs1) (C2 : Cards B cs2) (hh : h = 1 ∨ h = 2) (hA : A.length = 2 * h) (hB : B.length = 2 * h) (bA : ∀ x ∈ A, Bd 1020 x) (bB : ∀ x ∈ B, Bd 1020 x)
    (hk : ∀ x11 x12 cs1 σ, Cards (prods A B) cs1 → TL kp n L1 L2 ln1 t1 (cs1.map .str) ln2 t2 (([] : List (List Nat)).map .str) σ → K .next [x0, x1, some (.int m), x3, some (.int (2 * (h : Int))), x5, x6, x7, some (.obj rl), x9, x10, x11, x12, x13, x14] σ) :
    wS (conOf dfs (k + 4)) (.for_ [11] (.range (.cons (.var 4) .nil)) lb_law_6) [x0, x1, some (.int m), x3, some (.int (2 * (h : Int))), x5, x6, x7, some (.obj rl), x9, x10, x11, x12, x13, x14] σ K := by
  ((skip); repeat ((first | (with_reducible show wS _ lb_law_6_t2 _ _ _; unfold lb_law_6_t2)); (skip)))
  rw [w_for]
  ((try simp only [b_bindL, setsL, i_range, m_cons, m_nil, m_var, List.getElem?_cons_succ, List.getElem?_cons_zero, o_one, i_rng1]); repeat ((first | (with_reducible show wS _ lb_law_6_t2 _ _ _; unfold lb_law_6_t2)); (skip)))
  have eP : (2 * (h : Int)).toNat = 2 * h := by lia
  rw [eP]
  have lp : (prods A B).length = 2 * h := prods_len hA hB
  refine ⟨⟨by lia, by lia⟩, _, for_rng (fun a ρ σ' => Ex5 fun (i : Nat) (y11 y12 : Option V) (ds1 ds2 : List (List Nat)) => A5 (a = i) (Cards (A.drop i ++ (prods A B).take i) ds1) (Cards (B.drop i) ds2) (TL kp n L1 L2 ln1 t1 (ds1.map .str) ln2 t2 (ds2.map .str) σ') (ρ = [x0, x1, some (.int m), x3, some (.int (2 * (h : Int))), x5, x6, x7, some (.obj rl), x9, x10, y11, y12, x13, x14])) (2 * h) ?_ ?_ (2 * h) 0 _ _ (by lia) ⟨0, _, _, cs1, cs2, rfl, by simpa using C1, C2, T, rfl⟩⟩
  · rintro a ρ σ₁ K' ha ⟨i, y11, y12, ds1, ds2, rfl, D1, D2, T1, rfl⟩ hK
    have hi : i < 2 * h := by lia
    obtain ⟨x, hx⟩ : ∃ x, A[i]? = some x := ⟨_, List.getElem?_eq_getElem (by lia)⟩
    obtain ⟨y, hy⟩ : ∃ y, B[i]? = some y := ⟨_, List.getElem?_eq_getElem (by lia)⟩
    have bx := bA _ (List.mem_of_getElem? hx)
    have bY := bB _ (List.mem_of_getElem? hy)
    have bxy := mul_bd bx bY
    have zx : Sz x := ⟨by have := bx.1; lia, by have := bx.2; lia⟩
    have zy : Sz y := ⟨by have := bY.1; lia, by have := bY.2; lia⟩
    have zp : Sz (x * y) := ⟨by have := bxy.1; lia, by have := bxy.2; lia⟩
    have l1 := D1.len
    have l2 := D2.len
    rw [drop_get hx] at D1
    rw [drop_get hy] at D2
    simp only [List.length_append, List.length_drop, List.length_take, lp, hA, hB] at l1 l2
    match ds1, D1 with
    | ca :: r1, D1 =>
    match ds2, D2 with
    | cb :: r2, D2 =>
    obtain ⟨cca, D1⟩ := D1
    obtain ⟨ccb, D2⟩ := D2
    simp only [List.length_cons] at l1 l2
    ((try simp only [lb_law_6, List.set_cons_succ, List.set_cons_zero, w_cons, w_asg, m_bin, o_one, m_call, m_cons, m_nil, m_cm, m_idx, m_int, m_var, List.getElem?_cons_succ, List.getElem?_cons_zero]); repeat ((first | (with_reducible show wS _ lb_law_6_t2 _ _ _; unfold lb_law_6_t2)); (skip)))
    refine x_list (v := .obj L1.q) (T1.ks _ hrl) (fits_le (by simp)) (by decide) rfl ?_
    ((skip); repeat ((first | (with_reducible show wS _ lb_law_6_t2 _ _ _; unfold lb_law_6_t2)); (skip)))
    refine ⟨T1.a.qu.mget, get_spec shd (Q := L1.Qu) (v := .str ca) (pu := r1.map .str) T1.a.qu (fits_le (by simp; lia)) ?_⟩
    ((skip); repeat ((first | (with_reducible show wS _ lb_law_6_t2 _ _ _; unfold lb_law_6_t2)); (skip)))
    have T2 := T1.put1 (c1' := r1.map .str)
    refine num_spec cca (Nat.le_trans zx.len (by decide)) zx.sm fun xs => ?_
    ((skip); repeat ((first | (with_reducible show wS _ lb_law_6_t2 _ _ _; unfold lb_law_6_t2)); (skip)))
    have T3 := T2.app (xs := xs)
    refine x_list (v := .obj L2.q) (T3.ks _ hrl) (fits_le (by simp)) (by decide) rfl ?_
    ((skip); repeat ((first | (with_reducible show wS _ lb_law_6_t2 _ _ _; unfold lb_law_6_t2)); (skip)))
    refine ⟨T3.b.qu.mget, get_spec shd (Q := L2.Qu) (v := .str cb) (pu := r2.map .str) T3.b.qu (fits_le (by simp; lia)) ?_⟩
    ((skip); repeat ((first | (with_reducible show wS _ lb_law_6_t2 _ _ _; unfold lb_law_6_t2)); (skip)))
    have T4 := T3.put2 (c2' := r2.map .str)
    refine num_spec ccb (Nat.le_trans zy.len (by decide)) zy.sm fun ys => ?_
    ((try simp only [v_mul]); repeat ((first | (with_reducible show wS _ lb_law_6_t2 _ _ _; unfold lb_law_6_t2)); (skip)))
    refine ⟨zx.sm, zy.sm, ?_⟩
    have T5 := T4.app (xs := ys)
    refine x_list (v := .obj L1.q) (T5.ks _ hrl) (fits_le (by simp)) (by decide) rfl ?_
    ((try simp only [w_nil, o_one, m_cons, m_nil, m_call, m_var, List.getElem?_cons_succ, List.getElem?_cons_zero]); repeat ((first | (with_reducible show wS _ lb_law_6_t2 _ _ _; unfold lb_law_6_t2)); (skip)))
    refine ⟨T5.a.qu.mput, card_spec (Nat.le_trans zp.len (by decide)) fun s zs hs => ?_⟩
    ((skip); repeat ((first | (with_reducible show wS _ lb_law_6_t2 _ _ _; unfold lb_law_6_t2)); (skip)))
    have T6 := T5.app (xs := zs)
    refine put_spec shd (Q := L1.Qu) T6.a.qu (fits_le (by simp; lia)) ?_
    have T7 := T6.put1 (c1' := (r1 ++ [s]).map .str)
    have e7 : r1.map V.str ++ [V.str s] = (r1 ++ [s]).map .str := by simp
    rw [e7]
    have hp : (prods A B)[i]? = some (x * y) := by
      unfold prods
      rw [List.getElem?_zipWith_eq_some]
      exact ⟨x, y, hx, hy, rfl⟩
    refine hK _ _ ⟨i + 1, _, _, r1 ++ [s], r2, by lia, ?_, D2, T7, rfl⟩
    rw [take_get hp, ← List.append_assoc]
    exact D1.snoc hs
  · rintro ρ σ₁ ⟨i, y11, y12, ds1, ds2, hi, D1, D2, T1, rfl⟩
    have : i = 2 * h := by lia
    subst this
    rw [List.drop_eq_nil_of_le (by lia), List.nil_append, List.take_of_length_le (by lia)] at D1
    rw [List.drop_eq_nil_of_le (by lia)] at D2
    match ds2, D2 with
    | [], _ => exact hk _ _ _ _ D1 T1
end M02.Internal
end

section
set_option Elab.async false
set_option linter.all false
set_option maxRecDepth 10000
namespace M02.Internal
open PySem PySem.W MI.Internal

variable {k : Nat} {σ σ' : Sto} {kp : List (Nat × O)} {n : Nat} {L1 L2 : Lx} {ln1 ln2 : Int} {t1 t2 : List Nat} {c1 c2 : List V} {cs1 cs2 : List (List Nat)} {f g : List Int} {h rl rf rg : Nat} {m : Int} {x0 x1 x2 x3 x5 x6 x7 x8 x9 x10 x11 x12 x13 x14 : Option V}
theorem xor_cast {x o P : Nat} (hP : P = 2 ∨ P = 4) (hx : x < P) (ho : o < P) : Builtin.bitXor (x : Int) (o : Int) = ((x ^^^ o : Nat) : Int) ∧ x ^^^ o < P := by
  have a : ∀ x : Nat, x < 4 → ∀ o : Nat, o < 4 → Builtin.bitXor (x : Int) (o : Int) = ((x ^^^ o : Nat) : Int) ∧ x ^^^ o < 4 := by decide
  have b : ∀ x : Nat, x < 2 → ∀ o : Nat, o < 2 → x ^^^ o < 2 := by decide
  rcases hP with rfl | rfl
  · exact ⟨(a x (by lia) o (by lia)).1, b x hx o ho⟩
  · exact a x hx o ho
noncomputable def innL (P : Nat) (f g : List Int) (o : Nat) : List Int := (List.range P).map fun x => f.getD x 0 * g.getD (x ^^^ o) 0
theorem dueL_eq {P : Nat} : dueL P f g = (List.range P).map fun o => 16 * (innL P f g o).sum := rfl
theorem sum_bd {b : Int} (hb : 0 ≤ b) : ∀ {l : List Int}, (∀ x ∈ l, Bd b x) → Bd (b * l.length) l.sum
  | [], _ => by simp [Bd]
  | a :: l, h => by
    have h1 := h a (.head _)
    have h2 := sum_bd hb (l := l) fun x hx => h x (.tail _ hx)
    obtain ⟨a1, a2⟩ := h1
    obtain ⟨b1, b2⟩ := h2
    rw [List.sum_cons, List.length_cons, Int.natCast_add, Int.mul_add]
    constructor <;> lia
theorem getD_of {l : List Int} {i : Nat} {x : Int} (h : l[i]? = some x) : l.getD i 0 = x := by rw [List.getD_eq_getElem?_getD, h]; rfl
theorem due_spec {Φ : Con} {K : VK} (hh : h = 1 ∨ h = 2) (hf : f.length = 2 * h) (hg : g.length = 2 * h) (bf : ∀ x ∈ f, Bd 255 x) (bg : ∀ x ∈ g, Bd 255 x) (gf : σ[rf]? = some (.list (f.map .int))) (gg : σ[rg]? = some (.list (g.map .int)))
    (hk : ∀ r xs, σ.length ≤ r → (σ ++ xs)[r]? = some (.list ((dueL (2 * h) f g).map .int)) → K (.obj r) (σ ++ xs)) :
    (mean Φ (.comp le_law_9 1 (.range (.cons (.var 4) .nil)) .nil)).v [x0, x1, x2, x3, some (.int (2 * (h : Int))), some (.obj rf), some (.obj rg), x7, x8, x9, x10, x11, x12, x13, x14] σ (one K) := by
  have eP : (2 * (h : Int)).toNat = 2 * h := by lia
  have hP : 2 * h = 2 ∨ 2 * h = 4 := by lia
  have ld : (dueL (2 * h) f g).length = 2 * h := by simp [dueL]
  have gf' : ∀ xs : Sto, (σ ++ xs)[rf]? = some (.list (f.map .int)) := fun xs => Fr.app (m := []) _ _ List.not_mem_nil gf
  have gg' : ∀ xs : Sto, (σ ++ xs)[rg]? = some (.list (g.map .int)) := fun xs => Fr.app (m := []) _ _ List.not_mem_nil gg
  skip
  rw [m_comp]
  try simp only [o_one, i_range, m_cons, m_nil, m_var, List.getElem?_cons_succ, List.getElem?_cons_zero, i_rng1]
  rw [eP]
  refine ⟨⟨by lia, by lia⟩, _, comp_rng (fun a acc σ' => Ex2 fun (i : Nat) (xs : Sto) => A3 (a = i) (acc = ((dueL (2 * h) f g).take i).map .int) (σ' = σ ++ xs)) (2 * h) ?_ ?_ ?_ (2 * h) 0 _ _ (by lia) ⟨0, [], rfl, by simp, by simp⟩⟩
  · rintro a acc σ' ⟨i, xs, rfl, rfl, rfl⟩
    refine fits_le ?_
    simp [ld]; lia
  · rintro a acc σ' K' ha ⟨o, xs, rfl, rfl, rfl⟩ hK
    have ho : o < 2 * h := by lia
    have li : (innL (2 * h) f g o).length = 2 * h := by simp [innL]
    simp only [le_law_9, s_one, List.cons_append, List.nil_append, m_bin, o_one, m_bcall, m_cons, m_nil, m_int, t_nil, reduceCtorEq, false_implies, forall_const, true_and]
    rw [m_comp]
    try simp only [o_one, i_range, m_cons, m_nil, m_var, List.getElem?_cons_succ, List.getElem?_cons_zero, i_rng1, eP]
    have bi : ∀ x ∈ innL (2 * h) f g o, Bd 65025 x := by
      intro x hx
      obtain ⟨j, hj, rfl⟩ := List.mem_map.mp hx
      have hj := List.mem_range.mp hj
      obtain ⟨p, hp⟩ : ∃ p, f[j]? = some p := ⟨_, List.getElem?_eq_getElem (by lia)⟩
      obtain ⟨q, hq⟩ : ∃ q, g[j ^^^ o]? = some q := ⟨_, List.getElem?_eq_getElem (by have := (xor_cast hP hj ho).2; lia)⟩
      rw [getD_of hp, getD_of hq]
      exact mul_bd (bf _ (List.mem_of_getElem? hp)) (bg _ (List.mem_of_getElem? hq))
    have bs := sum_bd (by decide) bi
    rw [li] at bs
    obtain ⟨bs1, bs2⟩ := bs
    refine ⟨⟨by lia, by lia⟩, _, comp_rng (fun a acc σ' => ∃ (j : Nat), A3 (a = j) (acc = ((innL (2 * h) f g o).take j).map .int) (σ' = σ ++ xs)) (2 * h) ?_ ?_ ?_ (2 * h) 0 _ _ (by lia) ⟨0, rfl, by simp, rfl⟩⟩
    · rintro a acc σ' ⟨j, rfl, rfl, rfl⟩
      refine fits_le ?_
      simp [li]; lia
    · rintro a acc σ' K'' ha ⟨j, rfl, rfl, rfl⟩ hK2
      have hj : j < 2 * h := by lia
      have hx := xor_cast hP hj ho
      obtain ⟨p, hp⟩ : ∃ p, f[j]? = some p := ⟨_, List.getElem?_eq_getElem (by lia)⟩
      obtain ⟨q, hq⟩ : ∃ q, g[j ^^^ o]? = some q := ⟨_, List.getElem?_eq_getElem (by lia)⟩
      have bp := bf _ (List.mem_of_getElem? hp)
      have bq := bg _ (List.mem_of_getElem? hq)
      simp only [le_law_8, s_one, List.cons_append, List.nil_append, m_bin, o_one, m_idx, m_var, List.getElem?_cons_succ, List.getElem?_cons_zero, v_xor, t_nil, reduceCtorEq, false_implies, forall_const, true_and]
      refine x_list (v := .int p) (gf' _) (fits_le (by simp; lia)) (Int.natCast_nonneg j) (by simp [hp]) ?_
      skip
      rw [hx.1]
      refine x_list (v := .int q) (gg' _) (fits_le (by simp; lia)) (Int.natCast_nonneg _) (by simp [hq]) ?_
      try simp only [v_mul]
      refine ⟨sm_small (by have := bp.1; lia) (by have := bp.2; lia), sm_small (by have := bq.1; lia) (by have := bq.2; lia), ?_⟩
      have e : (innL (2 * h) f g o)[j]? = some (p * q) := by
        simp only [innL, List.getElem?_map, List.getElem?_range hj, Option.map_some, getD_of hp, getD_of hq]
      refine hK2 _ _ ⟨j + 1, by lia, ?_, rfl⟩
      rw [take_get e, List.map_append]; rfl
    · rintro acc σ' ⟨j, hj, rfl, rfl⟩
      have : j = 2 * h := by lia
      subst this
      rw [List.take_of_length_le (by lia)]
      rw [f_sum List.getElem?_concat_length]
      refine ⟨_, intsV_map _, ?_⟩
      try simp only [v_mul]
      refine ⟨sm_small (by decide) (by decide), sm_small (by lia) (by lia), ?_⟩
      have e : (dueL (2 * h) f g)[o]? = some (16 * (innL (2 * h) f g o).sum) := by
        rw [dueL_eq]
        simp only [List.getElem?_map, List.getElem?_range ho, Option.map_some]
      refine hK _ _ ⟨o + 1, xs ++ [_], by lia, ?_, by rw [List.append_assoc]⟩
      rw [take_get e, List.map_append]; rfl
  · rintro acc σ' ⟨i, xs, hi, rfl, rfl⟩
    have : i = 2 * h := by lia
    subst this
    rw [List.take_of_length_le (by lia), List.append_assoc]
    refine hk (σ ++ xs).length (xs ++ [_]) (by simp) ?_
    rw [← List.append_assoc]
    exact List.getElem?_concat_length
/-! ### the lines' store grows -/
theorem lts {L : Lx} {ln : Int} {t : List Nat} {c : List V} (h : L.At ln t c σ) {r : Nat} (hr : σ.length ≤ r) : r ∉ Lx.ms L := by
  have := lt_of_get h.d; have := lt_of_get h.t; have := lt_of_get h.p
  exact nms (by lia) (by lia) (by lia)
theorem TL.add {ln1' ln2' : Int} {t1' t2' : List Nat} {c1' c2' : List V} {r : Nat} {o : O} (T : TL kp n L1 L2 ln1 t1 c1 ln2 t2 c2 σ) (T' : TL kp n L1 L2 ln1' t1' c1' ln2' t2' c2' σ') (hr : σ.length ≤ r) (h : σ'[r]? = some o) : TL ((r, o) :: kp) n L1 L2 ln1' t1' c1' ln2' t2' c2' σ' := by
  refine ⟨T'.a, T'.b, fun e he => ?_, fun e he => ?_, fun e he => ?_, T.u1, T.u2, T.u3, T.u4, T.v1, T.v2, T.v3, T.v4⟩
  all_goals rcases List.mem_cons.mp he with rfl | he
  · exact h
  · exact T'.ks e he
  · exact lts T.a hr
  · exact T.ka e he
  · exact lts T.b hr
  · exact T.kb e he
theorem check_spec {due : List Int} {rd : Nat} {T' : Bool → Sto → Prop} (T : TL kp n L1 L2 ln1 t1 (cs1.map .str) ln2 t2 c2 σ) (hrl : (rl, O.list [.obj L1.q, .obj L2.q]) ∈ kp) (hrd : (rd, O.list (due.map .int)) ∈ kp) (C : Cards due cs1) (hh : h = 1 ∨ h = 2) (hd : due.length = 2 * h) (bd : ∀ x ∈ due, Sz x)
    (hk : ∀ σ, TL kp n L1 L2 ln1 t1 [] ln2 t2 c2 σ → T' false σ) : (mean (conOf dfs (k + 4)) lt_law_12).t [x0, x1, x2, x3, some (.int (2 * (h : Int))), x5, x6, x7, some (.obj rl), x9, x10, x11, x12, some (.obj rd), x14] σ T' := by
  have eP : (2 * (h : Int)).toNat = 2 * h := by lia
  have fl : ∀ v ∈ due.map V.int, flatV v := fun v hv => by obtain ⟨i, _, rfl⟩ := List.mem_map.mp hv; trivial
  simp only [lt_law_12, t_bool, ts_or, ts_nil, bo_or, t_cmp, m_list, o_one, m_nil, m_var, List.getElem?_cons_succ, List.getElem?_cons_zero]
  rw [m_comp]
  try simp only [o_one, i_range, m_cons, m_nil, m_var, List.getElem?_cons_succ, List.getElem?_cons_zero, i_rng1]
  rw [eP]
  refine ⟨⟨by lia, by lia⟩, _, comp_rng (fun a acc σ' => Ex2 fun (i : Nat) (ds1 : List (List Nat)) => A4 (a = i) (acc = (due.take i).map .int) (Cards (due.drop i) ds1) (TL kp n L1 L2 ln1 t1 (ds1.map .str) ln2 t2 c2 σ')) (2 * h) ?_ ?_ ?_ (2 * h) 0 _ _ (by lia) ⟨0, cs1, rfl, by simp, C, T⟩⟩
  · rintro a acc σ' ⟨i, xs, rfl, rfl, _⟩
    refine fits_le ?_
    simp [hd]; lia
  · rintro a acc σ' K' ha ⟨i, ds1, rfl, rfl, D1, T1⟩ hK
    have hi : i < 2 * h := by lia
    obtain ⟨x, hx⟩ : ∃ x, due[i]? = some x := ⟨_, List.getElem?_eq_getElem (by lia)⟩
    have zx := bd _ (List.mem_of_getElem? hx)
    have l1 := D1.len
    rw [drop_get hx] at D1
    simp only [List.length_drop, hd] at l1
    match ds1, D1 with
    | ca :: r1, D1 =>
    obtain ⟨cca, D1⟩ := D1
    simp only [List.length_cons] at l1
    simp only [le_law_10, s_one, List.cons_append, List.nil_append, m_call, o_one, m_cons, m_nil, m_cm, m_idx, m_int, m_var, List.getElem?_cons_succ, List.getElem?_cons_zero, t_nil, reduceCtorEq, false_implies, forall_const, true_and]
    refine x_list (v := .obj L1.q) (T1.ks _ hrl) (fits_le (by simp)) (by decide) rfl ?_
    skip
    refine ⟨T1.a.qu.mget, get_spec shd (Q := L1.Qu) (v := .str ca) (pu := r1.map .str) T1.a.qu (fits_le (by simp; lia)) ?_⟩
    skip
    have T2 := T1.put1 (c1' := r1.map .str)
    refine num_spec cca (Nat.le_trans zx.len (by decide)) zx.sm fun xs => ?_
    skip
    have T3 := T2.app (xs := xs)
    refine hK _ _ ⟨i + 1, r1, by lia, ?_, D1, T3⟩
    rw [take_get hx, List.map_append]; rfl
  · rintro acc σ' ⟨i, ds1, hi, rfl, D1, T1⟩
    have : i = 2 * h := by lia
    subst this
    rw [List.drop_eq_nil_of_le (by lia)] at D1
    rw [List.take_of_length_le (by lia)]
    match ds1, D1 with
    | [], _ =>
    skip
    refine c_neSame (vs := due.map .int) List.getElem?_concat_length (Fr.app (m := []) _ _ List.not_mem_nil (T1.ks _ hrd)) fl ?_
    have T2 := T1.app (xs := [.list (due.map .int)])
    generalize σ' ++ [O.list (due.map .int)] = σ₂ at T2
    try simp only [reduceCtorEq, false_implies, forall_const, true_and]
    rw [m_comp]
    try simp only [o_one, i_var, m_var, List.getElem?_cons_succ, List.getElem?_cons_zero, i_lst (T2.ks _ hrd)]
    refine ⟨_, comp_lst (r := rd) (l := due.map .int) (fun i acc σ' => acc = [] ∧ TL kp n L1 L2 ln1 t1 [] ln2 t2 c2 σ') ?_ ?_ ?_ ?_ (due.map V.int).length 0 _ _ (by simp) ⟨rfl, T2⟩⟩
    · rintro i acc σ' ⟨rfl, _⟩
      exact fits_le (by simp)
    · rintro i acc σ' ⟨rfl, T3⟩
      exact T3.ks _ hrd
    · rintro i v acc σ' K' hv ⟨rfl, T3⟩ _ hK
      obtain ⟨x, hx, rfl⟩ : ∃ x, due[i]? = some x ∧ V.int x = v := by simpa using hv
      have zx := bd _ (List.mem_of_getElem? hx)
      simp only [le_law_11, s_one, List.cons_append, List.nil_append, m_var, List.getElem?_cons_succ, List.getElem?_cons_zero, o_one, m_not, t_isb, m_isb, u_bool, Bool.not_true, forall_const, reduceCtorEq, false_implies, and_true, m_call, m_cons, m_nil]
      refine int2ap_fn (Nat.le_trans zx.len (by decide)) fun xs => ?_
      skip
      exact hK _ ⟨rfl, T3.app⟩
    · rintro acc σ' ⟨rfl, T3⟩
      skip
      refine ⟨fits_le (by simp), ?_⟩
      try simp only [List.append_assoc, List.cons_append, List.nil_append, List.length_append, List.length_cons, List.length_nil, Nat.zero_add, Nat.add_assoc, Nat.reduceAdd]
      refine c_neSame (vs := []) (by rw [ag0]; rfl) (by rw [ag]; rfl) (fun v hv => by cases hv) ?_
      try simp only [reduceCtorEq, false_implies, forall_const, true_and]
      exact hk _ T3.app
end M02.Internal
end

section
set_option Elab.async false
set_option linter.all false
set_option maxRecDepth 10000
namespace M02.Internal
open PySem PySem.W MI.Internal

variable {k : Nat} {σ σ' : Sto} {kp : List (Nat × O)} {n : Nat} {L1 L2 : Lx} {ln1 ln2 : Int} {f g : List Int} {h rl rf rg : Nat} {m : Int} {x0 x1 x2 x3 x4 x5 x6 x7 x8 x9 x10 x11 x12 x13 x14 : Option V}
noncomputable def endL (J : List Nat) : List V := [.none, .str [], .str J, .str []]
/-- one line's end -/
theorem ends_one {L : Lx} {ln : Int} {J jt ws : List Nat} {w : Option Nat} {K : VK} (hL : L.At ln jt [] σ) (ht : Typed ws w J jt) (hJ : J ≠ []) (hl : jt.length ≤ 1000)
    (hk : ∀ ln' r σ', σ'[r]? = some (.list (endL J)) → σ.length ≤ r → L.At ln' [] [] σ' → Fr (Lx.ms L) σ σ' → K (.obj r) σ') :
    (mean (conOf dfs (k + 4)) le_law_14).v [x0, x1, x2, x3, x4, x5, x6, x7, x8, x9, x10, x11, x12, x13, x14, some (.obj L.q)] σ (one K) := by
  simp only [le_law_14, m_bin, o_one, m_list, m_cons, m_nil, m_cm, m_str, m_var, List.getElem?_cons_succ, List.getElem?_cons_zero]
  refine ⟨hL.qu.mput, put_spec shd (Q := L.Qu) hL.qu (fits_le (by simp)) ?_⟩
  skip
  have h1 : L.At ln jt [.str []] (σ.set L.p (.list [.str []])) := hL.setP
  have F1 : Fr (Lx.ms L) σ (σ.set L.p (.list [.str []])) := frP .set
  have e1 : (σ.set L.p (.list [.str []])).length = σ.length := List.length_set
  show Fits 1 ∧ _
  refine ⟨fits_le (by simp), ?_⟩
  show (mean _ _).v _ ((σ.set L.p (O.list [V.str []])) ++ [_]) _
  rw [show L.Qu.p = L.p from rfl, List.nil_append]
  generalize σ.set L.p (O.list [V.str []]) = σ₁ at h1 F1 e1
  have h2 : L.At ln jt [.str []] (σ₁ ++ [O.list [V.none]]) := h1.app
  have F2 : Fr (Lx.ms L) σ (σ₁ ++ [O.list [V.none]]) := F1.trans .app
  have g2 : (σ₁ ++ [O.list [V.none]])[σ₁.length]? = some (.list [.none]) := List.getElem?_concat_length
  have n2 : σ₁.length ∉ Lx.ms L := lts h1 (Nat.le_refl _)
  generalize σ₁ ++ [O.list [V.none]] = σ₂ at h2 F2 g2
  skip
  rw [m_comp]
  try simp only [o_one, i_range, m_cons, m_nil, m_int, i_rng1]
  refine ⟨⟨by decide, by decide⟩, _, comp_rng (fun a acc σ' => Fr (Lx.ms L) σ₂ σ' ∧ ((a = 0 ∧ acc = [] ∧ L.At ln jt [.str []] σ') ∨ (a = 1 ∧ acc = [.str []] ∧ L.At ln jt [] σ') ∨ (a = 2 ∧ acc = [.str [], .str J] ∧ ∃ ln', L.At ln' [] [] σ') ∨ (a = 3 ∧ acc = [.str [], .str J, .str []] ∧ ∃ ln', L.At ln' [] [] σ'))) 3 ?_ ?_ ?_ 3 0 _ _ (by decide) ⟨.refl, .inl ⟨rfl, rfl, h2⟩⟩⟩
  · rintro a acc σ' ⟨_, ⟨_, rfl, _⟩ | ⟨_, rfl, _⟩ | ⟨_, rfl, _⟩ | ⟨_, rfl, _⟩⟩ <;> exact fits_le (by simp)
  · rintro a acc σ' K' ha ⟨F, ⟨rfl, rfl, hA⟩ | ⟨rfl, rfl, hA⟩ | ⟨rfl, rfl, ln', hA⟩ | ⟨rfl, rfl, _⟩⟩ hK
    · simp only [le_law_13, s_one, List.cons_append, List.nil_append, m_cm, o_one, m_nil, m_var, List.getElem?_cons_succ, List.getElem?_cons_zero, t_nil, reduceCtorEq, false_implies, forall_const, true_and]
      refine ⟨hA.qu.mget, get_spec shd (Q := L.Qu) (v := .str []) (pu := []) hA.qu (fits_le (by simp)) ?_⟩
      skip
      exact hK _ _ ⟨F.trans (frP .set), .inr (.inl ⟨rfl, rfl, hA.setP⟩)⟩
    · simp only [le_law_13, s_one, List.cons_append, List.nil_append, m_cm, o_one, m_nil, m_var, List.getElem?_cons_succ, List.getElem?_cons_zero, t_nil, reduceCtorEq, false_implies, forall_const, true_and]
      have hA' : L.At ln (jt ++ []) [] σ' := by rw [List.append_nil]; exact hA
      refine ⟨hA.qu.mget, get_typed shd ht hJ hA' (fits_le (by simp; lia)) fun σ'' hA'' F' => ?_⟩
      skip
      exact hK _ _ ⟨F.trans (frM F'), .inr (.inr (.inl ⟨rfl, rfl, _, hA''⟩))⟩
    · simp only [le_law_13, s_one, List.cons_append, List.nil_append, m_cm, o_one, m_nil, m_var, List.getElem?_cons_succ, List.getElem?_cons_zero, t_nil, reduceCtorEq, false_implies, forall_const, true_and]
      refine ⟨hA.qu.mget, get_end shd hA fun σ'' hA'' F' => ?_⟩
      skip
      exact hK _ _ ⟨F.trans (frM F'), .inr (.inr (.inr ⟨rfl, rfl, _, hA''⟩))⟩
    · lia
  · rintro acc σ' ⟨F, ⟨q, _⟩ | ⟨q, _⟩ | ⟨q, _⟩ | ⟨_, rfl, ln', hA⟩⟩
    · exact absurd q (by decide)
    · exact absurd q (by decide)
    · exact absurd q (by decide)
    skip
    rw [v_addL (Fr.app (m := []) _ _ List.not_mem_nil (F _ _ n2 g2)) List.getElem?_concat_length]
    refine ⟨fits_le (by simp), ?_⟩
    refine hk ln' _ _ List.getElem?_concat_length ?_ hA.app.app (((F2.trans F).trans .app).trans .app)
    have l2 := lt_of_get (F _ _ n2 g2)
    rw [List.length_append]
    lia
theorem s_two {ct : Lv → Sto → (Bool → Sto → Prop) → Prop} {ev : Lv → Sto → LK → Prop} {ρ : Lv} {v : V} {K : Option V → Sto → Prop} : stepC ct ev 2 ρ v σ K = bindV 2 v σ fun xs σ => ct (ρ ++ xs.map some) σ fun b σ => (b = false → K none σ) ∧ (b = true → ev (ρ ++ xs.map some) σ (one fun x σ => K (some x) σ)) := rfl
/-- both lines' ends -/
theorem ends_spec {J1 jt1 ws1 J2 jt2 ws2 : List Nat} {w1 w2 : Option Nat} {rp p1 p2 : Nat} {K : FK} (T : TL kp n L1 L2 ln1 jt1 [] ln2 jt2 [] σ) (ht1 : Typed ws1 w1 J1 jt1) (hJ1 : J1 ≠ []) (hl1 : jt1.length ≤ 1000) (ht2 : Typed ws2 w2 J2 jt2) (hJ2 : J2 ≠ []) (hl2 : jt2.length ≤ 1000)
    (hrl : (rl, O.list [.obj L1.q, .obj L2.q]) ∈ kp) (hrp : (rp, O.list [.obj p1, .obj p2]) ∈ kp) (hp1 : (p1, O.tup [.obj L1.q, .str J1]) ∈ kp) (hp2 : (p2, O.tup [.obj L2.q, .str J2]) ∈ kp)
    (hc1 : ∀ c ∈ J1, c < 0x110000) (hc2 : ∀ c ∈ J2, c < 0x110000)
    (hk : ∀ ρ σ, (∀ e ∈ kp, σ[e.1]? = some e.2) → K (.ret (.bool true)) ρ σ) :
    wS (conOf dfs (k + 4)) (.cons (.asg 14 (.comp le_law_14 1 (.var 8) .nil)) (.cons (.ret (.cmp .Eq (.var 14) (.comp le_law_15 2 (.var 7) .nil))) .nil)) [x0, x1, x2, x3, x4, x5, x6, some (.obj rp), some (.obj rl), x9, x10, x11, x12, x13, x14] σ K := by
  try simp only [w_cons, w_nil, w_ret, m_cmp, o_one, m_var, w_asg, List.set_cons_succ, List.set_cons_zero, List.getElem?_cons_succ, List.getElem?_cons_zero]
  rw [m_comp]
  try simp only [o_one, i_var, m_var, List.getElem?_cons_succ, List.getElem?_cons_zero, i_lst (T.ks _ hrl)]
  refine ⟨_, comp_lst (r := rl) (l := [.obj L1.q, .obj L2.q]) (fun i acc σ' => (i = 0 ∧ acc = [] ∧ TL kp n L1 L2 ln1 jt1 [] ln2 jt2 [] σ') ∨ (i = 1 ∧ Ex2 fun r1 ln1' => acc = [.obj r1] ∧ TL ((r1, .list (endL J1)) :: kp) n L1 L2 ln1' [] [] ln2 jt2 [] σ') ∨
    (i = 2 ∧ Ex4 fun r1 r2 ln1' ln2' => acc = [.obj r1, .obj r2] ∧ TL ((r2, .list (endL J2)) :: (r1, .list (endL J1)) :: kp) n L1 L2 ln1' [] [] ln2' [] [] σ')) ?_ ?_ ?_ ?_ 2 0 _ _ rfl (.inl ⟨rfl, rfl, T⟩)⟩
  · rintro i acc σ' (⟨_, rfl, _⟩ | ⟨_, r1, _, rfl, _⟩ | ⟨_, r1, r2, _, _, rfl, _⟩) <;> exact fits_le (by simp)
  · rintro i acc σ' (⟨_, rfl, T'⟩ | ⟨_, r1, _, rfl, T'⟩ | ⟨_, r1, r2, _, _, rfl, T'⟩)
    · exact T'.ks _ hrl
    · exact T'.ks _ (.tail _ hrl)
    · exact T'.ks _ (.tail _ (.tail _ hrl))
  · rintro i v acc σ' K' hv (⟨rfl, rfl, T'⟩ | ⟨rfl, r1, ln1', rfl, T'⟩ | ⟨rfl, r1, r2, _, _, rfl, T'⟩) hK _
    · cases hv
      rw [s_one]
      try simp only [List.cons_append, List.nil_append, t_nil, reduceCtorEq, false_implies, forall_const, true_and]
      refine ends_one T'.a ht1 hJ1 hl1 fun ln' r σ'' hr lr hA F => ?_
      have T'' := T'.one F hA
      exact hK _ _ (.inr (.inl ⟨rfl, r, ln', rfl, T'.add T'' lr hr⟩))
    · cases hv
      rw [s_one]
      try simp only [List.cons_append, List.nil_append, t_nil, reduceCtorEq, false_implies, forall_const, true_and]
      refine ends_one T'.b ht2 hJ2 hl2 fun ln' r σ'' hr lr hA F => ?_
      have T'' := T'.two F hA
      exact hK _ _ (.inr (.inr ⟨rfl, r1, r, ln1', ln', rfl, T'.add T'' lr hr⟩))
    · cases hv
  rintro acc σ' (⟨q, _⟩ | ⟨q, _⟩ | ⟨_, r1, r2, ln1', ln2', rfl, T1⟩)
  · cases q
  · cases q
  skip
  have T2 := T1.add (T1.app (xs := [.list [.obj r1, .obj r2]])) (Nat.le_refl _) List.getElem?_concat_length
  skip
  rw [m_comp]
  have g7 := T2.ks _ (.tail _ (.tail _ (.tail _ hrp)))
  generalize σ'.length = re at T2 ⊢
  generalize σ' ++ [O.list [V.obj r1, V.obj r2]] = σ₂ at T2 g7
  try simp only [o_one, i_var, m_var, List.getElem?_cons_succ, List.getElem?_cons_zero, i_lst g7]
  refine ⟨_, comp_lst (r := rp) (l := [.obj p1, .obj p2]) (fun i acc σ' => (i = 0 ∧ acc = [] ∧ σ' = σ₂) ∨ (i = 1 ∧ acc = [.obj σ₂.length] ∧ σ' = σ₂ ++ [.list (endL J1)]) ∨
    (i = 2 ∧ acc = [.obj σ₂.length, .obj (σ₂.length + 1)] ∧ σ' = σ₂ ++ [.list (endL J1), .list (endL J2)])) ?_ ?_ ?_ ?_ 2 0 _ _ rfl (.inl ⟨rfl, rfl, rfl⟩)⟩
  · rintro i acc σ' (⟨_, rfl, _⟩ | ⟨_, rfl, _⟩ | ⟨_, rfl, _⟩) <;> exact fits_le (by simp)
  · rintro i acc σ' (⟨_, rfl, rfl⟩ | ⟨_, rfl, rfl⟩ | ⟨_, rfl, rfl⟩)
    · exact g7
    · exact Fr.app (m := []) _ _ List.not_mem_nil g7
    · exact Fr.app (m := []) _ _ List.not_mem_nil g7
  · rintro i v acc σ' K' hv (⟨rfl, rfl, rfl⟩ | ⟨rfl, rfl, rfl⟩ | ⟨rfl, rfl, rfl⟩) hK _
    · cases hv
      rw [s_two, b_bindT (by decide) (T2.ks _ (.tail _ (.tail _ (.tail _ hp1))))]
      refine ⟨rfl, ?_⟩
      simp only [List.map_cons, List.map_nil, List.cons_append, List.nil_append, le_law_15, m_list, o_one, m_cons, m_nil, m_str, m_var, List.getElem?_cons_succ, List.getElem?_cons_zero, m_none, t_nil, reduceCtorEq, false_implies, forall_const, true_and]
      refine ⟨fits_le (by simp), ?_⟩
      exact hK _ _ (.inr (.inl ⟨rfl, rfl, rfl⟩))
    · cases hv
      rw [s_two, b_bindT (by decide) (Fr.app (m := []) _ _ List.not_mem_nil (T2.ks _ (.tail _ (.tail _ (.tail _ hp2)))))]
      refine ⟨rfl, ?_⟩
      simp only [List.map_cons, List.map_nil, List.cons_append, List.nil_append, le_law_15, m_list, o_one, m_cons, m_nil, m_str, m_var, List.getElem?_cons_succ, List.getElem?_cons_zero, m_none, t_nil, reduceCtorEq, false_implies, forall_const, true_and]
      refine ⟨fits_le (by simp), ?_⟩
      exact hK _ _ (.inr (.inr ⟨rfl, by simp, by simp; rfl⟩))
    · cases hv
  rintro acc σ' (⟨q, _⟩ | ⟨q, _⟩ | ⟨_, rfl, rfl⟩)
  · cases q
  · cases q
  try simp only [List.append_assoc, List.cons_append, List.nil_append, List.length_append, List.length_cons, List.length_nil, Nat.zero_add, Nat.add_assoc, Nat.reduceAdd]
  have T3 := T2.app (xs := [O.list (endL J1), O.list (endL J2), O.list [V.obj σ₂.length, V.obj (σ₂.length + 1)]])
  refine c_eqNest (as := [r1, r2]) (bs := [σ₂.length, σ₂.length + 1]) (ls := [endL J1, endL J2]) (T3.ks _ (.head _)) (by rw [ag]; rfl) rfl rfl ?_ ?_ ?_ ?_
  · intro i a l ha hl
    match i, ha, hl with
    | 0, ha, hl => cases ha; cases hl; exact T3.ks _ (.tail _ (.tail _ (.head _)))
    | 1, ha, hl => cases ha; cases hl; exact T3.ks _ (.tail _ (.head _))
    | i + 2, ha, hl => simp at ha
  · intro i a l ha hl
    match i, ha, hl with
    | 0, ha, hl => cases ha; cases hl; rw [ag0]; rfl
    | 1, ha, hl => cases ha; cases hl; rw [ag]; rfl
    | i + 2, ha, hl => simp at ha
  · intro l hl v hv
    simp only [List.mem_cons, List.not_mem_nil, or_false] at hl
    rcases hl with rfl | rfl <;> (simp only [endL, List.mem_cons, List.not_mem_nil, or_false] at hv; rcases hv with rfl | rfl | rfl | rfl <;> first | exact hc1 | exact hc2 | exact trivial | exact fun _ q => nomatch q)
  skip
  exact hk _ _ fun e he => T3.ks e (.tail _ (.tail _ (.tail _ he)))
end M02.Internal
end

section
set_option Elab.async false
set_option linter.all false
set_option maxRecDepth 10000
namespace M02.Internal
open PySem PySem.W MI.Internal

variable {k : Nat} {σ σ' : Sto} {kp : List (Nat × O)} {n : Nat} {L1 L2 : Lx} {ln1 ln2 : Int} {f g : List Int} {h rl rf rg rc : Nat} {m : Int} {x0 x1 x2 x3 x4 x5 x6 x7 x8 x9 x10 x11 x12 x13 x14 : Option V}
noncomputable def rowL (cs : List Int) (h q : Nat) : List Int := ((cs.drop q).take (2 * h)).map fun x => x % 511 - 255
theorem rowL_len {cs : List Int} {q : Nat} (hc : cs.length = 8) (hh : h = 1 ∨ h = 2) (hq : q = 0 ∨ q = 4) : (rowL cs h q).length = 2 * h := by
  simp [rowL, hc]; lia
theorem rowL_bd {cs : List Int} {q : Nat} : ∀ x ∈ rowL cs h q, Bd 255 x := by
  intro x hx
  obtain ⟨y, _, rfl⟩ := List.mem_map.mp hx
  exact ⟨by lia, by lia⟩
theorem b_bindS {σ : Sto} {n r : Nat} {vs : List V} {L : List V → Sto → Prop} (hn : n ≠ 1) (h : σ[r]? = some (.list vs)) : bindV n (.obj r) σ L = (vs.length = n ∧ L vs σ) := by
  unfold bindV; split
  · exact absurd rfl hn
  · simp only [h]
theorem slice8 {cs : List Int} {q : Nat} (hc : cs.length = 8) (hh : h = 1 ∨ h = 2) (hq : q = 0 ∨ q = 4) : clipAt 8 (q : Int) = q ∧ clipAt 8 ((q : Int) + 2 * (h : Int)) = q + 2 * h := by
  rcases hh with rfl | rfl <;> rcases hq with rfl | rfl <;> decide
theorem row_spec {Φ : Con} {cs : List Int} {q : Nat} {K : VK} (hc : cs.length = 8) (hh : h = 1 ∨ h = 2) (hq : q = 0 ∨ q = 4) (gc : σ[rc]? = some (.list (cs.map .int)))
    (hk : ∀ r xs, σ.length ≤ r → (σ ++ xs)[r]? = some (.list ((rowL cs h q).map .int)) → K (.obj r) (σ ++ xs)) :
    (mean Φ le_law_2).v [x0, some (.obj rc), x2, x3, some (.int (2 * (h : Int))), x5, x6, x7, x8, x9, x10, x11, x12, x13, x14, some (.int q)] σ (one K) := by
  obtain ⟨e1, e2⟩ := slice8 (h := h) (q := q) hc hh hq
  unfold le_law_2
  ((skip); repeat ((first | (with_reducible show wS _ ir_law_t10 _ _ _; unfold ir_law_t10) | (with_reducible show wS _ ir_law_t11 _ _ _; unfold ir_law_t11) | (with_reducible show wS _ ir_law_t12 _ _ _; unfold ir_law_t12) | (with_reducible show wS _ ir_law_t13 _ _ _; unfold ir_law_t13) | (with_reducible show wS _ ir_law_t14 _ _ _; unfold ir_law_t14) | (with_reducible show wS _ ir_law_t15 _ _ _; unfold ir_law_t15) | (with_reducible show wS _ ir_law_t2 _ _ _; unfold ir_law_t2) | (with_reducible show wS _ ir_law_t3 _ _ _; unfold ir_law_t3) | (with_reducible show wS _ ir_law_t4 _ _ _; unfold ir_law_t4) | (with_reducible show wS _ ir_law_t5 _ _ _; unfold ir_law_t5) | (with_reducible show wS _ ir_law_t6 _ _ _; unfold ir_law_t6) | (with_reducible show wS _ ir_law_t7 _ _ _; unfold ir_law_t7) | (with_reducible show wS _ ir_law_t8 _ _ _; unfold ir_law_t8) | (with_reducible show wS _ ir_law_t9 _ _ _; unfold ir_law_t9) | (with_reducible show wS _ lb_law_6_t2 _ _ _; unfold lb_law_6_t2)); (skip)))
  rw [m_comp]
  ((try simp only [o_one, i_slice, m_slice, m_bin, m_var, List.getElem?_cons_succ, List.getElem?_cons_zero, v_add]); repeat ((first | (with_reducible show wS _ ir_law_t10 _ _ _; unfold ir_law_t10) | (with_reducible show wS _ ir_law_t11 _ _ _; unfold ir_law_t11) | (with_reducible show wS _ ir_law_t12 _ _ _; unfold ir_law_t12) | (with_reducible show wS _ ir_law_t13 _ _ _; unfold ir_law_t13) | (with_reducible show wS _ ir_law_t14 _ _ _; unfold ir_law_t14) | (with_reducible show wS _ ir_law_t15 _ _ _; unfold ir_law_t15) | (with_reducible show wS _ ir_law_t2 _ _ _; unfold ir_law_t2) | (with_reducible show wS _ ir_law_t3 _ _ _; unfold ir_law_t3) | (with_reducible show wS _ ir_law_t4 _ _ _; unfold ir_law_t4) | (with_reducible show wS _ ir_law_t5 _ _ _; unfold ir_law_t5) | (with_reducible show wS _ ir_law_t6 _ _ _; unfold ir_law_t6) | (with_reducible show wS _ ir_law_t7 _ _ _; unfold ir_law_t7) | (with_reducible show wS _ ir_law_t8 _ _ _; unfold ir_law_t8) | (with_reducible show wS _ ir_law_t9 _ _ _; unfold ir_law_t9) | (with_reducible show wS _ lb_law_6_t2 _ _ _; unfold lb_law_6_t2)); (skip)))
  have lc : (cs.map V.int).length = 8 := by rw [List.length_map]; exact hc
  show sliceS _ _ _ _ _
  simp only [sliceS, gc]
  refine ⟨q, q + 2 * h, fits_le (by rw [lc]; decide), by rw [lc]; simp only [cut, e1], by rw [lc]; simp only [cut, e2], ?_⟩
  rw [i_lst List.getElem?_concat_length]
  have es : ((cs.map V.int).take (q + 2 * h)).drop q = ((cs.drop q).take (2 * h)).map .int := by
    rw [List.map_take, List.map_drop, List.drop_take, Nat.add_sub_cancel_left]
  rw [es]
  have ld : ((cs.drop q).take (2 * h)).length = 2 * h := by simp [hc]; lia
  refine ⟨_, comp_lst (r := σ.length) (l := ((cs.drop q).take (2 * h)).map .int) (fun i acc σ' => acc = ((rowL cs h q).take i).map .int ∧ σ' = σ ++ [.list (((cs.drop q).take (2 * h)).map .int)]) ?_ ?_ ?_ ?_ (2 * h) 0 _ _ (by rw [List.length_map, ld]; lia) ⟨by simp, rfl⟩⟩
  · rintro i acc σ' ⟨rfl, _⟩
    refine fits_le ?_
    have := rowL_len (h := h) hc hh hq
    simp; lia
  · rintro i acc σ' ⟨_, rfl⟩
    exact List.getElem?_concat_length
  · rintro i v acc σ' K' hv ⟨rfl, rfl⟩ hK _
    obtain ⟨x, hx, rfl⟩ : ∃ x, ((cs.drop q).take (2 * h))[i]? = some x ∧ V.int x = v := by rw [List.getElem?_map, Option.map_eq_some_iff] at hv; exact hv
    ((try simp only [le_law_1, s_one, List.cons_append, List.nil_append, m_bin, o_one, m_int, m_var, List.getElem?_cons_succ, List.getElem?_cons_zero, v_mod, v_sub, t_nil, reduceCtorEq, false_implies, forall_const, true_and]); repeat ((first | (with_reducible show wS _ ir_law_t10 _ _ _; unfold ir_law_t10) | (with_reducible show wS _ ir_law_t11 _ _ _; unfold ir_law_t11) | (with_reducible show wS _ ir_law_t12 _ _ _; unfold ir_law_t12) | (with_reducible show wS _ ir_law_t13 _ _ _; unfold ir_law_t13) | (with_reducible show wS _ ir_law_t14 _ _ _; unfold ir_law_t14) | (with_reducible show wS _ ir_law_t15 _ _ _; unfold ir_law_t15) | (with_reducible show wS _ ir_law_t2 _ _ _; unfold ir_law_t2) | (with_reducible show wS _ ir_law_t3 _ _ _; unfold ir_law_t3) | (with_reducible show wS _ ir_law_t4 _ _ _; unfold ir_law_t4) | (with_reducible show wS _ ir_law_t5 _ _ _; unfold ir_law_t5) | (with_reducible show wS _ ir_law_t6 _ _ _; unfold ir_law_t6) | (with_reducible show wS _ ir_law_t7 _ _ _; unfold ir_law_t7) | (with_reducible show wS _ ir_law_t8 _ _ _; unfold ir_law_t8) | (with_reducible show wS _ ir_law_t9 _ _ _; unfold ir_law_t9) | (with_reducible show wS _ lb_law_6_t2 _ _ _; unfold lb_law_6_t2)); (skip)))
    refine ⟨by decide, hK _ _ ⟨?_, rfl⟩⟩
    have e : (rowL cs h q)[i]? = some (x % 511 - 255) := by
      unfold rowL
      rw [List.getElem?_map, hx]; rfl
    rw [take_get e, List.map_append]; rfl
  · rintro acc σ' ⟨rfl, rfl⟩
    have et : (rowL cs h q).take (2 * h) = rowL cs h q := List.take_of_length_le (by rw [rowL_len hc hh hq]; lia)
    rw [List.length_map, ld, et]
    try simp only [List.append_assoc, List.cons_append, List.nil_append, List.length_append, List.length_cons, List.length_nil, Nat.zero_add, Nat.add_assoc, Nat.reduceAdd]
    exact hk (σ.length + 1) _ (by lia) (by rw [ag]; rfl)
/-- the two rows -/
theorem rows_spec {Φ : Con} {cs : List Int} {K : FK} (hc : cs.length = 8) (hh : h = 1 ∨ h = 2) (gc : σ[rc]? = some (.list (cs.map .int)))
    (hk : ∀ r5 r6 xs, σ.length ≤ r5 → σ.length ≤ r6 → (σ ++ xs)[r5]? = some (.list ((rowL cs h 0).map .int)) → (σ ++ xs)[r6]? = some (.list ((rowL cs h 4).map .int)) →
      K .next [x0, some (.obj rc), x2, x3, some (.int (2 * (h : Int))), some (.obj r5), some (.obj r6), x7, x8, x9, x10, x11, x12, x13, x14] (σ ++ xs)) :
    wS Φ (.asgT [5, 6] (.comp le_law_2 1 (.list (.cons (.int 0) (.cons (.int 4) .nil))) .nil)) [x0, some (.obj rc), x2, x3, some (.int (2 * (h : Int))), x5, x6, x7, x8, x9, x10, x11, x12, x13, x14] σ K := by
  rw [w_asgT, m_comp]
  ((try simp only [o_one, i_list, m_list, m_cons, m_nil, m_int]); repeat ((first | (with_reducible show wS _ ir_law_t10 _ _ _; unfold ir_law_t10) | (with_reducible show wS _ ir_law_t11 _ _ _; unfold ir_law_t11) | (with_reducible show wS _ ir_law_t12 _ _ _; unfold ir_law_t12) | (with_reducible show wS _ ir_law_t13 _ _ _; unfold ir_law_t13) | (with_reducible show wS _ ir_law_t14 _ _ _; unfold ir_law_t14) | (with_reducible show wS _ ir_law_t15 _ _ _; unfold ir_law_t15) | (with_reducible show wS _ ir_law_t2 _ _ _; unfold ir_law_t2) | (with_reducible show wS _ ir_law_t3 _ _ _; unfold ir_law_t3) | (with_reducible show wS _ ir_law_t4 _ _ _; unfold ir_law_t4) | (with_reducible show wS _ ir_law_t5 _ _ _; unfold ir_law_t5) | (with_reducible show wS _ ir_law_t6 _ _ _; unfold ir_law_t6) | (with_reducible show wS _ ir_law_t7 _ _ _; unfold ir_law_t7) | (with_reducible show wS _ ir_law_t8 _ _ _; unfold ir_law_t8) | (with_reducible show wS _ ir_law_t9 _ _ _; unfold ir_law_t9) | (with_reducible show wS _ lb_law_6_t2 _ _ _; unfold lb_law_6_t2)); (skip)))
  refine ⟨fits_le (by simp), ?_⟩
  rw [i_lst List.getElem?_concat_length]
  refine ⟨_, comp_lst (r := σ.length) (l := [.int 0, .int 4]) (fun i acc σ' => ∃ xs, σ' = σ ++ O.list [.int 0, .int 4] :: xs ∧ ((i = 0 ∧ acc = []) ∨ (i = 1 ∧ ∃ r5, A3 (acc = [.obj r5]) (σ.length ≤ r5) (σ'[r5]? = some (.list ((rowL cs h 0).map .int)))) ∨
    (i = 2 ∧ Ex2 fun r5 r6 => A5 (acc = [.obj r5, .obj r6]) (σ.length ≤ r5) (σ.length ≤ r6) (σ'[r5]? = some (.list ((rowL cs h 0).map .int))) (σ'[r6]? = some (.list ((rowL cs h 4).map .int)))))) ?_ ?_ ?_ ?_ 2 0 _ _ rfl ⟨[], rfl, .inl ⟨rfl, rfl⟩⟩⟩
  · rintro i acc σ' ⟨xs, rfl, ⟨_, rfl⟩ | ⟨_, r5, rfl, _⟩ | ⟨_, r5, r6, rfl, _⟩⟩ <;> exact fits_le (by simp)
  · rintro i acc σ' ⟨xs, rfl, _⟩
    rw [ag0]; rfl
  · rintro i v acc σ' K' hv ⟨xs, rfl, ⟨rfl, rfl⟩ | ⟨rfl, r5, rfl, l5, g5⟩ | ⟨rfl, r5, r6, rfl, _⟩⟩ hK _
    · cases hv
      rw [s_one]
      ((try simp only [List.cons_append, List.nil_append, t_nil, reduceCtorEq, false_implies, forall_const, true_and]); repeat ((first | (with_reducible show wS _ ir_law_t10 _ _ _; unfold ir_law_t10) | (with_reducible show wS _ ir_law_t11 _ _ _; unfold ir_law_t11) | (with_reducible show wS _ ir_law_t12 _ _ _; unfold ir_law_t12) | (with_reducible show wS _ ir_law_t13 _ _ _; unfold ir_law_t13) | (with_reducible show wS _ ir_law_t14 _ _ _; unfold ir_law_t14) | (with_reducible show wS _ ir_law_t15 _ _ _; unfold ir_law_t15) | (with_reducible show wS _ ir_law_t2 _ _ _; unfold ir_law_t2) | (with_reducible show wS _ ir_law_t3 _ _ _; unfold ir_law_t3) | (with_reducible show wS _ ir_law_t4 _ _ _; unfold ir_law_t4) | (with_reducible show wS _ ir_law_t5 _ _ _; unfold ir_law_t5) | (with_reducible show wS _ ir_law_t6 _ _ _; unfold ir_law_t6) | (with_reducible show wS _ ir_law_t7 _ _ _; unfold ir_law_t7) | (with_reducible show wS _ ir_law_t8 _ _ _; unfold ir_law_t8) | (with_reducible show wS _ ir_law_t9 _ _ _; unfold ir_law_t9) | (with_reducible show wS _ lb_law_6_t2 _ _ _; unfold lb_law_6_t2)); (skip)))
      refine row_spec (q := 0) hc hh (.inl rfl) (Fr.app (m := []) _ _ List.not_mem_nil gc) fun r ys hr g5 => ?_
      refine hK _ _ ⟨xs ++ ys, by simp, .inr (.inl ⟨rfl, r, rfl, ?_, g5⟩)⟩
      rw [List.length_append] at hr; lia
    · cases hv
      rw [s_one]
      ((try simp only [List.cons_append, List.nil_append, t_nil, reduceCtorEq, false_implies, forall_const, true_and]); repeat ((first | (with_reducible show wS _ ir_law_t10 _ _ _; unfold ir_law_t10) | (with_reducible show wS _ ir_law_t11 _ _ _; unfold ir_law_t11) | (with_reducible show wS _ ir_law_t12 _ _ _; unfold ir_law_t12) | (with_reducible show wS _ ir_law_t13 _ _ _; unfold ir_law_t13) | (with_reducible show wS _ ir_law_t14 _ _ _; unfold ir_law_t14) | (with_reducible show wS _ ir_law_t15 _ _ _; unfold ir_law_t15) | (with_reducible show wS _ ir_law_t2 _ _ _; unfold ir_law_t2) | (with_reducible show wS _ ir_law_t3 _ _ _; unfold ir_law_t3) | (with_reducible show wS _ ir_law_t4 _ _ _; unfold ir_law_t4) | (with_reducible show wS _ ir_law_t5 _ _ _; unfold ir_law_t5) | (with_reducible show wS _ ir_law_t6 _ _ _; unfold ir_law_t6) | (with_reducible show wS _ ir_law_t7 _ _ _; unfold ir_law_t7) | (with_reducible show wS _ ir_law_t8 _ _ _; unfold ir_law_t8) | (with_reducible show wS _ ir_law_t9 _ _ _; unfold ir_law_t9) | (with_reducible show wS _ lb_law_6_t2 _ _ _; unfold lb_law_6_t2)); (skip)))
      refine row_spec (q := 4) hc hh (.inr rfl) (Fr.app (m := []) _ _ List.not_mem_nil gc) fun r ys hr g6 => ?_
      refine hK _ _ ⟨xs ++ ys, by simp, .inr (.inr ⟨rfl, r5, r, rfl, l5, ?_, Fr.app (m := []) _ _ List.not_mem_nil g5, g6⟩)⟩
      rw [List.length_append] at hr; lia
    · cases hv
  rintro acc σ' ⟨xs, rfl, ⟨q, _⟩ | ⟨q, _⟩ | ⟨_, r5, r6, rfl, l5, l6, g5, g6⟩⟩
  · cases q
  · cases q
  ((skip); repeat ((first | (with_reducible show wS _ ir_law_t10 _ _ _; unfold ir_law_t10) | (with_reducible show wS _ ir_law_t11 _ _ _; unfold ir_law_t11) | (with_reducible show wS _ ir_law_t12 _ _ _; unfold ir_law_t12) | (with_reducible show wS _ ir_law_t13 _ _ _; unfold ir_law_t13) | (with_reducible show wS _ ir_law_t14 _ _ _; unfold ir_law_t14) | (with_reducible show wS _ ir_law_t15 _ _ _; unfold ir_law_t15) | (with_reducible show wS _ ir_law_t2 _ _ _; unfold ir_law_t2) | (with_reducible show wS _ ir_law_t3 _ _ _; unfold ir_law_t3) | (with_reducible show wS _ ir_law_t4 _ _ _; unfold ir_law_t4) | (with_reducible show wS _ ir_law_t5 _ _ _; unfold ir_law_t5) | (with_reducible show wS _ ir_law_t6 _ _ _; unfold ir_law_t6) | (with_reducible show wS _ ir_law_t7 _ _ _; unfold ir_law_t7) | (with_reducible show wS _ ir_law_t8 _ _ _; unfold ir_law_t8) | (with_reducible show wS _ ir_law_t9 _ _ _; unfold ir_law_t9) | (with_reducible show wS _ lb_law_6_t2 _ _ _; unfold lb_law_6_t2)); (skip)))
  show bindV 2 _ _ _
  rw [b_bindS (by decide) List.getElem?_concat_length]
  refine ⟨rfl, ?_⟩
  ((try simp only [setsL, List.set_cons_succ, List.set_cons_zero]); repeat ((first | (with_reducible show wS _ ir_law_t10 _ _ _; unfold ir_law_t10) | (with_reducible show wS _ ir_law_t11 _ _ _; unfold ir_law_t11) | (with_reducible show wS _ ir_law_t12 _ _ _; unfold ir_law_t12) | (with_reducible show wS _ ir_law_t13 _ _ _; unfold ir_law_t13) | (with_reducible show wS _ ir_law_t14 _ _ _; unfold ir_law_t14) | (with_reducible show wS _ ir_law_t15 _ _ _; unfold ir_law_t15) | (with_reducible show wS _ ir_law_t2 _ _ _; unfold ir_law_t2) | (with_reducible show wS _ ir_law_t3 _ _ _; unfold ir_law_t3) | (with_reducible show wS _ ir_law_t4 _ _ _; unfold ir_law_t4) | (with_reducible show wS _ ir_law_t5 _ _ _; unfold ir_law_t5) | (with_reducible show wS _ ir_law_t6 _ _ _; unfold ir_law_t6) | (with_reducible show wS _ ir_law_t7 _ _ _; unfold ir_law_t7) | (with_reducible show wS _ ir_law_t8 _ _ _; unfold ir_law_t8) | (with_reducible show wS _ ir_law_t9 _ _ _; unfold ir_law_t9) | (with_reducible show wS _ lb_law_6_t2 _ _ _; unfold lb_law_6_t2)); (skip)))
  have e : (σ ++ O.list [V.int 0, V.int 4] :: xs) ++ [O.list [V.obj r5, V.obj r6]] = σ ++ (O.list [V.int 0, V.int 4] :: xs ++ [O.list [V.obj r5, V.obj r6]]) := List.append_assoc _ _ _
  have g5' := Fr.app (xs := [O.list [V.obj r5, V.obj r6]]) (m := []) _ _ List.not_mem_nil g5
  have g6' := Fr.app (xs := [O.list [V.obj r5, V.obj r6]]) (m := []) _ _ List.not_mem_nil g6
  rw [e] at g5' g6' ⊢
  exact hk r5 r6 _ l5 l6 g5' g6'
noncomputable def law_rows : S := (.asgT [5, 6] (.comp le_law_2 1 (.list (.cons (.int 0) (.cons (.int 4) .nil))) .nil))
noncomputable def law_tail : S := (.cons (.asg 14 (.comp le_law_14 1 (.var 8) .nil)) (.cons (.ret (.cmp .Eq (.var 14) (.comp le_law_15 2 (.var 7) .nil))) .nil))
theorem ir_law_eq : ir_law = (.cons (.asg 1 (.call 2 (.cons (.var 0) .nil))) (.cons (.asg 2 (.bcall .sum (.cons (.var 1) .nil))) (.cons (.asg 3 (.bin .Sub (.int 2) (.bin .Mod (.var 2) (.int 2)))) (.cons (.asg 4 (.bin .Pow (.int 2) (.var 3))) (.cons law_rows (.cons (.asg 7 (.list (.cons (.call 13 (.cons (.var 5) (.cons (.var 2) .nil))) (.cons (.call 13 (.cons (.var 6) (.cons (.bin .FloorDiv (.var 2) (.int 7)) .nil))) .nil)))) (.cons (.asg 8 (.comp le_law_3 2 (.var 7) (.cmp .IsNot (.var 15) .none))) (.cons (.ife (.cmp .NotEq (.bcall .len (.cons (.var 8) .nil)) (.int 2)) (.cons (.ret .fls) .nil) .nil) (.cons (.for_ [9] (.range (.cons (.var 3) .nil)) lb_law_5) (.cons (.for_ [11] (.range (.cons (.var 4) .nil)) lb_law_6) (.cons (.for_ [9] (.range (.cons (.var 3) (.cons (.int 8) .nil))) lb_law_7) (.cons (.asg 13 (.comp le_law_9 1 (.range (.cons (.var 4) .nil)) .nil)) (.cons (.ife lt_law_12 (.cons (.ret .fls) .nil) .nil) law_tail))))))))))))) := rfl
theorem tup_ms {L : Lx} {ln : Int} {t : List Nat} {c : List V} {r : Nat} {l : List V} (h : L.At ln t c σ) (g : σ[r]? = some (.tup l)) : r ∉ Lx.ms L :=
  nms (fun e => by rw [e, h.d] at g; cases g) (fun e => by rw [e, h.t] at g; cases g) (fun e => by rw [e, h.p] at g; cases g)
theorem flat_chars {ns : List Int} {ss : List (List Nat)} (h : Cards ns ss) : ∀ c ∈ ss.flatten, c < 0x110000 := fun c hc => by
  obtain ⟨s, hs, hc⟩ := List.mem_flatten.mp hc
  obtain ⟨n, _, hn⟩ := h.mem hs
  exact (card_chars hn c hc).2.2.2
theorem plain (ns : List Int) (hn : ns.length ≤ 63) : (conOf dfs 20).fn 15 [.obj 0] [.frz (ns.map .int)] fun v σ => v = .bool true ∧ σ[0]? = some (.frz (ns.map .int)) := by
  have g0 : ([O.frz (ns.map .int)] : Sto)[0]? = some (.frz (ns.map .int)) := rfl
  generalize [O.frz (ns.map .int)] = σ₀ at g0
  refine ⟨rfl, ?_⟩
  show wS (conOf dfs 19) ir_law [some (.obj 0), none, none, none, none, none, none, none, none, none, none, none, none, none, none] σ₀ (retK _)
  rw [ir_law_eq]
  ((try simp only [w_cons, w_ife, w_nil, w_ret, r_ret, m_fls, o_one, w_asg, t_cmp, m_int, m_bcall, m_cons, m_nil, m_var, m_list, m_call, m_bin, List.set_cons_succ, List.set_cons_zero, List.getElem?_cons_succ, List.getElem?_cons_zero]); repeat ((first | (with_reducible show wS _ ir_law_t10 _ _ _; unfold ir_law_t10) | (with_reducible show wS _ ir_law_t11 _ _ _; unfold ir_law_t11) | (with_reducible show wS _ ir_law_t12 _ _ _; unfold ir_law_t12) | (with_reducible show wS _ ir_law_t13 _ _ _; unfold ir_law_t13) | (with_reducible show wS _ ir_law_t14 _ _ _; unfold ir_law_t14) | (with_reducible show wS _ ir_law_t15 _ _ _; unfold ir_law_t15) | (with_reducible show wS _ ir_law_t2 _ _ _; unfold ir_law_t2) | (with_reducible show wS _ ir_law_t3 _ _ _; unfold ir_law_t3) | (with_reducible show wS _ ir_law_t4 _ _ _; unfold ir_law_t4) | (with_reducible show wS _ ir_law_t5 _ _ _; unfold ir_law_t5) | (with_reducible show wS _ ir_law_t6 _ _ _; unfold ir_law_t6) | (with_reducible show wS _ ir_law_t7 _ _ _; unfold ir_law_t7) | (with_reducible show wS _ ir_law_t8 _ _ _; unfold ir_law_t8) | (with_reducible show wS _ ir_law_t9 _ _ _; unfold ir_law_t9) | (with_reducible show wS _ lb_law_6_t2 _ _ _; unfold lb_law_6_t2)); (skip)))
  refine cells_spec g0 hn fun cs hc => ?_
  have gc : (σ₀ ++ [O.list (cs.map .int)])[σ₀.length]? = some (.list (cs.map .int)) := List.getElem?_concat_length
  have g1 : (σ₀ ++ [O.list (cs.map .int)])[0]? = some (.frz (ns.map .int)) := Fr.app (m := []) _ _ List.not_mem_nil g0
  generalize σ₀ ++ [O.list (cs.map .int)] = σ₁ at gc g1
  ((skip); repeat ((first | (with_reducible show wS _ ir_law_t10 _ _ _; unfold ir_law_t10) | (with_reducible show wS _ ir_law_t11 _ _ _; unfold ir_law_t11) | (with_reducible show wS _ ir_law_t12 _ _ _; unfold ir_law_t12) | (with_reducible show wS _ ir_law_t13 _ _ _; unfold ir_law_t13) | (with_reducible show wS _ ir_law_t14 _ _ _; unfold ir_law_t14) | (with_reducible show wS _ ir_law_t15 _ _ _; unfold ir_law_t15) | (with_reducible show wS _ ir_law_t2 _ _ _; unfold ir_law_t2) | (with_reducible show wS _ ir_law_t3 _ _ _; unfold ir_law_t3) | (with_reducible show wS _ ir_law_t4 _ _ _; unfold ir_law_t4) | (with_reducible show wS _ ir_law_t5 _ _ _; unfold ir_law_t5) | (with_reducible show wS _ ir_law_t6 _ _ _; unfold ir_law_t6) | (with_reducible show wS _ ir_law_t7 _ _ _; unfold ir_law_t7) | (with_reducible show wS _ ir_law_t8 _ _ _; unfold ir_law_t8) | (with_reducible show wS _ ir_law_t9 _ _ _; unfold ir_law_t9) | (with_reducible show wS _ lb_law_6_t2 _ _ _; unfold lb_law_6_t2)); (skip)))
  rw [f_sum gc]
  refine ⟨cs, intsV_map cs, ?_⟩
  obtain ⟨h, eh, hh⟩ : ∃ h : Nat, 2 - cs.sum % 2 = h ∧ (h = 1 ∨ h = 2) := ⟨(2 - cs.sum % 2).toNat, by lia, by lia⟩
  generalize cs.sum = m at eh
  ((try simp only [v_mod, v_sub, eh, v_pow]); repeat ((first | (with_reducible show wS _ ir_law_t10 _ _ _; unfold ir_law_t10) | (with_reducible show wS _ ir_law_t11 _ _ _; unfold ir_law_t11) | (with_reducible show wS _ ir_law_t12 _ _ _; unfold ir_law_t12) | (with_reducible show wS _ ir_law_t13 _ _ _; unfold ir_law_t13) | (with_reducible show wS _ ir_law_t14 _ _ _; unfold ir_law_t14) | (with_reducible show wS _ ir_law_t15 _ _ _; unfold ir_law_t15) | (with_reducible show wS _ ir_law_t2 _ _ _; unfold ir_law_t2) | (with_reducible show wS _ ir_law_t3 _ _ _; unfold ir_law_t3) | (with_reducible show wS _ ir_law_t4 _ _ _; unfold ir_law_t4) | (with_reducible show wS _ ir_law_t5 _ _ _; unfold ir_law_t5) | (with_reducible show wS _ ir_law_t6 _ _ _; unfold ir_law_t6) | (with_reducible show wS _ ir_law_t7 _ _ _; unfold ir_law_t7) | (with_reducible show wS _ ir_law_t8 _ _ _; unfold ir_law_t8) | (with_reducible show wS _ ir_law_t9 _ _ _; unfold ir_law_t9) | (with_reducible show wS _ lb_law_6_t2 _ _ _; unfold lb_law_6_t2)); (skip)))
  refine ⟨by decide, by lia, by lia, sm_small (by decide) (by decide), ?_⟩
  have ep : (2 : Int) ^ (h : Int).toNat = 2 * (h : Int) := by rcases hh with rfl | rfl <;> rfl
  rw [ep]
  refine rows_spec hc hh gc fun r5 r6 xs l5 l6 g5 g6 => ?_
  have g2 : (σ₁ ++ xs)[0]? = some (.frz (ns.map .int)) := Fr.app (m := []) _ _ List.not_mem_nil g1
  generalize σ₁ ++ xs = σ₂ at g5 g6 g2
  have lf := rowL_len (h := h) hc hh (.inl rfl)
  have lg := rowL_len (h := h) hc hh (.inr rfl)
  have bf := rowL_bd (cs := cs) (h := h) (q := 0)
  have bg := rowL_bd (cs := cs) (h := h) (q := 4)
  generalize rowL cs h 0 = f at g5 lf bf
  generalize rowL cs h 4 = g at g6 lg bg
  have zf : ∀ x ∈ f, Sz x := fun x hx => ⟨by have := (bf x hx).1; lia, by have := (bf x hx).2; lia⟩
  have zg : ∀ x ∈ g, Sz x := fun x hx => ⟨by have := (bg x hx).1; lia, by have := (bg x hx).2; lia⟩
  have ne : ∀ l : List Int, l.length = 2 * h → l ≠ [] := fun l e z => by rw [z] at e; simp at e; lia
  ((try simp only [List.getElem?_cons_succ, List.getElem?_cons_zero, List.set_cons_succ, List.set_cons_zero, v_div]); repeat ((first | (with_reducible show wS _ ir_law_t10 _ _ _; unfold ir_law_t10) | (with_reducible show wS _ ir_law_t11 _ _ _; unfold ir_law_t11) | (with_reducible show wS _ ir_law_t12 _ _ _; unfold ir_law_t12) | (with_reducible show wS _ ir_law_t13 _ _ _; unfold ir_law_t13) | (with_reducible show wS _ ir_law_t14 _ _ _; unfold ir_law_t14) | (with_reducible show wS _ ir_law_t15 _ _ _; unfold ir_law_t15) | (with_reducible show wS _ ir_law_t2 _ _ _; unfold ir_law_t2) | (with_reducible show wS _ ir_law_t3 _ _ _; unfold ir_law_t3) | (with_reducible show wS _ ir_law_t4 _ _ _; unfold ir_law_t4) | (with_reducible show wS _ ir_law_t5 _ _ _; unfold ir_law_t5) | (with_reducible show wS _ ir_law_t6 _ _ _; unfold ir_law_t6) | (with_reducible show wS _ ir_law_t7 _ _ _; unfold ir_law_t7) | (with_reducible show wS _ ir_law_t8 _ _ _; unfold ir_law_t8) | (with_reducible show wS _ ir_law_t9 _ _ _; unfold ir_law_t9) | (with_reducible show wS _ lb_law_6_t2 _ _ _; unfold lb_law_6_t2)); (skip)))
  refine line_spec g5 (by lia) (ne f lf) zf fun L1 p1 ln1 ss1 J1 jt1 ws1 w1 σ₃ C1 eJ1 nJ1 ty1 lj1 A1 F3 b3 gp1 => ?_
  ((skip); repeat ((first | (with_reducible show wS _ ir_law_t10 _ _ _; unfold ir_law_t10) | (with_reducible show wS _ ir_law_t11 _ _ _; unfold ir_law_t11) | (with_reducible show wS _ ir_law_t12 _ _ _; unfold ir_law_t12) | (with_reducible show wS _ ir_law_t13 _ _ _; unfold ir_law_t13) | (with_reducible show wS _ ir_law_t14 _ _ _; unfold ir_law_t14) | (with_reducible show wS _ ir_law_t15 _ _ _; unfold ir_law_t15) | (with_reducible show wS _ ir_law_t2 _ _ _; unfold ir_law_t2) | (with_reducible show wS _ ir_law_t3 _ _ _; unfold ir_law_t3) | (with_reducible show wS _ ir_law_t4 _ _ _; unfold ir_law_t4) | (with_reducible show wS _ ir_law_t5 _ _ _; unfold ir_law_t5) | (with_reducible show wS _ ir_law_t6 _ _ _; unfold ir_law_t6) | (with_reducible show wS _ ir_law_t7 _ _ _; unfold ir_law_t7) | (with_reducible show wS _ ir_law_t8 _ _ _; unfold ir_law_t8) | (with_reducible show wS _ ir_law_t9 _ _ _; unfold ir_law_t9) | (with_reducible show wS _ lb_law_6_t2 _ _ _; unfold lb_law_6_t2)); (skip)))
  refine ⟨by decide, sm_small (by decide) (by decide), ?_⟩
  refine line_spec (F3 _ _ List.not_mem_nil g6) (by lia) (ne g lg) zg fun L2 p2 ln2 ss2 J2 jt2 ws2 w2 σ₄ C2 eJ2 nJ2 ty2 lj2 A2 F4 b4 gp2 => ?_
  have A1' := A1.fr F4 (fun _ h => (List.not_mem_nil h).elim) List.not_mem_nil List.not_mem_nil List.not_mem_nil List.not_mem_nil
  have gp1' := F4 _ _ List.not_mem_nil gp1
  have F24 := F3.trans F4
  obtain ⟨b31, b32, b33, b34⟩ := b3
  obtain ⟨b41, b42, b43, b44⟩ := b4
  have d1 := lt_of_get A1.d
  have d2 := lt_of_get A1.t
  have d3 := lt_of_get A1.p
  have d4 : L1.d2 < σ₃.length := let ⟨_, e, _⟩ := A1.d2; lt_of_get e
  have q0 := lt_of_get g2
  have q5 := lt_of_get g5
  have q6 := lt_of_get g6
  have q34 : σ₂.length ≤ σ₃.length := by lia
  have T0 : TL [(p1, .tup [.obj L1.q, .str J1]), (p2, .tup [.obj L2.q, .str J2]), (0, .frz (ns.map .int)), (r5, .list (f.map .int)), (r6, .list (g.map .int))] σ₃.length L1 L2 ln1 jt1 (ss1.map .str) ln2 jt2 (ss2.map .str) σ₄ := by
    refine ⟨A1', A2, fun e he => ?_, fun e he => ?_, fun e he => ?_, d1, d2, d3, d4, b42, b41, b43, b44⟩
    all_goals simp only [List.mem_cons, List.not_mem_nil, or_false] at he
    all_goals rcases he with rfl | rfl | rfl | rfl | rfl
    · exact gp1'
    · exact gp2
    · exact F24 _ _ List.not_mem_nil g2
    · exact F24 _ _ List.not_mem_nil g5
    · exact F24 _ _ List.not_mem_nil g6
    · exact tup_ms A1' gp1'
    · exact tup_ms A1' gp2
    · exact nms (by lia) (by lia) (by lia)
    · exact nms (by lia) (by lia) (by lia)
    · exact nms (by lia) (by lia) (by lia)
    · exact tup_ms A2 gp1'
    · exact tup_ms A2 gp2
    · exact nms (by lia) (by lia) (by lia)
    · exact nms (by lia) (by lia) (by lia)
    · exact nms (by lia) (by lia) (by lia)
  ((skip); repeat ((first | (with_reducible show wS _ ir_law_t10 _ _ _; unfold ir_law_t10) | (with_reducible show wS _ ir_law_t11 _ _ _; unfold ir_law_t11) | (with_reducible show wS _ ir_law_t12 _ _ _; unfold ir_law_t12) | (with_reducible show wS _ ir_law_t13 _ _ _; unfold ir_law_t13) | (with_reducible show wS _ ir_law_t14 _ _ _; unfold ir_law_t14) | (with_reducible show wS _ ir_law_t15 _ _ _; unfold ir_law_t15) | (with_reducible show wS _ ir_law_t2 _ _ _; unfold ir_law_t2) | (with_reducible show wS _ ir_law_t3 _ _ _; unfold ir_law_t3) | (with_reducible show wS _ ir_law_t4 _ _ _; unfold ir_law_t4) | (with_reducible show wS _ ir_law_t5 _ _ _; unfold ir_law_t5) | (with_reducible show wS _ ir_law_t6 _ _ _; unfold ir_law_t6) | (with_reducible show wS _ ir_law_t7 _ _ _; unfold ir_law_t7) | (with_reducible show wS _ ir_law_t8 _ _ _; unfold ir_law_t8) | (with_reducible show wS _ ir_law_t9 _ _ _; unfold ir_law_t9) | (with_reducible show wS _ lb_law_6_t2 _ _ _; unfold lb_law_6_t2)); (skip)))
  refine ⟨fits_le (by simp), ?_⟩
  have T1 := T0.add (T0.app (xs := [.list [.obj p1, .obj p2]])) (Nat.le_refl _) List.getElem?_concat_length
  generalize σ₄.length = rp at T1 ⊢
  generalize σ₄ ++ [O.list [V.obj p1, V.obj p2]] = σ₅ at T1
  ((skip); repeat ((first | (with_reducible show wS _ ir_law_t10 _ _ _; unfold ir_law_t10) | (with_reducible show wS _ ir_law_t11 _ _ _; unfold ir_law_t11) | (with_reducible show wS _ ir_law_t12 _ _ _; unfold ir_law_t12) | (with_reducible show wS _ ir_law_t13 _ _ _; unfold ir_law_t13) | (with_reducible show wS _ ir_law_t14 _ _ _; unfold ir_law_t14) | (with_reducible show wS _ ir_law_t15 _ _ _; unfold ir_law_t15) | (with_reducible show wS _ ir_law_t2 _ _ _; unfold ir_law_t2) | (with_reducible show wS _ ir_law_t3 _ _ _; unfold ir_law_t3) | (with_reducible show wS _ ir_law_t4 _ _ _; unfold ir_law_t4) | (with_reducible show wS _ ir_law_t5 _ _ _; unfold ir_law_t5) | (with_reducible show wS _ ir_law_t6 _ _ _; unfold ir_law_t6) | (with_reducible show wS _ ir_law_t7 _ _ _; unfold ir_law_t7) | (with_reducible show wS _ ir_law_t8 _ _ _; unfold ir_law_t8) | (with_reducible show wS _ ir_law_t9 _ _ _; unfold ir_law_t9) | (with_reducible show wS _ lb_law_6_t2 _ _ _; unfold lb_law_6_t2)); (skip)))
  rw [m_comp]
  ((try simp only [o_one, i_var, m_var, List.getElem?_cons_succ, List.getElem?_cons_zero, i_lst (T1.ks _ (.head _))]); repeat ((first | (with_reducible show wS _ ir_law_t10 _ _ _; unfold ir_law_t10) | (with_reducible show wS _ ir_law_t11 _ _ _; unfold ir_law_t11) | (with_reducible show wS _ ir_law_t12 _ _ _; unfold ir_law_t12) | (with_reducible show wS _ ir_law_t13 _ _ _; unfold ir_law_t13) | (with_reducible show wS _ ir_law_t14 _ _ _; unfold ir_law_t14) | (with_reducible show wS _ ir_law_t15 _ _ _; unfold ir_law_t15) | (with_reducible show wS _ ir_law_t2 _ _ _; unfold ir_law_t2) | (with_reducible show wS _ ir_law_t3 _ _ _; unfold ir_law_t3) | (with_reducible show wS _ ir_law_t4 _ _ _; unfold ir_law_t4) | (with_reducible show wS _ ir_law_t5 _ _ _; unfold ir_law_t5) | (with_reducible show wS _ ir_law_t6 _ _ _; unfold ir_law_t6) | (with_reducible show wS _ ir_law_t7 _ _ _; unfold ir_law_t7) | (with_reducible show wS _ ir_law_t8 _ _ _; unfold ir_law_t8) | (with_reducible show wS _ ir_law_t9 _ _ _; unfold ir_law_t9) | (with_reducible show wS _ lb_law_6_t2 _ _ _; unfold lb_law_6_t2)); (skip)))
  refine ⟨_, comp_lst (r := rp) (l := [.obj p1, .obj p2]) (fun i acc σ' => acc = [V.obj L1.q, V.obj L2.q].take i ∧ i ≤ 2 ∧ σ' = σ₅) ?_ ?_ ?_ ?_ 2 0 _ _ rfl ⟨rfl, by lia, rfl⟩⟩
  · rintro i acc σ' ⟨rfl, hi, _⟩
    exact fits_le (by simp; lia)
  · rintro i acc σ' ⟨_, _, rfl⟩
    exact T1.ks _ (.head _)
  · rintro i v acc σ' K' hv ⟨rfl, hi, rfl⟩ hK _
    match i, hv with
    | 0, hv =>
      cases hv
      rw [s_two, b_bindT (by decide) (T1.ks _ (.tail _ (.head _)))]
      refine ⟨rfl, ?_⟩
      ((try simp only [List.map_cons, List.map_nil, List.cons_append, List.nil_append, le_law_3, m_var, List.getElem?_cons_succ, List.getElem?_cons_zero, o_one, t_cmp, m_none, c_isntN, reduceCtorEq, false_implies, forall_const, true_and]); repeat ((first | (with_reducible show wS _ ir_law_t10 _ _ _; unfold ir_law_t10) | (with_reducible show wS _ ir_law_t11 _ _ _; unfold ir_law_t11) | (with_reducible show wS _ ir_law_t12 _ _ _; unfold ir_law_t12) | (with_reducible show wS _ ir_law_t13 _ _ _; unfold ir_law_t13) | (with_reducible show wS _ ir_law_t14 _ _ _; unfold ir_law_t14) | (with_reducible show wS _ ir_law_t15 _ _ _; unfold ir_law_t15) | (with_reducible show wS _ ir_law_t2 _ _ _; unfold ir_law_t2) | (with_reducible show wS _ ir_law_t3 _ _ _; unfold ir_law_t3) | (with_reducible show wS _ ir_law_t4 _ _ _; unfold ir_law_t4) | (with_reducible show wS _ ir_law_t5 _ _ _; unfold ir_law_t5) | (with_reducible show wS _ ir_law_t6 _ _ _; unfold ir_law_t6) | (with_reducible show wS _ ir_law_t7 _ _ _; unfold ir_law_t7) | (with_reducible show wS _ ir_law_t8 _ _ _; unfold ir_law_t8) | (with_reducible show wS _ ir_law_t9 _ _ _; unfold ir_law_t9) | (with_reducible show wS _ lb_law_6_t2 _ _ _; unfold lb_law_6_t2)); (skip)))
      exact hK _ _ ⟨rfl, by lia, rfl⟩
    | 1, hv =>
      cases hv
      rw [s_two, b_bindT (by decide) (T1.ks _ (.tail _ (.tail _ (.head _))))]
      refine ⟨rfl, ?_⟩
      ((try simp only [List.map_cons, List.map_nil, List.cons_append, List.nil_append, le_law_3, m_var, List.getElem?_cons_succ, List.getElem?_cons_zero, o_one, t_cmp, m_none, c_isntN, reduceCtorEq, false_implies, forall_const, true_and]); repeat ((first | (with_reducible show wS _ ir_law_t10 _ _ _; unfold ir_law_t10) | (with_reducible show wS _ ir_law_t11 _ _ _; unfold ir_law_t11) | (with_reducible show wS _ ir_law_t12 _ _ _; unfold ir_law_t12) | (with_reducible show wS _ ir_law_t13 _ _ _; unfold ir_law_t13) | (with_reducible show wS _ ir_law_t14 _ _ _; unfold ir_law_t14) | (with_reducible show wS _ ir_law_t15 _ _ _; unfold ir_law_t15) | (with_reducible show wS _ ir_law_t2 _ _ _; unfold ir_law_t2) | (with_reducible show wS _ ir_law_t3 _ _ _; unfold ir_law_t3) | (with_reducible show wS _ ir_law_t4 _ _ _; unfold ir_law_t4) | (with_reducible show wS _ ir_law_t5 _ _ _; unfold ir_law_t5) | (with_reducible show wS _ ir_law_t6 _ _ _; unfold ir_law_t6) | (with_reducible show wS _ ir_law_t7 _ _ _; unfold ir_law_t7) | (with_reducible show wS _ ir_law_t8 _ _ _; unfold ir_law_t8) | (with_reducible show wS _ ir_law_t9 _ _ _; unfold ir_law_t9) | (with_reducible show wS _ lb_law_6_t2 _ _ _; unfold lb_law_6_t2)); (skip)))
      exact hK _ _ ⟨rfl, by lia, rfl⟩
    | i + 2, hv => simp at hv
  rintro acc σ' ⟨rfl, _, rfl⟩
  have T2 := T1.add (T1.app (xs := [.list [.obj L1.q, .obj L2.q]])) (Nat.le_refl _) List.getElem?_concat_length
  have e12 : List.take [V.obj p1, V.obj p2].length [V.obj L1.q, V.obj L2.q] = [V.obj L1.q, V.obj L2.q] := rfl
  rw [e12]
  generalize σ'.length = rl at T2 ⊢
  generalize σ' ++ [O.list [V.obj L1.q, V.obj L2.q]] = σ₆ at T2
  ((skip); repeat ((first | (with_reducible show wS _ ir_law_t10 _ _ _; unfold ir_law_t10) | (with_reducible show wS _ ir_law_t11 _ _ _; unfold ir_law_t11) | (with_reducible show wS _ ir_law_t12 _ _ _; unfold ir_law_t12) | (with_reducible show wS _ ir_law_t13 _ _ _; unfold ir_law_t13) | (with_reducible show wS _ ir_law_t14 _ _ _; unfold ir_law_t14) | (with_reducible show wS _ ir_law_t15 _ _ _; unfold ir_law_t15) | (with_reducible show wS _ ir_law_t2 _ _ _; unfold ir_law_t2) | (with_reducible show wS _ ir_law_t3 _ _ _; unfold ir_law_t3) | (with_reducible show wS _ ir_law_t4 _ _ _; unfold ir_law_t4) | (with_reducible show wS _ ir_law_t5 _ _ _; unfold ir_law_t5) | (with_reducible show wS _ ir_law_t6 _ _ _; unfold ir_law_t6) | (with_reducible show wS _ ir_law_t7 _ _ _; unfold ir_law_t7) | (with_reducible show wS _ ir_law_t8 _ _ _; unfold ir_law_t8) | (with_reducible show wS _ ir_law_t9 _ _ _; unfold ir_law_t9) | (with_reducible show wS _ lb_law_6_t2 _ _ _; unfold lb_law_6_t2)); (skip)))
  rw [f_len (T2.ks _ (.head _))]
  refine ⟨fits_le (by simp), ?_⟩
  ((try simp only [c_ne]); repeat ((first | (with_reducible show wS _ ir_law_t10 _ _ _; unfold ir_law_t10) | (with_reducible show wS _ ir_law_t11 _ _ _; unfold ir_law_t11) | (with_reducible show wS _ ir_law_t12 _ _ _; unfold ir_law_t12) | (with_reducible show wS _ ir_law_t13 _ _ _; unfold ir_law_t13) | (with_reducible show wS _ ir_law_t14 _ _ _; unfold ir_law_t14) | (with_reducible show wS _ ir_law_t15 _ _ _; unfold ir_law_t15) | (with_reducible show wS _ ir_law_t2 _ _ _; unfold ir_law_t2) | (with_reducible show wS _ ir_law_t3 _ _ _; unfold ir_law_t3) | (with_reducible show wS _ ir_law_t4 _ _ _; unfold ir_law_t4) | (with_reducible show wS _ ir_law_t5 _ _ _; unfold ir_law_t5) | (with_reducible show wS _ ir_law_t6 _ _ _; unfold ir_law_t6) | (with_reducible show wS _ ir_law_t7 _ _ _; unfold ir_law_t7) | (with_reducible show wS _ ir_law_t8 _ _ _; unfold ir_law_t8) | (with_reducible show wS _ ir_law_t9 _ _ _; unfold ir_law_t9) | (with_reducible show wS _ lb_law_6_t2 _ _ _; unfold lb_law_6_t2)); (skip)))
  refine ⟨fun q => by simp at q, fun _ => ?_⟩
  refine loop1 T2 (.head _) C1 C2 hh lf lg bf bg fun x9 x10 ds1 ds2 σ₇ D1 D2 T3 => ?_
  ((skip); repeat ((first | (with_reducible show wS _ ir_law_t10 _ _ _; unfold ir_law_t10) | (with_reducible show wS _ ir_law_t11 _ _ _; unfold ir_law_t11) | (with_reducible show wS _ ir_law_t12 _ _ _; unfold ir_law_t12) | (with_reducible show wS _ ir_law_t13 _ _ _; unfold ir_law_t13) | (with_reducible show wS _ ir_law_t14 _ _ _; unfold ir_law_t14) | (with_reducible show wS _ ir_law_t15 _ _ _; unfold ir_law_t15) | (with_reducible show wS _ ir_law_t2 _ _ _; unfold ir_law_t2) | (with_reducible show wS _ ir_law_t3 _ _ _; unfold ir_law_t3) | (with_reducible show wS _ ir_law_t4 _ _ _; unfold ir_law_t4) | (with_reducible show wS _ ir_law_t5 _ _ _; unfold ir_law_t5) | (with_reducible show wS _ ir_law_t6 _ _ _; unfold ir_law_t6) | (with_reducible show wS _ ir_law_t7 _ _ _; unfold ir_law_t7) | (with_reducible show wS _ ir_law_t8 _ _ _; unfold ir_law_t8) | (with_reducible show wS _ ir_law_t9 _ _ _; unfold ir_law_t9) | (with_reducible show wS _ lb_law_6_t2 _ _ _; unfold lb_law_6_t2)); (skip)))
  have bA : ∀ x ∈ itD h h f, Bd 1020 x := fun x hx => (itD_bd bf h x hx).mono (by rcases hh with rfl | rfl <;> decide)
  have bB : ∀ x ∈ itD h h g, Bd 1020 x := fun x hx => (itD_bd bg h x hx).mono (by rcases hh with rfl | rfl <;> decide)
  have lA := itD_len lf h
  have lB := itD_len lg h
  refine loop2 T3 (.head _) D1 D2 hh lA lB bA bB fun x11 x12 es1 σ₈ E1 T4 => ?_
  ((skip); repeat ((first | (with_reducible show wS _ ir_law_t10 _ _ _; unfold ir_law_t10) | (with_reducible show wS _ ir_law_t11 _ _ _; unfold ir_law_t11) | (with_reducible show wS _ ir_law_t12 _ _ _; unfold ir_law_t12) | (with_reducible show wS _ ir_law_t13 _ _ _; unfold ir_law_t13) | (with_reducible show wS _ ir_law_t14 _ _ _; unfold ir_law_t14) | (with_reducible show wS _ ir_law_t15 _ _ _; unfold ir_law_t15) | (with_reducible show wS _ ir_law_t2 _ _ _; unfold ir_law_t2) | (with_reducible show wS _ ir_law_t3 _ _ _; unfold ir_law_t3) | (with_reducible show wS _ ir_law_t4 _ _ _; unfold ir_law_t4) | (with_reducible show wS _ ir_law_t5 _ _ _; unfold ir_law_t5) | (with_reducible show wS _ ir_law_t6 _ _ _; unfold ir_law_t6) | (with_reducible show wS _ ir_law_t7 _ _ _; unfold ir_law_t7) | (with_reducible show wS _ ir_law_t8 _ _ _; unfold ir_law_t8) | (with_reducible show wS _ ir_law_t9 _ _ _; unfold ir_law_t9) | (with_reducible show wS _ lb_law_6_t2 _ _ _; unfold lb_law_6_t2)); (skip)))
  have bP : ∀ x ∈ prods (itD h h f) (itD h h g), Bd 1040400 x := prods_bd bA bB
  refine loop3 T4 (.head _) E1 hh (prods_len lA lB) bP fun x9' gs1 σ₉ G1 T5 => ?_
  have bD := itD_bd' (h := h) (by decide) bP (n := 8 - h) (by lia)
  rw [due_all hh lf lg] at G1 bD
  ((try simp only [List.set_cons_succ, List.set_cons_zero]); repeat ((first | (with_reducible show wS _ ir_law_t10 _ _ _; unfold ir_law_t10) | (with_reducible show wS _ ir_law_t11 _ _ _; unfold ir_law_t11) | (with_reducible show wS _ ir_law_t12 _ _ _; unfold ir_law_t12) | (with_reducible show wS _ ir_law_t13 _ _ _; unfold ir_law_t13) | (with_reducible show wS _ ir_law_t14 _ _ _; unfold ir_law_t14) | (with_reducible show wS _ ir_law_t15 _ _ _; unfold ir_law_t15) | (with_reducible show wS _ ir_law_t2 _ _ _; unfold ir_law_t2) | (with_reducible show wS _ ir_law_t3 _ _ _; unfold ir_law_t3) | (with_reducible show wS _ ir_law_t4 _ _ _; unfold ir_law_t4) | (with_reducible show wS _ ir_law_t5 _ _ _; unfold ir_law_t5) | (with_reducible show wS _ ir_law_t6 _ _ _; unfold ir_law_t6) | (with_reducible show wS _ ir_law_t7 _ _ _; unfold ir_law_t7) | (with_reducible show wS _ ir_law_t8 _ _ _; unfold ir_law_t8) | (with_reducible show wS _ ir_law_t9 _ _ _; unfold ir_law_t9) | (with_reducible show wS _ lb_law_6_t2 _ _ _; unfold lb_law_6_t2)); (skip)))
  refine due_spec hh lf lg bf bg (T5.ks _ (.tail _ (.tail _ (.tail _ (.tail _ (.tail _ (.head _))))))) (T5.ks _ (.tail _ (.tail _ (.tail _ (.tail _ (.tail _ (.tail _ (.head _)))))))) fun rd xs lrd grd => ?_
  have T6 := T5.add (T5.app (xs := xs)) lrd grd
  generalize σ₉ ++ xs = σ₁₀ at T6
  ((skip); repeat ((first | (with_reducible show wS _ ir_law_t10 _ _ _; unfold ir_law_t10) | (with_reducible show wS _ ir_law_t11 _ _ _; unfold ir_law_t11) | (with_reducible show wS _ ir_law_t12 _ _ _; unfold ir_law_t12) | (with_reducible show wS _ ir_law_t13 _ _ _; unfold ir_law_t13) | (with_reducible show wS _ ir_law_t14 _ _ _; unfold ir_law_t14) | (with_reducible show wS _ ir_law_t15 _ _ _; unfold ir_law_t15) | (with_reducible show wS _ ir_law_t2 _ _ _; unfold ir_law_t2) | (with_reducible show wS _ ir_law_t3 _ _ _; unfold ir_law_t3) | (with_reducible show wS _ ir_law_t4 _ _ _; unfold ir_law_t4) | (with_reducible show wS _ ir_law_t5 _ _ _; unfold ir_law_t5) | (with_reducible show wS _ ir_law_t6 _ _ _; unfold ir_law_t6) | (with_reducible show wS _ ir_law_t7 _ _ _; unfold ir_law_t7) | (with_reducible show wS _ ir_law_t8 _ _ _; unfold ir_law_t8) | (with_reducible show wS _ ir_law_t9 _ _ _; unfold ir_law_t9) | (with_reducible show wS _ lb_law_6_t2 _ _ _; unfold lb_law_6_t2)); (skip)))
  refine check_spec T6 (.tail _ (.head _)) (.head _) G1 hh (by simp [dueL]) (fun x hx => ⟨by have := (bD x hx).1; lia, by have := (bD x hx).2; lia⟩) fun σ₁₁ T7 => ?_
  refine ⟨fun q => (by simp at q), fun _ => ?_⟩
  refine ends_spec T7 ty1 nJ1 lj1 ty2 nJ2 lj2 (.tail _ (.head _)) (.tail _ (.tail _ (.head _))) (.tail _ (.tail _ (.tail _ (.head _)))) (.tail _ (.tail _ (.tail _ (.tail _ (.head _))))) (eJ1 ▸ flat_chars C1) (eJ2 ▸ flat_chars C2) fun ρ σ₁₂ hks => ?_
  exact ⟨rfl, hks _ (.tail _ (.tail _ (.tail _ (.tail _ (.tail _ (.head _))))))⟩
end M02.Internal
end

theorem PySem.Challenge.cw_wo0012_02_holds : PySem.Challenge.rw_wo0012_02.Holds :=
  M02.Internal.holds M02.Internal.plain
